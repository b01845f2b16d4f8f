/-
  The walks of isDigits and its kin; the plain law of a cut. 
-/
import Derived.Test.Qxb6619297aRows
import Derived.WalkKit
import Derived.ProofKit
import Derived.WalkLawsBesides
import Derived.WalkSpells
namespace Go.Proofs.Qxb6619297a
open Go.ChangeShapes Go.WideShapes Go.ChangeAt Go.RowKit

/-! ### The plain law -/
/-- A byte is a digit. -/
def dg (c : UInt8) : Bool := decide (48 ≤ (c.toNat : Int)) && decide ((c.toNat : Int) ≤ 57)
/-- A text is all digits. -/
def allD (l : List UInt8) : Bool := !l.isEmpty && l.all dg

theorem cut_law (l : List UInt8) (i : Nat) :
    allD l = (!l.isEmpty && ((l.take i).isEmpty || allD (l.take i)) && ((l.drop i).isEmpty || allD (l.drop i))) := by
  unfold allD
  have h : l.all dg = ((l.take i).all dg && (l.drop i).all dg) := by rw [← List.all_append, List.take_append_drop]
  rw [h]
  cases ha : (l.take i).isEmpty
  · have hl : l.isEmpty = false := by
      cases l with
      | nil => simp at ha
      | cons x t => rfl
    cases hb : (l.drop i).isEmpty
    · simp [hl]
    · rw [List.isEmpty_iff] at hb; simp [hl, hb]
  · rw [List.isEmpty_iff] at ha
    have hd : l.drop i = l := by have := List.take_append_drop i l; rw [ha] at this; simpa using this
    rw [ha, hd]
    cases hl : l.isEmpty <;> simp
theorem one_law (c : UInt8) : allD [c] = dg c := by simp [allD]

/-! ### The walks -/
theorem ret_bool {a b : Bool} (h : a = b) : Ending.returned (.bool a) = .returned (.bool b) := by rw [h]

theorem take_snoc (s : ByteArray) (k : Nat) (h : k < s.size) : s.data.toList.take (k + 1) = s.data.toList.take k ++ [s[k]] := by
  rw [List.take_succ_eq_append_getElem (by simpa using h)]; rfl

theorem allD_snoc (s : ByteArray) (k : Nat) (h : k < s.size) : (s.data.toList.take (k + 1)).all dg = ((s.data.toList.take k).all dg && dg s[k]) := by
  rw [take_snoc s k h, List.all_append]; simp
theorem allD_no (s : ByteArray) (k : Nat) (h : k < s.size) (hd : dg s[k] = false) : allD s.data.toList = false := by
  unfold allD
  have : s.data.toList.all dg = ((s.data.toList.take (k + 1)).all dg && (s.data.toList.drop (k + 1)).all dg) := by rw [← List.all_append, List.take_append_drop]
  rw [this, allD_snoc s k h, hd]; simp
theorem dg_lo {c : UInt8} (h : (c.toNat : Int) < 48) : dg c = false := by unfold dg; rw [decide_eq_false (by omega)]; rfl
theorem dg_hi {c : UInt8} (h : 57 < (c.toNat : Int)) : dg c = false := by unfold dg; rw [decide_eq_false (p := (c.toNat : Int) ≤ 57) (by omega), Bool.and_false]
theorem dg_in {c : UInt8} (h : 48 ≤ (c.toNat : Int)) (h' : (c.toNat : Int) ≤ 57) : dg c = true := by unfold dg; rw [decide_eq_true h, decide_eq_true h']; rfl

set_option maxHeartbeats 400000 in
/-- isDigits. -/
theorem isDigits_any (s : ByteArray) (hs : s.size ≤ maxLen) (w : World) : Calls Try.prog 7 #[.string s] w fun e w' => e = .returned (.bool (allD s.data.toList)) ∧ w' = w := by
  unfold maxLen at hs
  cases h0 : s.toList.isEmpty
  · have hne : s.data.toList.isEmpty = false := by rw [← ByteArray.toList_eq]; exact h0
    go_enter Try.func7, Try.ntmps7
    go_wp2
    go_loop [3] (fun i => ∃ k : Nat, k ≤ s.size ∧ i = .int .i64 k ∧ Hid ((s.data.toList.take k).all dg = true)) (fun i => s.size - (intOf i).toNat)
    case atStart => exact ⟨0, Nat.zero_le _, rfl, by simp [Hid]⟩
    case round =>
      obtain ⟨k, hk, rfl, hd⟩ := hrel
      by_cases hlt : k < s.size
      · have hsn : Hid ((s.data.toList.take (k + 1)).all dg = ((s.data.toList.take k).all dg && dg s[k])) := allD_snoc s k hlt
        by_cases h1 : (s[k].toNat : Int) < 48
        · have hno : Hid (allD s.data.toList = false) := allD_no s k hlt (dg_lo h1)
          go_wp2
          go_ret
          exact ⟨ret_bool hno.out.symm, rfl⟩
        · by_cases h2 : 57 < (s[k].toNat : Int)
          · have hno : Hid (allD s.data.toList = false) := allD_no s k hlt (dg_hi h2)
            go_wp2
            go_ret
            exact ⟨ret_bool hno.out.symm, rfl⟩
          · have hyes : Hid (dg s[k] = true) := dg_in (by omega) (by omega)
            go_wp2
            go_round
            case rel => exact ⟨k + 1, by omega, by go_num, by show _ = _; rw [hsn.out, hd.out, hyes.out]; rfl⟩
            case measure => simp [intOf]; omega
      · have hyes : Hid (allD s.data.toList = true) := by
          show _ = _
          have := hd.out
          rw [List.take_of_length_le (by simp; omega)] at this
          unfold allD; rw [hne, this]; rfl
        go_wp2
        go_ret
        exact ⟨ret_bool hyes.out.symm, rfl⟩
  · have he : Hid (allD s.data.toList = false) := by
      show _ = _
      rw [← ByteArray.toList_eq]; unfold allD; rw [h0]; rfl
    go_enter Try.func7, Try.ntmps7
    go_wp2
    go_ret
    exact ⟨ret_bool he.out.symm, rfl⟩

/-- ZZisDigits. -/
theorem zis_any (s : ByteArray) (hs : s.size ≤ maxLen) (w : World) : Calls Try.prog 5 #[.string s] w fun e w' => e = .returned (.bool (allD s.data.toList)) ∧ w' = w := by
  go_enter Try.func5, Try.ntmps5
  go_wp2_with (go_at_call 7; refine (isDigits_any s hs _).mono ?_; rintro e w' ⟨rfl, rfl⟩)
  go_ret
  exact ⟨rfl, rfl⟩

/-- zzIsDigit. -/
theorem digit_any (c : UInt8) (w : World) : Calls Try.prog 6 #[.int .u8 (c.toNat : Int)] w fun e w' => e = .returned (.bool (dg c)) ∧ w' = w := by
  by_cases h1 : 48 ≤ (c.toNat : Int)
  · by_cases h2 : (c.toNat : Int) ≤ 57
    · rw [dg_in h1 h2]
      go_enter Try.func6, Try.ntmps6
      go_wp2
      go_ret
      exact ⟨rfl, rfl⟩
    · rw [dg_hi (by omega)]
      go_enter Try.func6, Try.ntmps6
      go_wp2
      go_ret
      exact ⟨rfl, rfl⟩
  · rw [dg_lo (by omega)]
    go_enter Try.func6, Try.ntmps6
    go_wp2
    go_ret
    exact ⟨rfl, rfl⟩

/-- The program-laid bound on lengths. -/
theorem bytes_any (s : ByteArray) (i : Int) (hs : s.size ≤ maxLen) (w : World) : Calls Try.prog 4 #[.string s, .int .i64 i] w fun e w' => e = .returned (.bool (decide ((s.size : Int) ≤ 1048576))) ∧ w' = w := by
  unfold maxLen at hs
  by_cases h : (s.size : Int) ≤ 1048576
  · rw [decide_eq_true h]
    go_enter Try.func4, Try.ntmps4
    go_wp2
    go_ret
    exact ⟨rfl, rfl⟩
  · rw [decide_eq_false h]
    go_enter Try.func4, Try.ntmps4
    go_wp2
    go_ret
    exact ⟨rfl, rfl⟩
end Go.Proofs.Qxb6619297a
