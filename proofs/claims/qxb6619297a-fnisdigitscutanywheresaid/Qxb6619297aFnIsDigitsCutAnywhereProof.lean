/-
  The proof of 'Rows.FnIsDigitsCutAnywhereSaid'. The frame is the guide's template; the walk and the plain law are ours.
-/
import Derived.Test.Qxb6619297aRows
import Derived.Test.Qxb6619297aDigits
import Derived.WalkKit
import Derived.ProofKit
import Derived.OpenShut
import Derived.ShutString
import Derived.Deep.QuietTactic
import Derived.BigQuiet
import Derived.Deep.RegionWith
import Derived.RowKit3
import Derived.Lib.Strings
namespace Go.Proofs.Qxb6619297a.fnIsDigitsCutAnywhere
open Go.ChangeShapes Go.WideShapes Go.ChangeAt Go.RowKit
open Go.ChangeMaps (open_string shut_string)
set_option linter.unusedVariables false

theorem own : ownKnob Try.prog.godebug = none := by kernel_rfl

theorem grown_drewN (w : World) (n : Nat) : Grown w (w.drewN n) := by
  induction n generalizing w with
  | zero => exact Grown.refl _
  | succ n ih => exact Grown.drew (ih w)

/-! ### THE WALK: the Go text returns true -/
/-- The cut lies before the end: the three pieces, and the byte behind the cut. -/
theorem walk_in (s a b c : ByteArray) (k : Nat) (ch : UInt8) (e1 va vb : Bool) (hk : k < s.size) (hs : s.size ≤ maxLen) (hs2 : (s.size : Int) ≤ 1048576)
    (ea : s.extract 0 k = a) (eb : s.extract k s.size = b) (ec : s.extract k (k + 1) = c) (hch : s[k] = ch)
    (es : s.toList.isEmpty = false) (hea : a.toList.isEmpty = e1) (heb : b.toList.isEmpty = false)
    (cs : ∀ w, Calls Try.prog 5 #[.string s] w fun e w' => e = .returned (.bool ((e1 || va) && vb)) ∧ w' = w)
    (ca : ∀ w, Calls Try.prog 5 #[.string a] w fun e w' => e = .returned (.bool va) ∧ w' = w)
    (cb : ∀ w, Calls Try.prog 5 #[.string b] w fun e w' => e = .returned (.bool vb) ∧ w' = w)
    (cc : ∀ w, Calls Try.prog 5 #[.string c] w fun e w' => e = .returned (.bool (dg ch)) ∧ w' = w) (w : World) :
    Calls Try.prog 3 #[.string s, .int .i64 k] w fun e w' => e = .returned (.bool true) ∧ Grown w w' := by
  have cz := bytes_any s k hs
  rw [decide_eq_true hs2] at cz
  unfold maxLen at hs
  cases e1 <;> cases va <;> cases vb
  all_goals
    go_enter Try.func3, Try.ntmps3
    go_wp2_with (first | (go_at_call 4; refine (cz _).mono ?_; rintro e w' ⟨rfl, rfl⟩) | (go_at_call_of 5 (Value.string s); refine (cs _).mono ?_; rintro e w' ⟨rfl, rfl⟩) | (go_at_call_of 5 (Value.string a); refine (ca _).mono ?_; rintro e w' ⟨rfl, rfl⟩) | (go_at_call_of 5 (Value.string b); refine (cb _).mono ?_; rintro e w' ⟨rfl, rfl⟩))
    go_quiet ((first | (go_at_call 5; exact Calls.quiet_of_same (cc _)) | (go_at_call 6; exact Calls.quiet_of_same (digit_any ch _))))
    go_wp2
    go_ret
    exact ⟨rfl, grown_drewN _ _⟩

/-- The cut lies at the end: nothing stands behind it. -/
theorem walk_end (s b : ByteArray) (e1 va : Bool) (hs : s.size ≤ maxLen) (hs2 : (s.size : Int) ≤ 1048576)
    (ea : s.extract 0 s.size = s) (eb : s.extract s.size s.size = b)
    (es : s.toList.isEmpty = e1) (heb : b.toList.isEmpty = true)
    (cs : ∀ w, Calls Try.prog 5 #[.string s] w fun e w' => e = .returned (.bool (!e1 && va)) ∧ w' = w) (w : World) :
    Calls Try.prog 3 #[.string s, .int .i64 s.size] w fun e w' => e = .returned (.bool true) ∧ Grown w w' := by
  have cz := bytes_any s s.size hs
  rw [decide_eq_true hs2] at cz
  unfold maxLen at hs
  cases e1 <;> cases va
  all_goals
    go_enter Try.func3, Try.ntmps3
    go_wp2_with (first | (go_at_call 4; refine (cz _).mono ?_; rintro e w' ⟨rfl, rfl⟩) | (go_at_call_of 5 (Value.string s); refine (cs _).mono ?_; rintro e w' ⟨rfl, rfl⟩))
    go_ret
    exact ⟨rfl, Grown.refl _⟩

theorem walk (a0 : ByteArray) (a1 : Int) (w0 : a0.size ≤ maxLen) (w1 : (Lit.int .i64 a1).wf = true) (w : World) :
    Calls Try.prog 3 #[.string a0, .int .i64 a1] w fun e w' => e = .returned (.bool true) ∧ Grown w w' := by
  have cz := bytes_any a0 a1 w0
  by_cases h1 : (a0.size : Int) ≤ 1048576
  · rw [decide_eq_true h1] at cz
    by_cases h2 : a1 < 0
    · have hs := w0
      unfold maxLen at hs
      go_enter Try.func3, Try.ntmps3
      go_wp2_with (go_at_call 4; refine (cz _).mono ?_; rintro e w' ⟨rfl, rfl⟩)
      go_ret
      exact ⟨rfl, Grown.refl _⟩
    by_cases h3 : (a0.size : Int) < a1
    · have hs := w0
      unfold maxLen at hs
      go_enter Try.func3, Try.ntmps3
      go_wp2_with (go_at_call 4; refine (cz _).mono ?_; rintro e w' ⟨rfl, rfl⟩)
      go_ret
      exact ⟨rfl, Grown.refl _⟩
    obtain ⟨k, rfl⟩ := Int.eq_ofNat_of_zero_le (show 0 ≤ a1 by omega)
    have hl : a0.data.toList.length = a0.size := by simp
    by_cases hk : k < a0.size
    · have d1 : (a0.extract 0 k).data.toList = a0.data.toList.take k := by rw [Lib.extract_data]; simp
      have d2 : (a0.extract k a0.size).data.toList = a0.data.toList.drop k := by rw [Lib.extract_data, List.take_of_length_le (by simp)]
      have d3 : (a0.extract k (k + 1)).data.toList = [a0[k]] := by
        rw [Lib.extract_data, show k + 1 - k = 1 by omega, List.take_one, List.head?_drop]
        have : a0.data.toList[k]? = some a0[k] := by rw [List.getElem?_eq_getElem (by omega)]; rfl
        rw [this]; rfl
      have z1 : (a0.extract 0 k).size ≤ maxLen := by have : (a0.extract 0 k).size ≤ a0.size := by simp; omega
                                                     omega
      have z2 : (a0.extract k a0.size).size ≤ maxLen := by have : (a0.extract k a0.size).size ≤ a0.size := by simp
                                                           omega
      have z3 : (a0.extract k (k + 1)).size ≤ maxLen := by have : (a0.extract k (k + 1)).size ≤ a0.size := by simp; omega
                                                           omega
      have law := cut_law a0.data.toList k
      have n1 : a0.data.toList.isEmpty = false := by rw [List.isEmpty_eq_false_iff]; intro h; rw [h] at hl; simp at hl; omega
      have n2 : (a0.data.toList.drop k).isEmpty = false := by rw [List.isEmpty_eq_false_iff]; intro h; have := congrArg List.length h; simp at this; omega
      rw [n1, n2, Bool.not_false, Bool.true_and, Bool.false_or] at law
      refine walk_in a0 _ _ _ k a0[k] (a0.data.toList.take k).isEmpty (allD (a0.data.toList.take k)) (allD (a0.data.toList.drop k)) hk w0 h1 rfl rfl rfl rfl ?_ ?_ ?_ ?_ ?_ ?_ ?_ w
      · rw [ByteArray.toList_eq]; exact n1
      · rw [ByteArray.toList_eq, d1]
      · rw [ByteArray.toList_eq, d2]; exact n2
      · intro w; rw [← law]; exact zis_any a0 w0 w
      · intro w; rw [← d1]; exact zis_any _ z1 w
      · intro w; rw [← d2]; exact zis_any _ z2 w
      · intro w; rw [← one_law, ← d3]; exact zis_any _ z3 w
    · obtain rfl : k = a0.size := by omega
      refine walk_end a0 _ a0.data.toList.isEmpty (a0.data.toList.all dg) w0 h1 ?_ rfl ?_ ?_ ?_ w
      · exact ByteArray.extract_zero_size
      · rw [ByteArray.toList_eq]
      · rw [ByteArray.toList_eq, Lib.extract_data]; simp
      · intro w; exact zis_any a0 w0 w
  · rw [decide_eq_false h1] at cz
    go_enter Try.func3, Try.ntmps3
    go_wp2_with (go_at_call 4; refine (cz _).mono ?_; rintro e w' ⟨rfl, rfl⟩)
    go_ret
    exact ⟨rfl, Grown.refl _⟩

/-! ### THE ROW's STEP: WRITTEN OUT: LEAVE IT -/
set_option maxRecDepth 100000 in
theorem lifted (os : Os) (started : os.Started) (H : Type) (enc : TypeId × Value → H) :
    ReturnsInHanded {} Try.checked os 3 .any (Rows.fnIsDigitsCutAnywhereSpec.pre6 enc Try.prog Try.f3 Rows.fnIsDigitsCutAnywhereRow.domain false) (Rows.fnIsDigitsCutAnywhereSpec.post enc Try.prog Try.f3 false true false false) := by
  refine returnsInHanded_of_change (C := Try.checked) own started (by kernel_rfl) Try.func3
    (ChangeSpec.witness6 (enc := enc) (C := Try.checked) false ⟨#[], #[.string ByteArray.empty, .int .i64 0], []⟩ 8 (by kernel_rfl) (by kernel_rfl) (by kernel_rfl) (by kernel_rfl)) ?_
  intro W base args ds gs before hval0 hW hcnd _
  have hval : ∀ (j : Nat) t v, Try.f3.params[j]? = some t → args[j]? = some v → Value.okWide Try.prog W .any base t v := hval0
  have hW' := hW
  obtain ⟨p, q, hA0, hV, rfl, hfz, hnd⟩ := hW
  have hA : DataW.TrodAll enc Try.prog W 0 (fun _ => true) true Try.f3.params.toList args.toList ds p := hA0
  rw [Try.params3] at hA hval
  obtain ⟨v0, vs0, d0, ds0, p0, q0, hargs, rfl, rfl, h0, r0⟩ := trodAll_cons hA
  obtain ⟨v1, vs1, d1, ds1, p1, q1, rfl, rfl, rfl, h1, r1⟩ := trodAll_cons r0
  obtain ⟨rfl, rfl, rfl⟩ := trodAll_nil r1
  obtain rfl : args = #[v0, v1] := by cases args; simp_all
  obtain ⟨rfl, rfl⟩ := trodVars_none hV
  obtain ⟨a0, rfl, rfl, rfl, w0⟩ := open_string Try.underlying9 (hval 0 9 v0 rfl rfl) h0
  obtain ⟨a1, rfl, rfl, rfl, w1⟩ := open_int Try.underlying3 (hval 1 3 v1 rfl rfl) h1
  clear hA0 hval0
  simp only [List.append_nil] at hW'
  refine (walk a0 a1 w0 w1 W).mono fun e W' ⟨he, hg⟩ => ?_
  subst he
  exact ⟨_, rfl, post_of_same (pa := []) (pv := []) hW' (fun _ _ _ => (trodAll_cons_mk (shut_bool Try.underlying4 _) trodAll_mk0)) (fun sp _ => (trodAll_cons_mk (shut_string Try.underlying9 w0) (trodAll_cons_mk (shut_int Try.underlying3 w1) trodAll_mk0))) (fun _ _ => rfl) rfl
    (hg.frame _) hg.2.1 (ok_one (by kernel_rfl) rfl (okWide_bool_mk Try.underlying4 _))⟩

theorem over : Rows.fnIsDigitsCutAnywhereRow.holds Try.pinned (OpenSpec.ofChange Rows.fnIsDigitsCutAnywhereSpec) :=
  OpenClaim.holds_of_wide 3 Try.f3 rfl rfl rfl rfl rfl rfl rfl ⟨rfl, rfl, rfl, rfl, rfl⟩ rfl rfl rfl rfl rfl (by kernel_rfl) Try.func3 (by kernel_rfl)
    (of_decide_eq_true (by kernel_rfl)) (by unfold Func.isWrapper; first | (rw [if_pos (by decide +kernel)]; kernel_rfl) | (rw [if_neg (by decide +kernel)]; exact ⟨rfl, rfl⟩))
    (fun os started H enc _ => lifted os started H enc)

/-- ████ THE STATEMENT ████ -/
theorem proved : Rows.FnIsDigitsCutAnywhereSaid :=
  over
#print axioms proved
end Go.Proofs.Qxb6619297a.fnIsDigitsCutAnywhere
