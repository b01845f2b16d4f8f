/-
  The walks of IsWhole, flags, ZZFlags, partKindB1 and the laid bound.
-/
import Derived.Test.Qxb6619362aCovers
import Derived.Laws.StructEq
import Derived.Laws.BitsAllLaws
namespace Go.Proofs.Qxb6619362a
open Go.ChangeShapes Go.WideShapes Go.ChangeAt Go.RowKit

/-- A part's kind: whole (0), the last of several (1), one that another follows (2). -/
def kd (after : ByteArray) (more : Bool) : Int := if more then 2 else if after.toList.isEmpty then 0 else 1
/-- A part's flags. -/
def fl (after : ByteArray) (more : Bool) : Int := if more then 12 else if after.toList.isEmpty then 0 else 4

theorem whole_any (after : ByteArray) (more : Bool) (w : World) :
    Calls Try.prog 18 #[.agg #[.string after, .bool more]] w fun e w' => e = .returned (.bool (after.toList.isEmpty && !more)) ∧ w' = w.alloc (pO after more) := by
  by_cases h : after.toList = []
  · cases more
    · go_enter Try.func18, Try.ntmps18
      go_wp2
      go_ret
      exact ⟨by rw [h]; rfl, rfl⟩
    · go_enter Try.func18, Try.ntmps18
      go_wp2
      go_ret
      exact ⟨by rw [h]; rfl, rfl⟩
  · have h' : after.toList.isEmpty = false := by rw [List.isEmpty_eq_false_iff]; exact h
    go_enter Try.func18, Try.ntmps18
    go_wp2
    go_ret
    exact ⟨by rw [h']; rfl, rfl⟩

/-- flags. -/
theorem flags_any (after : ByteArray) (more : Bool) (w : World) :
    Calls Try.prog 16 #[.agg #[.string after, .bool more]] w fun e w' => e = .returned (.int .u8 (fl after more)) ∧ w' = (w.alloc (pO after more)).alloc (pO after more) := by
  have b1 : bits .or .u8 0 4 = 4 := by decide
  have b2 : bits .or .u8 4 8 = 12 := by decide
  have c := whole_any after more
  cases more
  · cases he : after.toList.isEmpty
    · have hf : fl after false = 4 := by unfold fl; rw [he]; rfl
      rw [he] at c
      rw [hf]
      clear he hf
      go_enter Try.func16, Try.ntmps16
      go_wp2_with (go_at_call 18; refine (c _).mono ?_; rintro e w' ⟨rfl, rfl⟩)
      go_ret
      exact ⟨rfl, rfl⟩
    · have hf : fl after false = 0 := by unfold fl; rw [he]; rfl
      rw [he] at c
      rw [hf]
      clear he hf
      go_enter Try.func16, Try.ntmps16
      go_wp2_with (go_at_call 18; refine (c _).mono ?_; rintro e w' ⟨rfl, rfl⟩)
      go_ret
      exact ⟨rfl, rfl⟩
  · have hf : fl after true = 12 := rfl
    rw [Bool.not_true, Bool.and_false] at c
    rw [hf]
    clear hf
    go_enter Try.func16, Try.ntmps16
    go_wp2_with (go_at_call 18; refine (c _).mono ?_; rintro e w' ⟨rfl, rfl⟩)
    go_ret
    exact ⟨rfl, rfl⟩

/-- ZZFlags. -/
theorem zflags_any (after : ByteArray) (more : Bool) (w : World) :
    Calls Try.prog 10 #[.agg #[.string after, .bool more]] w fun e w' => e = .returned (.int .u8 (fl after more)) ∧ w' = ((w.alloc (pO after more)).alloc (pO after more)).alloc (pO after more) := by
  go_enter Try.func10, Try.ntmps10
  go_wp2_with (go_at_call 16; refine (flags_any after more _).mono ?_; rintro e w' ⟨rfl, rfl⟩)
  go_ret
  exact ⟨rfl, rfl⟩

/-- partKindB1. -/
theorem kind_any (after : ByteArray) (more : Bool) (w : World) :
    Calls Try.prog 11 #[.string after, .bool more] w fun e w' => e = .returned (.int .i64 (kd after more)) ∧ w' = w := by
  cases more
  · cases he : after.toList.isEmpty
    · have hf : kd after false = 1 := by unfold kd; rw [he]; rfl
      rw [hf]
      clear hf
      go_enter Try.func11, Try.ntmps11
      go_wp2
      go_ret
      exact ⟨rfl, rfl⟩
    · have hf : kd after false = 0 := by unfold kd; rw [he]; rfl
      rw [hf]
      clear hf
      go_enter Try.func11, Try.ntmps11
      go_wp2
      go_ret
      exact ⟨rfl, rfl⟩
  · have hf : kd after true = 2 := rfl
    rw [hf]
    clear hf
    go_enter Try.func11, Try.ntmps11
    go_wp2
    go_ret
    exact ⟨rfl, rfl⟩

/-- zzBytes_FnFlagsSameExactlyForSameKind answers some bool. -/
theorem bytes5 (s t : ByteArray) (p q : Bool) (w : World) (z1 : s.size ≤ maxLen) (z2 : t.size ≤ maxLen) :
    Calls Try.prog 9 #[.string s, .bool p, .string t, .bool q] w fun e w' => e = .returned (.bool (decide ((s.size : Int) + t.size ≤ 1048576))) ∧ w' = w := by
  unfold maxLen at z1 z2
  by_cases h1 : (1048576 : Int) < s.size
  · rw [decide_eq_false (by omega)]
    go_enter Try.func9, Try.ntmps9
    go_wp2
    go_ret
    exact ⟨rfl, rfl⟩
  by_cases h2 : (1048576 : Int) < t.size
  · rw [decide_eq_false (by omega)]
    go_enter Try.func9, Try.ntmps9
    go_wp2
    go_ret
    exact ⟨rfl, rfl⟩
  by_cases h3 : (s.size : Int) + t.size ≤ 1048576
  · rw [decide_eq_true h3]
    go_enter Try.func9, Try.ntmps9
    go_wp2
    go_ret
    exact ⟨rfl, rfl⟩
  · rw [decide_eq_false h3]
    go_enter Try.func9, Try.ntmps9
    go_wp2
    go_ret
    exact ⟨rfl, rfl⟩

/-- The three kinds, each with its number and its flags. -/
theorem kinds (after : ByteArray) (more : Bool) : (kd after more = 0 ∧ fl after more = 0) ∨ (kd after more = 1 ∧ fl after more = 4) ∨ (kd after more = 2 ∧ fl after more = 12) := by
  unfold kd fl
  cases more
  · cases after.toList.isEmpty
    · exact Or.inr (Or.inl ⟨rfl, rfl⟩)
    · exact Or.inl ⟨rfl, rfl⟩
  · exact Or.inr (Or.inr ⟨rfl, rfl⟩)
end Go.Proofs.Qxb6619362a
