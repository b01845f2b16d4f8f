/-
  The walks of coversUpTo and Covers; byte order, plainly.
-/
import Derived.Test.Qxb6619362aRows
import Derived.WalkKit
import Derived.ProofKit
import Derived.WalkLawsBesides
import Derived.WalkSpells
import Derived.Below
import Derived.Laws.NewBlocks
namespace Go.Proofs.Qxb6619362a
open Go.ChangeShapes Go.WideShapes Go.ChangeAt Go.RowKit

/-! ### Byte order -/
/-- 'a <= b' on strings. -/
def le (a b : ByteArray) : Bool := Op.bytesLess a.toList b.toList || a.toList == b.toList
/-- What coversUpTo answers. -/
def cov (after : ByteArray) (more : Bool) (last name : ByteArray) : Bool := !le name after && (!more || le name last)

/-- The block of a part. -/
abbrev pO (after : ByteArray) (more : Bool) : Obj := .cells #[.string after, .bool more] 27

theorem ret_bool {a b : Bool} (h : a = b) : Ending.returned (.bool a) = .returned (.bool b) := by rw [h]

/-- coversUpTo. -/
theorem upTo_any (after last name : ByteArray) (more : Bool) (w : World) :
    Calls Try.prog 17 #[.agg #[.string after, .bool more], .string last, .string name] w fun e w' => e = .returned (.bool (cov after more last name)) ∧ w' = w.alloc (pO after more) := by
  have g1 : (!(Op.bytesLess name.toList after.toList || name.toList == after.toList)) = !le name after := rfl
  cases h1 : le name after <;> cases more
  all_goals
    rw [h1] at g1
    go_enter Try.func17, Try.ntmps17
    go_wp2
    go_ret
    refine ⟨ret_bool ?_, rfl⟩
    unfold cov
    rw [h1]
    rfl

/-- Covers at a slice that holds nothing. -/
theorem covers_none (after name : ByteArray) (more : Bool) (a : Option Addr) (cap : Nat) (w : World) :
    Calls Try.prog 13 #[.agg #[.string after, .bool more], .slice a 0 cap, .string name] w fun e w' => e = .returned (.bool (cov after more ByteArray.empty name)) ∧ Below w.heap.size w w' := by
  go_enter Try.func13, Try.ntmps13
  go_wp2_with (go_at_call 17; refine (upTo_any _ _ _ _ _).mono ?_; rintro e w' ⟨rfl, rfl⟩)
  go_ret
  exact ⟨rfl, ((Below.refl _ _).alloc (Nat.le_refl _) _).alloc (by simp) _⟩

/-- Covers at a slice whose last name is known. -/
theorem covers_some (after name last : ByteArray) (more : Bool) (b off n cap : Nat) (w : World) (hb : b < w.heap.size) (hn : n + 1 ≤ maxLen) (hc : w.cell? ⟨b, off + n, none⟩ = some (.string last)) :
    Calls Try.prog 13 #[.agg #[.string after, .bool more], .slice (some ⟨b, off, none⟩) (n + 1) cap, .string name] w fun e w' => e = .returned (.bool (cov after more last name)) ∧ Below w.heap.size w w' := by
  unfold maxLen at hn
  have hc' : ∀ O, (w.alloc O).cell? ⟨b, off + n, none⟩ = some (.string last) := fun O => by rw [World.cell?_alloc_past _ _ _ hb]; exact hc
  go_enter Try.func13, Try.ntmps13
  go_wp2_with (go_at_call 17; refine (upTo_any _ _ _ _ _).mono ?_; rintro e w' ⟨rfl, rfl⟩)
  go_ret
  exact ⟨rfl, ((Below.refl _ _).alloc (Nat.le_refl _) _).alloc (by simp) _⟩
end Go.Proofs.Qxb6619362a
