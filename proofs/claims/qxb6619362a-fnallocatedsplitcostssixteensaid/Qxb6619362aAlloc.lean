/-
  The walk of allocated and its door.
-/
import Derived.Test.Qxb6619362aRows
import Derived.WalkKit
import Derived.ProofKit
import Derived.WalkLawsBesides
import Derived.WalkSpells
import Derived.Deep.RegionWith
namespace Go.Proofs.Qxb6619362a
open Go.ChangeShapes Go.WideShapes Go.ChangeAt Go.RowKit

/-- What an object of n bytes takes. -/
def al (n : Int) : Int := if n = 0 then 0 else n + n / 4 + 16

theorem ret_int {k : IntKind} {a b : Int} (h : a = b) : Ending.returned (.int k a) = .returned (.int k b) := by rw [h]

theorem alloc_any (n : Int) (h0 : 0 ≤ n) (h1 : n ≤ 4611686018427387904) (w : World) : Calls Try.prog 15 #[.int .i64 n] w fun e w' => e = .returned (.int .i64 (al n)) ∧ w' = w := by
  by_cases hz : n = 0
  · subst hz
    go_enter Try.func15, Try.ntmps15
    go_wp2
    go_ret
    exact ⟨rfl, rfl⟩
  · have hz' : (n == 0) = false := by rw [beq_eq_false_iff_ne]; exact hz
    have ha : n + n / 4 + 16 = al n := by unfold al; rw [if_neg hz]
    go_enter Try.func15, Try.ntmps15
    go_wp2
    go_ret
    exact ⟨ret_int (by rfl), rfl⟩

theorem zalloc_any (n : Int) (h0 : 0 ≤ n) (h1 : n ≤ 4611686018427387904) (w : World) : Calls Try.prog 8 #[.int .i64 n] w fun e w' => e = .returned (.int .i64 (al n)) ∧ w' = w := by
  go_enter Try.func8, Try.ntmps8
  go_wp2_with (go_at_call 15; refine (alloc_any n h0 h1 _).mono ?_; rintro e w' ⟨rfl, rfl⟩)
  go_ret
  exact ⟨rfl, rfl⟩

theorem al_bd (n : Int) (h0 : 0 ≤ n) (h1 : n ≤ 4611686018427387904) : 0 ≤ al n ∧ al n ≤ 5764607523034234896 := by
  unfold al; split <;> omega
end Go.Proofs.Qxb6619362a
