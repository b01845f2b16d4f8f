/-
  The walks of isFinite and decompose.
-/
import Derived.Test.Qxb6619276aRoundC
import Derived.Test.Qxb6619276aFloatC
namespace Go.Proofs.Qxb6619276a
open Go.ChangeShapes Go.WideShapes Go.ChangeAt Go.RowKit
open Fl

theorem order_self_eq (x : Nat) : (FloatKind.f64.format.order x x == some .eq) = !decide (9218868437227405312 < rg x) := by
  have h := order_self x
  rw [bne] at h
  show (Ieee.double.order x x == some .eq) = _
  rw [← h, Bool.not_not]

theorem le_max (x : Nat) (h : rg x < 9218868437227405312) : (FloatKind.f64.format.order x 9218868437227405311 == some .lt || FloatKind.f64.format.order x 9218868437227405311 == some .eq) = true := by
  show (Ieee.double.order x 9218868437227405311 == some .lt || Ieee.double.order x 9218868437227405311 == some .eq) = true
  rw [lt_fin h (by decide), eq_fin h (by decide), sv_pos (x := 9218868437227405311) (by decide)]
  have := V_le (a := rg x) (b := 9218868437227405311) (by omega)
  have hle : sv x ≤ V 9218868437227405311 := by unfold sv; split <;> omega
  rw [← Bool.decide_or, decide_eq_true]
  omega
theorem ge_min (x : Nat) (h : rg x < 9218868437227405312) : (FloatKind.f64.format.order x 18442240474082181119 == some .gt || FloatKind.f64.format.order x 18442240474082181119 == some .eq) = true := by
  show (Ieee.double.order x 18442240474082181119 == some .gt || Ieee.double.order x 18442240474082181119 == some .eq) = true
  rw [gt_fin h (by decide), eq_fin h (by decide)]
  have e : sv 18442240474082181119 = -(V 9218868437227405311 : Int) := rfl
  rw [e]
  have := V_le (a := rg x) (b := 9218868437227405311) (by omega)
  have hle : -(V 9218868437227405311 : Int) ≤ sv x := by unfold sv; split <;> omega
  rw [← Bool.decide_or, decide_eq_true]
  omega

theorem isFinite_yes (x : Nat) (h : rg x < 9218868437227405312) (w : World) : Calls Try.prog 10 #[.float .f64 x] w fun e w' => e = .returned (.bool true) ∧ w' = w := by
  have h1 : (FloatKind.f64.format.order x x == some .eq) = true := by rw [order_self_eq, decide_eq_false (by omega)]; rfl
  have h2 := le_max x h
  have h3 := ge_min x h
  go_enter Try.func10, Try.ntmps10
  go_wp2
  go_ret
  exact ⟨rfl, rfl⟩

theorem isFinite_nan (x : Nat) (h : 9218868437227405312 < rg x) (w : World) : Calls Try.prog 10 #[.float .f64 x] w fun e w' => e = .returned (.bool false) ∧ w' = w := by
  have h1 : (FloatKind.f64.format.order x x == some .eq) = false := by rw [order_self_eq, decide_eq_true h]; rfl
  go_enter Try.func10, Try.ntmps10
  go_wp2
  go_ret
  exact ⟨rfl, rfl⟩

theorem isFinite_inf (x : Nat) (h : rg x = 9218868437227405312) (w : World) : Calls Try.prog 10 #[.float .f64 x] w fun e w' => e = .returned (.bool false) ∧ w' = w := by
  have h1 : (FloatKind.f64.format.order x x == some .eq) = true := by rw [order_self_eq, decide_eq_false (by omega)]; rfl
  have rd : Ieee.double.read x = .infinity (sgn x) := by rw [read_eq, if_neg (by omega), if_neg (by omega), if_pos h]
  have hm : Ieee.double.read 9218868437227405311 = .number false 9007199254740991 971 := by decide
  have hm2 : Ieee.double.read 18442240474082181119 = .number true 9007199254740991 971 := by decide
  have o1 : FloatKind.f64.format.order x 9218868437227405311 = some (if sgn x then .lt else .gt) := by
    show (Ieee.double.read x).order (Ieee.double.read 9218868437227405311) = _
    rw [rd, hm]; rfl
  have o2 : FloatKind.f64.format.order x 18442240474082181119 = some (if sgn x then .lt else .gt) := by
    show (Ieee.double.read x).order (Ieee.double.read 18442240474082181119) = _
    rw [rd, hm2]; rfl
  clear rd hm hm2
  cases hs : sgn x
  · rw [hs] at o1 o2
    have h2 : (FloatKind.f64.format.order x 9218868437227405311 == some .lt || FloatKind.f64.format.order x 9218868437227405311 == some .eq) = false := by rw [o1]; rfl
    clear o1 o2 hs
    go_enter Try.func10, Try.ntmps10
    go_wp2
    go_ret
    exact ⟨rfl, rfl⟩
  · rw [hs] at o1 o2
    have h2 : (FloatKind.f64.format.order x 9218868437227405311 == some .lt || FloatKind.f64.format.order x 9218868437227405311 == some .eq) = true := by rw [o1]; rfl
    have h3 : (FloatKind.f64.format.order x 18442240474082181119 == some .gt || FloatKind.f64.format.order x 18442240474082181119 == some .eq) = false := by rw [o2]; rfl
    clear o1 o2 hs
    go_enter Try.func10, Try.ntmps10
    go_wp2
    go_ret
    exact ⟨rfl, rfl⟩

/-- isFinite. -/
theorem isFinite_any (x : Nat) (w : World) : Calls Try.prog 10 #[.float .f64 x] w fun e w' => e = .returned (.bool (decide (rg x < 9218868437227405312))) ∧ w' = w := by
  by_cases h1 : rg x < 9218868437227405312
  · rw [decide_eq_true h1]; exact isFinite_yes x h1 w
  · rw [decide_eq_false h1]
    by_cases h2 : rg x = 9218868437227405312
    · exact isFinite_inf x h2 w
    · exact isFinite_nan x (by omega) w
end Go.Proofs.Qxb6619276a
