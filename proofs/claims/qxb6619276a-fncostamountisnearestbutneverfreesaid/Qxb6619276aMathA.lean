/-
  The walks of package math's small functions, as this program bears them.
-/
import Derived.Test.Qxb6619276aRows
import Derived.Test.Qxb6619276aFloatB
import Derived.WalkKit
import Derived.ProofKit
import Derived.WalkLawsBesides
import Derived.WalkSpells
import Derived.Laws.BitsAllLaws
namespace Go.Proofs.Qxb6619276a
open Go.ChangeShapes Go.WideShapes Go.ChangeAt Go.RowKit
open Fl

theorem call32 (b : Nat) (w : World) : (callFunc 32 #[.float .f64 b]).run Try.prog w = .ok (.value (.int .u64 b)) w := by kernel_rfl
theorem call31 (n : Int) (w : World) : (callFunc 31 #[.int .u64 n]).run Try.prog w = .ok (.value (.float .f64 n.toNat)) w := by kernel_rfl

theorem ret_float {a b : Nat} (h : a = b) : Ending.returned (.float .f64 a) = .returned (.float .f64 b) := by rw [h]
theorem ret_bool {a b : Bool} (h : a = b) : Ending.returned (.bool a) = .returned (.bool b) := by rw [h]

theorem andNot_sign (x : Nat) (h : x < 18446744073709551616) : (bits .andNot .u64 (x : Int) 9223372036854775808).toNat = rg x := by
  have e := u64_andNot_nat x 9223372036854775808 h (by omega)
  have e2 : x &&& 9223372036854775807 = x % 9223372036854775808 := Nat.and_two_pow_sub_one_eq_mod x 63
  have e3 : bits .andNot .u64 (x : Int) 9223372036854775808 = ((x &&& 9223372036854775807 : Nat) : Int) := e
  rw [e3, e2]; rfl

/-- math.Abs. -/
theorem abs_any (x : Nat) (hx : x < 18446744073709551616) (w : World) : Calls Try.prog 24 #[.float .f64 x] w fun e w' => e = .returned (.float .f64 (rg x)) ∧ w' = w := by
  have h32 := call32
  have h31 := call31
  go_enter Try.func24, Try.ntmps24
  go_wp2
  go_ret
  exact ⟨ret_float (andNot_sign x hx), rfl⟩

theorem order_self (x : Nat) : (Ieee.double.order x x != some .eq) = decide (9218868437227405312 < rg x) := by
  by_cases h : rg x < 9218868437227405312
  · rw [bne, eq_fin h h]
    simp; omega
  · unfold Ieee.Format.order
    rw [read_eq, if_neg (by omega), if_neg (by omega)]
    by_cases h2 : rg x = 9218868437227405312
    · rw [if_pos h2, h2]; cases sgn x <;> decide
    · rw [if_neg h2, decide_eq_true (by omega)]; rfl

/-- math.IsNaN. -/
theorem isNaN_any (x : Nat) (w : World) : Calls Try.prog 21 #[.float .f64 x] w fun e w' => e = .returned (.bool (decide (9218868437227405312 < rg x))) ∧ w' = w := by
  go_enter Try.func21, Try.ntmps21
  go_wp2
  go_ret
  exact ⟨ret_bool (order_self x), rfl⟩

theorem rg_lt (x : Nat) : rg x < 9223372036854775808 := Nat.mod_lt _ (by decide)
theorem rg_rg (x : Nat) : rg (rg x) = rg x := Nat.mod_eq_of_lt (rg_lt x)
theorem rg_small {r : Nat} (h : r < 9223372036854775808) : rg r = r := Nat.mod_eq_of_lt h
theorem sgn_small {r : Nat} (h : r < 9223372036854775808) : sgn r = false := by unfold sgn; rw [Nat.div_eq_of_lt h]; rfl

theorem order_max (r : Nat) (h : r < 9223372036854775808) : (Ieee.double.order r 9218868437227405311 == some .gt) = decide (r = 9218868437227405312) := by
  by_cases h1 : r < 9218868437227405312
  · rw [gt_fin (by rw [rg_small h]; exact h1) (by decide), sv_pos h, sv_pos (by decide)]
    have := V_le (a := r) (b := 9218868437227405311) (by omega)
    simp; omega
  · unfold Ieee.Format.order
    rw [read_eq, rg_small h, sgn_small h, if_neg (by omega), if_neg (by omega)]
    by_cases h2 : r = 9218868437227405312
    · rw [if_pos h2, h2]; decide
    · rw [if_neg h2, decide_eq_false h2]; rfl

/-- math.IsInf(x, 0). -/
theorem isInf_any (x : Nat) (hx : x < 18446744073709551616) (w : World) : Calls Try.prog 22 #[.float .f64 x, .int .i64 0] w fun e w' => e = .returned (.bool (decide (rg x = 9218868437227405312))) ∧ w' = w := by
  go_enter Try.func22, Try.ntmps22
  go_wp2_with (go_at_call 24; refine (abs_any x hx _).mono ?_; rintro e w' ⟨rfl, rfl⟩)
  go_ret
  exact ⟨ret_bool (order_max (rg x) (rg_lt x)), rfl⟩
end Go.Proofs.Qxb6619276a
