/-
  The walk of bits.Mul64 at (m, 1000000), m below 2^53; bits.Add64's law, as this program bears them.
-/
import Derived.Test.Qxb6619276aMathB
import Derived.Laws.Externs
namespace Go.Proofs.Qxb6619276a
open Go.ChangeShapes Go.WideShapes Go.ChangeAt Go.RowKit
open Fl

/-- The low half of a word. -/
theorem low_half (a : Nat) (h : a < 18446744073709551616) : bits .and .u64 (a : Int) 4294967295 = ((a % 4294967296 : Nat) : Int) := by
  have e := u64_and_nat a 4294967295 h (by omega)
  have e2 : a &&& 4294967295 = a % 4294967296 := Nat.and_two_pow_sub_one_eq_mod a 32
  rw [e2] at e
  exact e

/-- The school method, its steps under names: the second factor has no upper half. -/
theorem mul64_core (m x0 x1 t w1 hi lo : Nat) (f1 : bits .and .u64 (m : Int) 4294967295 = x0) (f2 : (m : Int) / 4294967296 = x1) (b0 : x0 < 4294967296) (b1 : x1 < 2097152)
    (f3 : (x1 : Int) * 1000000 + (x0 : Int) * 1000000 / 4294967296 = t) (b2 : t < 4398046511104) (f4 : bits .and .u64 (t : Int) 4294967295 = w1) (b3 : w1 < 4294967296) (f5 : (t : Int) / 4294967296 + (w1 : Int) / 4294967296 = hi)
    (f6 : IntKind.u64.wrap ((m : Int) * 1000000) = lo) (w : World) :
    Calls Try.prog 26 #[.int .u64 m, .int .u64 1000000] w fun e w' => e = .returned (.tuple #[.int .u64 hi, .int .u64 lo]) ∧ w' = w := by
  have g1 : bits .and .u64 1000000 4294967295 = 1000000 := by decide
  go_enter Try.func26, Try.ntmps26
  go_wp2
  go_ret2
  exact ⟨rfl, rfl⟩

/-- A number below 2^53 times a million. -/
theorem mul64_m (m : Nat) (hm : m < 9007199254740992) (w : World) :
    Calls Try.prog 26 #[.int .u64 m, .int .u64 1000000] w fun e w' => e = .returned (.tuple #[.int .u64 ((m * 1000000 / 18446744073709551616 : Nat) : Int), .int .u64 ((m * 1000000 % 18446744073709551616 : Nat) : Int)]) ∧ w' = w := by
  have ht : m / 4294967296 * 1000000 + m % 4294967296 * 1000000 / 4294967296 < 4398046511104 := by omega
  refine mul64_core m (m % 4294967296) (m / 4294967296) (m / 4294967296 * 1000000 + m % 4294967296 * 1000000 / 4294967296) ((m / 4294967296 * 1000000 + m % 4294967296 * 1000000 / 4294967296) % 4294967296) _ _
    (low_half m (by omega)) (by omega) (by omega) (by omega) (by omega) ht (low_half _ (by omega)) (by omega) (by omega) ?_ w
  rw [IntKind.wrap_u64]; omega

/-- math/bits.Add64 with no carry in. -/
theorem call27 (x y : Int) (hx : 0 ≤ x) (hy : 0 ≤ y) (w : World) : (callFunc 27 #[.int .u64 x, .int .u64 y, .int .u64 0]).run Try.prog w =
    .ok (.value (.tuple #[.int .u64 ((x + y) % 18446744073709551616), .int .u64 ((x + y) / 18446744073709551616)])) w := by
  have h := run_callFunc_extern (P := Try.prog) (f := 27) (e := add64Entry) Try.func27 (by kernel_rfl) (by kernel_rfl) (by kernel_rfl) (by kernel_rfl) #[.int .u64 x, .int .u64 y, .int .u64 0] w
  rw [run_add64 x y 0 hx hy (by omega) (by omega) w] at h
  simpa using h
end Go.Proofs.Qxb6619276a
