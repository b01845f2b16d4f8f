/-
  The walks of math.normalize, frexp, ldexp, as this program bears them.
-/
import Derived.Test.Qxb6619276aMathA
namespace Go.Proofs.Qxb6619276a
open Go.ChangeShapes Go.WideShapes Go.ChangeAt Go.RowKit
open Fl

/-- The rung of a subnormal number times 2^52. -/
def nrm (r : Nat) : Nat := r.log2 * 4503599627370496 + r * 2 ^ (52 - r.log2)

theorem nrm_spec (r : Nat) (h0 : r ≠ 0) (h : r < 4503599627370496) : nrm r < 9218868437227405312 ∧ V (nrm r) = r * 4503599627370496 ∧ nrm r / 4503599627370496 = r.log2 + 1 ∧ nrm r % 4503599627370496 = r * 2 ^ (52 - r.log2) - 4503599627370496 := by
  have hb := log2_bd r h0 (by omega)
  obtain ⟨f1, f2⟩ := full r h0 (by omega)
  unfold nrm
  refine ⟨by omega, ?_, by omega, by omega⟩
  rw [V_mk _ _ f1 (by omega), Nat.mul_assoc, ← Nat.pow_add, show 52 - r.log2 + r.log2 = 52 by omega]

theorem mul_52 (r : Nat) (h0 : r ≠ 0) (h : r < 4503599627370496) : floatBits .mul .f64 r 4841369599423283200 = some (nrm r) := by
  obtain ⟨n1, n2, _, _⟩ := nrm_spec r h0 h
  have e := mul_exact (x := r) (y := 4841369599423283200) (r := nrm r) (by rw [rg_small (by omega)]; omega) (by decide) n1 ?_
  · show Ieee.double.mul r 4841369599423283200 = _
    rw [e, sgn_small (by omega), word_eq]; rfl
  · rw [rg_small (by omega), rg_small (by decide), n2, V_lo h]
    have : V 4841369599423283200 = 4503599627370496 * 2 ^ E := (rungOf_spec 4503599627370496 (by decide)).2
    rw [this, Nat.mul_assoc]

theorem lt_normal (r : Nat) (h : r < 9218868437227405312) : (Ieee.double.order r 4503599627370496 == some .lt) = decide (r < 4503599627370496) := by
  rw [lt_fin (by rw [rg_small (by omega)]; exact h) (by decide), sv_pos (by omega), sv_pos (by decide)]
  rw [decide_eq_decide, Int.ofNat_lt, V_lt_iff]

theorem norm_lo (r : Nat) (h0 : r ≠ 0) (h : r < 4503599627370496) (w : World) : Calls Try.prog 37 #[.float .f64 r] w fun e w' => e = .returned (.tuple #[.float .f64 (nrm r), .int .i64 (-52)]) ∧ w' = w := by
  have hl : (FloatKind.f64.format.order r 4503599627370496 == some .lt) = true := by show (Ieee.double.order r 4503599627370496 == some .lt) = true; rw [lt_normal r (by omega)]; simpa using h
  have hm := fun (w : World) => run_float_arith (P := Try.prog) w .mul 22 .f64 r 4841369599423283200 _ (mul_52 r h0 h)
  have hr : rg r = r := rg_small (by omega)
  go_enter Try.func37, Try.ntmps37
  go_wp2_with (go_at_call 24; refine (abs_any r (by omega) _).mono ?_; rintro e w' ⟨rfl, rfl⟩)
  go_ret2
  exact ⟨rfl, rfl⟩

theorem norm_hi (r : Nat) (h : 4503599627370496 ≤ r) (h1 : r < 9218868437227405312) (w : World) : Calls Try.prog 37 #[.float .f64 r] w fun e w' => e = .returned (.tuple #[.float .f64 r, .int .i64 0]) ∧ w' = w := by
  have hl : (FloatKind.f64.format.order r 4503599627370496 == some .lt) = false := by show (Ieee.double.order r 4503599627370496 == some .lt) = false; rw [lt_normal r h1]; simpa using h
  have hr : rg r = r := rg_small (by omega)
  go_enter Try.func37, Try.ntmps37
  go_wp2_with (go_at_call 24; refine (abs_any r (by omega) _).mono ?_; rintro e w' ⟨rfl, rfl⟩)
  go_ret2
  exact ⟨rfl, rfl⟩

theorem isNaN_no (x : Nat) (h : rg x ≤ 9218868437227405312) (w : World) : Calls Try.prog 21 #[.float .f64 x] w fun e w' => e = .returned (.bool false) ∧ w' = w := by
  have := isNaN_any x w
  rwa [decide_eq_false (by omega)] at this
theorem isInf_no (x : Nat) (hx : x < 18446744073709551616) (h : rg x ≠ 9218868437227405312) (w : World) : Calls Try.prog 22 #[.float .f64 x, .int .i64 0] w fun e w' => e = .returned (.bool false) ∧ w' = w := by
  have := isInf_any x hx w
  rwa [decide_eq_false h] at this

theorem eq_zero (r : Nat) (h0 : r ≠ 0) (h : r < 9218868437227405312) : (FloatKind.f64.format.order r 0 == some .eq) = false := by
  show (Ieee.double.order r 0 == some .eq) = false
  rw [eq_fin (by rw [rg_small (by omega)]; exact h) (by decide), sv_pos (by omega), sv_pos (by decide)]
  have := V_lt (a := 0) (b := r) (by omega)
  simp; omega

/-! ### The words' fields -/
theorem frac_field (y : Nat) (h : y < 9223372036854775808) : bits .andNot .u64 (y : Int) 9218868437227405312 = ((y % 4503599627370496 : Nat) : Int) := by
  have e := u64_andNot_nat y 9218868437227405312 (by omega) (by omega)
  have e1 : (9227875636482146303 : Nat) = 2 ^ 63 ||| (2 ^ 52 - 1) := by decide
  have e2 : y &&& 9227875636482146303 = y % 4503599627370496 := by
    rw [e1, Nat.and_or_distrib_left, nat_bit, Nat.and_two_pow_sub_one_eq_mod, Nat.div_eq_of_lt h]
    simp
  have e3 : bits .andNot .u64 (y : Int) 9218868437227405312 = ((y &&& 9227875636482146303 : Nat) : Int) := e
  rw [e3, e2]

theorem or_field (k f : Nat) (h : f < 4503599627370496) (hk : k < 4096) : bits .or .u64 (f : Int) ((k * 4503599627370496 : Nat) : Int) = ((k * 4503599627370496 + f : Nat) : Int) := by
  rw [u64_or_nat f (k * 4503599627370496) (by omega) (by omega), Nat.or_comm, nat_join 52 _ _ (by simp) h]

theorem exp_field (y : Nat) (h : y < 9223372036854775808) : bits .and .u64 ((y : Int) / 4503599627370496) 2047 = ((y / 4503599627370496 : Nat) : Int) := by
  have e := u64_and_nat (y / 4503599627370496) 2047 (by omega) (by omega)
  rw [nat_mask11] at e
  have e2 : ((y / 4503599627370496 : Nat) : Int) = (y : Int) / 4503599627370496 := by omega
  rw [show ((2047 : Nat) : Int) = 2047 from rfl, e2] at e
  rw [e]
  omega

theorem frac_word (y : Nat) (h : y < 9223372036854775808) : (bits .or .u64 (bits .andNot .u64 (y : Int) 9218868437227405312) 4602678819172646912).toNat = 4602678819172646912 + y % 4503599627370496 := by
  rw [frac_field y h]
  have := or_field 1022 (y % 4503599627370496) (by omega) (by omega)
  rw [show ((1022 * 4503599627370496 : Nat) : Int) = 4602678819172646912 from rfl] at this
  rw [this]; omega

theorem exp_num (y : Nat) (d : Int) (h : y < 9223372036854775808) (hd : -60 ≤ d) (hd' : d ≤ 0) :
    wrap64 (d + wrap64 (wrap64 (wrap64 (bits .and .u64 ((y : Int) / 4503599627370496) 2047) - 1023) + 1)) = d + ((y / 4503599627370496 : Nat) : Int) - 1022 := by
  rw [exp_field y h]
  have : y / 4503599627370496 < 2048 := by omega
  generalize y / 4503599627370496 = z at *
  unfold wrap64; omega

theorem ret_fi {a b : Nat} {i j : Int} (h : a = b) (h' : i = j) : Ending.returned (.tuple #[.float .f64 a, .int .i64 i]) = .returned (.tuple #[.float .f64 b, .int .i64 j]) := by rw [h, h']

/-- math.frexp at a normal number. -/
theorem frexp_hi (r : Nat) (h : 4503599627370496 ≤ r) (h1 : r < 9218868437227405312) (w : World) : Calls Try.prog 30 #[.float .f64 r] w fun e w' => e = .returned (.tuple #[.float .f64 (4602678819172646912 + r % 4503599627370496), .int .i64 (((r / 4503599627370496 : Nat) : Int) - 1022)]) ∧ w' = w := by
  have h32 := call32
  have h31 := call31
  have hz := eq_zero r (by omega) h1
  have hr : rg r = r := rg_small (by omega)
  go_enter Try.func30, Try.ntmps30
  go_wp2_with (first | (go_at_call 22; refine (isInf_no r (by omega) (by omega) _).mono ?_; rintro e w' ⟨rfl, rfl⟩) | (go_at_call 21; refine (isNaN_no r (by omega) _).mono ?_; rintro e w' ⟨rfl, rfl⟩) | (go_at_call 37; refine (norm_hi r h h1 _).mono ?_; rintro e w' ⟨rfl, rfl⟩))
  go_ret2
  exact ⟨ret_fi (frac_word r (by omega)) (by have := exp_num r 0 (by omega) (by omega) (by omega); simpa using this), rfl⟩

/-- math.frexp at a subnormal number. -/
theorem frexp_lo (r : Nat) (h0 : r ≠ 0) (h : r < 4503599627370496) (w : World) : Calls Try.prog 30 #[.float .f64 r] w fun e w' => e = .returned (.tuple #[.float .f64 (4602678819172646912 + nrm r % 4503599627370496), .int .i64 ((r.log2 : Int) - 1073)]) ∧ w' = w := by
  obtain ⟨n1, _, n3, _⟩ := nrm_spec r h0 h
  have H : Hid (nrm r / 4503599627370496 = r.log2 + 1) := n3
  clear n3
  have h32 := call32
  have h31 := call31
  have hz := eq_zero r (by omega) (by omega)
  have hr : rg r = r := rg_small (by omega)
  go_enter Try.func30, Try.ntmps30
  go_wp2_with (first | (go_at_call 22; refine (isInf_no r (by omega) (by omega) _).mono ?_; rintro e w' ⟨rfl, rfl⟩) | (go_at_call 21; refine (isNaN_no r (by omega) _).mono ?_; rintro e w' ⟨rfl, rfl⟩) | (go_at_call 37; refine (norm_lo r h0 h _).mono ?_; rintro e w' ⟨rfl, rfl⟩))
  go_ret2
  exact ⟨ret_fi (frac_word (nrm r) (by omega)) (by rw [exp_num (nrm r) (-52) (by omega) (by omega) (by omega), H.out]; omega), rfl⟩

/-- math.frexp at nought. -/
theorem frexp_0 (w : World) : Calls Try.prog 30 #[.float .f64 0] w fun e w' => e = .returned (.tuple #[.float .f64 0, .int .i64 0]) ∧ w' = w := by
  have hz : (FloatKind.f64.format.order 0 0 == some .eq) = true := by decide
  go_enter Try.func30, Try.ntmps30
  go_wp2
  go_ret2
  exact ⟨rfl, rfl⟩

/-! ### Frexp and Ldexp's values, as plain functions of the rung -/
/-- The fraction field of the full significand. -/
def fr (r : Nat) : Nat := if r < 4503599627370496 then nrm r % 4503599627370496 else r % 4503599627370496
theorem fr_lt (r : Nat) : fr r < 4503599627370496 := by unfold fr; split <;> omega
/-- Frexp's exponent. -/
def fe (r : Nat) : Int := if r < 4503599627370496 then (r.log2 : Int) - 1073 else ((r / 4503599627370496 : Nat) : Int) - 1022

/-- math.Frexp at a positive number. -/
theorem Frexp_any (r : Nat) (h0 : r ≠ 0) (h : r < 9218868437227405312) (w : World) : Calls Try.prog 23 #[.float .f64 r] w fun e w' => e = .returned (.tuple #[.float .f64 (4602678819172646912 + fr r), .int .i64 (fe r)]) ∧ w' = w := by
  have c : Calls Try.prog 30 #[.float .f64 r] w fun e w' => e = .returned (.tuple #[.float .f64 (4602678819172646912 + fr r), .int .i64 (fe r)]) ∧ w' = w := by
    unfold fr fe
    by_cases h1 : r < 4503599627370496
    · rw [if_pos h1, if_pos h1]; exact frexp_lo r h0 h1 w
    · rw [if_neg h1, if_neg h1]; exact frexp_hi r (by omega) h w
  go_enter Try.func23, Try.ntmps23
  go_wp2_with (go_at_call 30; refine c.mono ?_; rintro e w' ⟨rfl, rfl⟩)
  go_ret2
  exact ⟨rfl, rfl⟩
theorem Frexp_0 (w : World) : Calls Try.prog 23 #[.float .f64 0] w fun e w' => e = .returned (.tuple #[.float .f64 0, .int .i64 0]) ∧ w' = w := by
  go_enter Try.func23, Try.ntmps23
  go_wp2_with (go_at_call 30; refine (frexp_0 _).mono ?_; rintro e w' ⟨rfl, rfl⟩)
  go_ret2
  exact ⟨rfl, rfl⟩

theorem exp_field_i (y : Nat) (h1 : 4602678819172646912 ≤ y) (h2 : y < 4607182418800017408) : bits .and .i64 ((y : Int) / 4503599627370496) 2047 = 1022 := by
  have : (y : Int) / 4503599627370496 = 1022 := by omega
  rw [this]; decide

theorem mul_one (z : Nat) (h : z < 9218868437227405312) : floatBits .mul .f64 4607182418800017408 z = some z := by
  have e := mul_exact (x := 4607182418800017408) (y := z) (r := z) (by decide) (by rw [rg_small (by omega)]; omega) h ?_
  · show Ieee.double.mul 4607182418800017408 z = _
    rw [e, sgn_small (r := z) (by omega), word_eq]; rfl
  · rw [rg_small (by omega), rg_small (by omega)]
    have : V 4607182418800017408 = 1 * 2 ^ E := (rungOf_spec 1 (by decide)).2
    rw [this, Nat.one_mul, Nat.mul_comm]

/-- math.ldexp of a fraction in [1/2, 1) by 53. -/
theorem ldexp_any (y : Nat) (h1 : 4602678819172646912 ≤ y) (h2 : y < 4607182418800017408) (w : World) : Calls Try.prog 34 #[.float .f64 y, .int .i64 53] w fun e w' => e = .returned (.float .f64 (y + 238690780250636288)) ∧ w' = w := by
  have h32 := call32
  have h31 := call31
  have hz := eq_zero y (by omega) (by omega)
  have hr : rg y = y := rg_small (by omega)
  have hb := exp_field_i y h1 h2
  have hor : bits .or .u64 (bits .andNot .u64 (y : Int) 9218868437227405312) 4841369599423283200 = ((y + 238690780250636288 : Nat) : Int) := by
    rw [frac_field y (by omega)]
    have := or_field 1075 (y % 4503599627370496) (by omega) (by omega)
    rw [show ((1075 * 4503599627370496 : Nat) : Int) = 4841369599423283200 from rfl] at this
    rw [this]; omega
  have hm := fun (w : World) => run_float_arith (P := Try.prog) w .mul 22 .f64 4607182418800017408 (y + 238690780250636288) _ (mul_one (y + 238690780250636288) (by omega))
  have hcast : ((y : Int) + 238690780250636288).toNat = y + 238690780250636288 := by omega
  go_enter Try.func34, Try.ntmps34
  go_wp2_with (first | (go_at_call 22; refine (isInf_no y (by omega) (by omega) _).mono ?_; rintro e w' ⟨rfl, rfl⟩) | (go_at_call 21; refine (isNaN_no y (by omega) _).mono ?_; rintro e w' ⟨rfl, rfl⟩) | (go_at_call 37; refine (norm_hi y (by omega) (by omega) _).mono ?_; rintro e w' ⟨rfl, rfl⟩))
  go_ret
  exact ⟨rfl, rfl⟩
theorem ldexp_0 (w : World) : Calls Try.prog 34 #[.float .f64 0, .int .i64 53] w fun e w' => e = .returned (.float .f64 0) ∧ w' = w := by
  have hz : (FloatKind.f64.format.order 0 0 == some .eq) = true := by decide
  go_enter Try.func34, Try.ntmps34
  go_wp2
  go_ret
  exact ⟨rfl, rfl⟩
/-- math.Ldexp of a fraction in [1/2, 1) by 53. -/
theorem Ldexp_any (y : Nat) (h1 : 4602678819172646912 ≤ y) (h2 : y < 4607182418800017408) (w : World) : Calls Try.prog 25 #[.float .f64 y, .int .i64 53] w fun e w' => e = .returned (.float .f64 (y + 238690780250636288)) ∧ w' = w := by
  go_enter Try.func25, Try.ntmps25
  go_wp2_with (go_at_call 34; refine (ldexp_any y h1 h2 _).mono ?_; rintro e w' ⟨rfl, rfl⟩)
  go_ret
  exact ⟨rfl, rfl⟩
theorem Ldexp_0 (w : World) : Calls Try.prog 25 #[.float .f64 0, .int .i64 53] w fun e w' => e = .returned (.float .f64 0) ∧ w' = w := by
  go_enter Try.func25, Try.ntmps25
  go_wp2_with (go_at_call 34; refine (ldexp_0 _).mono ?_; rintro e w' ⟨rfl, rfl⟩)
  go_ret
  exact ⟨rfl, rfl⟩
end Go.Proofs.Qxb6619276a
