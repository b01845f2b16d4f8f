/-
  roundAmount's contract: the nearest millionth, as plain arithmetic says it.
-/
import Derived.Test.Qxb6619276aRoundA
namespace Go.Proofs.Qxb6619276a
open Go.ChangeShapes Go.WideShapes Go.ChangeAt Go.RowKit
open Fl

/-! ### The plain arithmetic -/
theorem q6_of {r m s : Nat} (h1 : 1 ≤ s) (h2 : s ≤ 1074) (h : V r = m * 2 ^ (E - s)) : q6 r = (m * 1000000 + 2 ^ (s - 1)) / 2 ^ s := by
  unfold q6
  have hE : 2 ^ E = 2 ^ s * 2 ^ (E - s) := by rw [← Nat.pow_add]; rw [show s + (E - s) = E by rw [E_eq]; omega]
  have hs : 2 ^ s = 2 * 2 ^ (s - 1) := by
    conv => lhs; rw [show s = (s - 1) + 1 by omega, Nat.pow_succ]
    omega
  rw [h, hE]
  have e1 : 2000000 * (m * 2 ^ (E - s)) + 2 ^ s * 2 ^ (E - s) = (2000000 * m + 2 ^ s) * 2 ^ (E - s) := by rw [Nat.add_mul, Nat.mul_assoc]
  have e2 : 2 * (2 ^ s * 2 ^ (E - s)) = (2 * 2 ^ s) * 2 ^ (E - s) := by rw [Nat.mul_assoc]
  rw [e1, e2, Nat.mul_div_mul_right _ _ (Nat.two_pow_pos _)]
  have e3 : 2000000 * m + 2 ^ s = 2 * (m * 1000000 + 2 ^ (s - 1)) := by rw [hs]; omega
  rw [e3, Nat.mul_div_mul_left _ _ (by omega)]

theorem q6_zero {r : Nat} (h : 2000000 * V r < 2 ^ E) : q6 r = 0 := q6_eq (by omega) (by omega)

/-- The full significand. -/
def fm (r : Nat) : Nat := 4503599627370496 + fr r

theorem fm_bd (r : Nat) : 4503599627370496 ≤ fm r ∧ fm r < 9007199254740992 := by
  have := fr_lt r; unfold fm; omega

theorem V_normal {r : Nat} (h : 4503599627370496 ≤ r) : V r = fm r * 2 ^ (r / 4503599627370496 - 1) := by
  rw [V_hi h]; unfold fm fr; rw [if_neg (by omega)]

/-- The number of places of the quotient, 53 less Frexp's exponent. -/
theorem fe_normal {r : Nat} (h : 4503599627370496 ≤ r) : fe r = ((r / 4503599627370496 : Nat) : Int) - 1022 := by
  unfold fe; rw [if_neg (by omega)]

theorem V_full (y m : Nat) (h1 : 4503599627370496 ≤ m) (h2 : m < 9007199254740992) (hy : y = E * 4503599627370496 + m) : V y = m * 2 ^ E := by
  rw [hy]
  exact V_mk E m h1 (by omega)

theorem full_int (y m : Nat) (h1 : 4503599627370496 ≤ m) (h2 : m < 9007199254740992) (hy : y = E * 4503599627370496 + m) : floatToIntVal .f64 y .u64 = some (m : Int) := by
  have hl : y < 9218868437227405312 := by rw [hy, E_eq]; omega
  have hg : rg y < 9218868437227405312 := by rw [rg_small (by omega)]; omega
  have ht := toInt_fin hg
  rw [rg_small (by omega), sgn_small (by omega), V_full y m h1 h2 hy, Nat.mul_div_cancel _ (Nat.two_pow_pos E), if_neg (by decide)] at ht
  have ht' : (FloatKind.f64.decode y).toInt .zero = some (m : Int) := ht
  unfold floatToIntVal
  rw [ht']
  simp only
  rw [if_pos]
  have e1 : IntKind.u64.min = 0 := by decide
  have e2 : IntKind.u64.max = 18446744073709551615 := by decide
  rw [e1, e2]
  omega

theorem parts_any (x : Nat) (h0 : rg x ≠ 0) (h : rg x < 9218868437227405312) :
    Parts x (4602678819172646912 + fr (rg x)) (4602678819172646912 + fr (rg x) + 238690780250636288) (fm (rg x)) (53 - fe (rg x)) (fm (rg x) * 1000000 / 18446744073709551616) (fm (rg x) * 1000000 % 18446744073709551616) := by
  have hf := fr_lt (rg x)
  have hb := fm_bd (rg x)
  refine ⟨?_, ?_, ?_, ?_⟩
  · intro w
    rw [show (53 : Int) - (53 - fe (rg x)) = fe (rg x) by omega]
    exact Frexp_any (rg x) h0 h w
  · intro w; exact Ldexp_any _ (by omega) (by omega) w
  · refine full_int _ (fm (rg x)) hb.1 hb.2 ?_
    unfold fm; rw [E_eq]; omega
  · intro w; exact mul64_m _ (by omega) w

theorem parts_0 (x : Nat) (h0 : rg x = 0) : Parts x 0 0 0 53 0 0 := by
  refine ⟨?_, ?_, ?_, ?_⟩
  · intro w; rw [h0]; exact Frexp_0 w
  · intro w; exact Ldexp_0 w
  · decide
  · intro w; exact mul64_m 0 (by decide) w

theorem lt_zero (x : Nat) (h : rg x < 9218868437227405312) : (FloatKind.f64.format.order x 0 == some .lt) = (sgn x && decide (rg x ≠ 0)) := by
  show (Ieee.double.order x 0 == some .lt) = _
  rw [lt_fin h (by decide), sv_pos (x := 0) (by decide)]
  unfold sv
  have hv : V 0 = 0 := rfl
  rw [hv]
  by_cases h0 : rg x = 0
  · rw [h0, hv]; cases sgn x <;> simp
  · have := V_lt (a := 0) (b := rg x) (by omega)
    rw [hv] at this
    cases sgn x
    · simp
    · simp only [if_true, Bool.true_and]
      rw [decide_eq_true (show -(V (rg x) : Int) < ((0 : Nat) : Int) by omega), decide_eq_true h0]

theorem call27' (lo hf : Nat) (w : World) : (callFunc 27 #[.int .u64 lo, .int .u64 hf, .int .u64 0]).run Try.prog w =
    .ok (.value (.tuple #[.int .u64 ((lo + hf) % 18446744073709551616 : Nat), .int .u64 ((lo + hf) / 18446744073709551616 : Nat)])) w := by
  have := call27 lo hf (by omega) (by omega) w
  rw [this]
  congr 5 <;> omega

/-- Below 64 places. -/
theorem round_lo (x fw lw m s N : Nat) (hx : x < 18446744073709551616) (hfin : rg x < 9218868437227405312) (hN : N < 9444732965739290427392) (P : Parts x fw lw m s (N / 18446744073709551616) (N % 18446744073709551616)) (h1 : 1 ≤ s) (h2 : s < 64) (w : World) :
    Calls Try.prog 16 #[.float .f64 x] w fun e w' => e = .returned (out (sgn x && decide (rg x ≠ 0)) ((N + 2 ^ (s - 1)) / 2 ^ s)) ∧ w' = w := by
  have p1 : 2 ^ (s - 1) ≤ 2 ^ 62 := Nat.pow_le_pow_right (by omega) (by omega)
  have hpow : (2 : Int) ^ (s - 1) = ((2 ^ (s - 1) : Nat) : Int) := by simp
  have hpos := Nat.two_pow_pos s
  have hpos2 := Nat.two_pow_pos (64 - s)
  have hsplit : 2 ^ (64 - s) * 2 ^ s = 18446744073709551616 := by rw [← Nat.pow_add, show 64 - s + s = 64 by omega]
  generalize 2 ^ (s - 1) = hf at *
  refine core_lo x fw lw m s (N / 18446744073709551616) (N % 18446744073709551616) hf ((N % 18446744073709551616 + hf) % 18446744073709551616) ((N % 18446744073709551616 + hf) / 18446744073709551616) ((N + hf) / 18446744073709551616) _ _ hx hfin P h1 h2 ?_ (call27' _ _) ?_ ?_ (lt_zero x hfin) ?_ w
  · rw [hpow, IntKind.wrap_u64]; omega
  · rw [IntKind.wrap_u64]; omega
  · rw [IntKind.wrap_u64]; omega
  · have hlo : (N % 18446744073709551616 + hf) % 18446744073709551616 = (N + hf) % 18446744073709551616 := by omega
    rw [hlo]
    have hM := Nat.div_add_mod (N + hf) 18446744073709551616
    have hMl := Nat.mod_lt (N + hf) (show 0 < 18446744073709551616 by decide)
    generalize (N + hf) / 18446744073709551616 = a at *
    generalize (N + hf) % 18446744073709551616 = b at *
    have hq : (N + hf) / 2 ^ s = a * 2 ^ (64 - s) + b / 2 ^ s := by
      rw [← hM, ← hsplit, Nat.mul_comm (2 ^ (64 - s) * 2 ^ s) a, ← Nat.mul_assoc, Nat.add_comm, Nat.add_mul_div_right _ _ hpos, Nat.add_comm]
    have hca : (a : Int) / 2 ^ s = ((a / 2 ^ s : Nat) : Int) := by simp
    have hcb : (b : Int) / 2 ^ s = ((b / 2 ^ s : Nat) : Int) := by simp
    have hbd : b / 2 ^ s < 2 ^ (64 - s) := by rw [Nat.div_lt_iff_lt_mul hpos, hsplit]; exact hMl
    rw [hca, hcb]
    by_cases hz : a / 2 ^ s = 0
    · right
      refine ⟨by rw [hz]; rfl, ?_⟩
      have ha : a < 2 ^ s := by
        by_cases h : a < 2 ^ s
        · exact h
        · have := (Nat.le_div_iff_mul_le hpos (x := 1) (y := a)).2 (by rw [Nat.one_mul]; exact Nat.le_of_not_lt h)
          rw [hz] at this; exact absurd this (by decide)
      have hab : a * 2 ^ (64 - s) < 18446744073709551616 := by
        rw [← hsplit, Nat.mul_comm (2 ^ (64 - s))]; exact Nat.mul_lt_mul_of_pos_right ha hpos2
      have hw : IntKind.u64.wrap ((a : Int) * 2 ^ (64 - s)) = ((a * 2 ^ (64 - s) : Nat) : Int) := by
        rw [show (a : Int) * 2 ^ (64 - s) = ((a * 2 ^ (64 - s) : Nat) : Int) by simp, IntKind.wrap_u64]; omega
      rw [hw, u64_or_nat _ _ (Nat.lt_of_le_of_lt (Nat.div_le_self _ _) hMl) hab, Nat.or_comm, nat_join (64 - s) _ _ (by simp) hbd, hq]
    · left
      refine ⟨by rw [bne_iff_ne]; intro h; exact hz (Int.ofNat_eq_zero.1 h), ?_⟩
      rw [hq]
      have : 1 ≤ a / 2 ^ s := Nat.pos_of_ne_zero hz
      have ha := (Nat.le_div_iff_mul_le hpos (x := 1) (y := a)).1 this
      have : 2 ^ s * 2 ^ (64 - s) ≤ a * 2 ^ (64 - s) := Nat.mul_le_mul_right _ (by rwa [Nat.one_mul] at ha)
      rw [Nat.mul_comm (2 ^ s), hsplit] at this
      exact Nat.le_trans (by decide) (Nat.le_trans this (Nat.le_add_right _ _))

theorem round_64 (x fw lw m N : Nat) (hx : x < 18446744073709551616) (hfin : rg x < 9218868437227405312) (hN : N < 9444732965739290427392) (P : Parts x fw lw m 64 (N / 18446744073709551616) (N % 18446744073709551616)) (w : World) :
    Calls Try.prog 16 #[.float .f64 x] w fun e w' => e = .returned (out (sgn x && decide (rg x ≠ 0)) ((N + 9223372036854775808) / 18446744073709551616)) ∧ w' = w := by
  refine core_64 x fw lw m (N / 18446744073709551616) (N % 18446744073709551616) ((N % 18446744073709551616 + 9223372036854775808) % 18446744073709551616) ((N % 18446744073709551616 + 9223372036854775808) / 18446744073709551616) _ _ hx hfin P (call27' _ 9223372036854775808) ?_ ?_ ?_ (lt_zero x hfin) w
  · rw [IntKind.wrap_u64]; omega
  · rw [IntKind.wrap_u64]; omega
  · omega

theorem round_hi (x fw lw m s N : Nat) (hx : x < 18446744073709551616) (hfin : rg x < 9218868437227405312) (hN : N < 9444732965739290427392) (P : Parts x fw lw m s (N / 18446744073709551616) (N % 18446744073709551616)) (h1 : 65 ≤ s) (h2 : s ≤ 73) (w : World) :
    Calls Try.prog 16 #[.float .f64 x] w fun e w' => e = .returned (out (sgn x && decide (rg x ≠ 0)) ((N + 2 ^ (s - 1)) / 2 ^ s)) ∧ w' = w := by
  have p1 : 2 ^ (s - 65) ≤ 2 ^ 8 := Nat.pow_le_pow_right (by omega) (by omega)
  have hpow : (2 : Int) ^ (s - 65) = ((2 ^ (s - 65) : Nat) : Int) := by simp
  have hpos := Nat.two_pow_pos (s - 64)
  have hs1 : 2 ^ (s - 1) = 2 ^ (s - 65) * 18446744073709551616 := by rw [show s - 1 = (s - 65) + 64 by omega, Nat.pow_add]
  have hs2 : 2 ^ s = 18446744073709551616 * 2 ^ (s - 64) := by rw [show s = 64 + (s - 64) by omega, Nat.pow_add, show 64 + (s - 64) - 64 = s - 64 by omega]
  have hq : (N + 2 ^ (s - 1)) / 2 ^ s = (N / 18446744073709551616 + 2 ^ (s - 65)) / 2 ^ (s - 64) := by
    rw [hs1, hs2, ← Nat.div_div_eq_div_mul, Nat.add_mul_div_right _ _ (by decide)]
  rw [hq]
  have hqb : (N / 18446744073709551616 + 2 ^ (s - 65)) / 2 ^ (s - 64) ≤ N / 18446744073709551616 + 2 ^ (s - 65) := Nat.div_le_self _ _
  have hca : ((N / 18446744073709551616 + 2 ^ (s - 65) : Nat) : Int) / 2 ^ (s - 64) = (((N / 18446744073709551616 + 2 ^ (s - 65)) / 2 ^ (s - 64) : Nat) : Int) := by simp
  generalize 2 ^ (s - 65) = hf at *
  refine core_hi x fw lw m s (N / 18446744073709551616) (N % 18446744073709551616) hf (N / 18446744073709551616 + hf) _ _ hx hfin P h1 h2 ?_ ?_ ?_ ?_ ?_ hca (lt_zero x hfin) w
  · rw [hpow, IntKind.wrap_u64]; omega
  · intro w
    have := call27' (N % 18446744073709551616) 0 w
    rw [show (N % 18446744073709551616 + 0) % 18446744073709551616 = N % 18446744073709551616 by omega, show (N % 18446744073709551616 + 0) / 18446744073709551616 = 0 by omega] at this
    exact this
  · rw [IntKind.wrap_u64]; omega
  · rw [IntKind.wrap_u64]; omega
  · omega
end Go.Proofs.Qxb6619276a
