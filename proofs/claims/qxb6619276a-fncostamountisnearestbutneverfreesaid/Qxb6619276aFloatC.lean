/-
  Plain facts for 'decompose', 'cmpScaled' and their kin. No Go in sight.
-/
import Derived.Test.Qxb6619276aFloatB
namespace Go.Proofs.Qxb6619276a.Fl
open Ieee

theorem flip_sign (x : Nat) (h1 : 9223372036854775808 ≤ x) (h2 : x < 18446744073709551616) : x ^^^ 2 ^ 63 = rg x := by
  have e1 : (x ^^^ 2 ^ 63) % 2 ^ 63 = rg x := by rw [Nat.xor_mod_two_pow]; simp [rg]
  have e2 : (x ^^^ 2 ^ 63) / 2 ^ 63 = 0 := by
    rw [Nat.xor_div_two_pow, show x / 2 ^ 63 = 1 by omega]; rfl
  have := Nat.div_add_mod (x ^^^ 2 ^ 63) (2 ^ 63)
  rw [e1, e2] at this
  omega

theorem two_read : double.read 4611686018427387904 = .number false 4503599627370496 (-51) := by decide

theorem half_exact (r : Nat) (h1 : 4845873199050653696 ≤ r) (h2 : r < 9218868437227405312) : double.div r 4611686018427387904 = some (r - 4503599627370496) := by
  have hr : rg r = r := Nat.mod_eq_of_lt (by omega)
  have hs : sgn r = false := by unfold sgn; rw [Nat.div_eq_of_lt (by omega)]; rfl
  have rd : double.read r = .number false (4503599627370496 + r % 4503599627370496) (-1074 + (r / 4503599627370496 - 1 : Nat)) := by
    rw [read_eq, hr, hs, if_neg (by omega), if_pos h2]
  have hV : V (r - 4503599627370496) = (4503599627370496 + r % 4503599627370496) * 2 ^ (r / 4503599627370496 - 2) := by
    rw [V_hi (by omega), show (r - 4503599627370496) / 4503599627370496 - 1 = r / 4503599627370496 - 2 by omega, show (r - 4503599627370496) % 4503599627370496 = r % 4503599627370496 by omega]
  have he : 1076 ≤ r / 4503599627370496 := by omega
  generalize hm : 4503599627370496 + r % 4503599627370496 = m at *
  have f1 : 4503599627370496 ≤ m := by omega
  have f2 : m < 9007199254740992 := by omega
  generalize r / 4503599627370496 = e at *
  have hdv : double.div r 4611686018427387904 = (Datum.quotient 54 (double.read r) (double.read 4611686018427387904)).map double.write := rfl
  have hlm : m.log2 = 52 := log2_of m 52 f1 f2
  have hln : (4503599627370496 : Nat).log2 = 52 := by decide
  have hq : Datum.quotient 54 (.number false m (-1074 + (e - 1 : Nat))) (.number false 4503599627370496 (-51)) = some (.number false (8 * m) (-1074 + (e - 1 : Nat) - 4)) := by
    unfold Datum.quotient
    simp only
    rw [if_neg (by decide), hlm, hln, Nat.shiftLeft_eq]
    have d1 : m * 2 ^ (54 + 52 - 52) / 4503599627370496 = 4 * m := by
      rw [show m * 2 ^ (54 + 52 - 52) = (4 * m) * 4503599627370496 by omega, Nat.mul_div_cancel _ (by decide)]
    have d2 : m * 2 ^ (54 + 52 - 52) % 4503599627370496 = 0 := by
      rw [show m * 2 ^ (54 + 52 - 52) = (4 * m) * 4503599627370496 by omega, Nat.mul_mod_left]
    rw [d1, d2, show 2 * (4 * m) + ((0 : Nat) != 0).toNat = 8 * m by simp; omega]
    rw [show -1074 + ((e - 1 : Nat) : Int) - -51 - ((54 + 52 - 52 : Nat) : Int) - 1 = -1074 + ((e - 1 : Nat) : Int) - 4 by omega, Bool.xor_false]
  rw [hdv, rd, two_read, hq]
  show some (double.nearest false (8 * m) (-1074 + (e - 1 : Nat) - 4)) = _
  rw [nearest_exact (r := r - 4503599627370496) (c := e - 5) (d := 0) false (by omega) ?_ (by omega), word_eq, if_neg (by decide)]
  · rw [hV, Nat.pow_zero, Nat.mul_one, Nat.mul_comm 8 m, Nat.mul_assoc, show e - 2 = 3 + (e - 5) by omega, Nat.pow_add]

theorem double_exact (r : Nat) (h : r < 4841369599423283200) : double.mul r 4611686018427387904 = some (dbl r) := by
  have hr : rg r = r := Nat.mod_eq_of_lt (by omega)
  have hs : sgn r = false := by unfold sgn; rw [Nat.div_eq_of_lt (by omega)]; rfl
  have hd : dbl r < 9218868437227405312 := by unfold dbl; split <;> omega
  rw [mul_exact (r := dbl r) (by rw [hr]; omega) (by decide) hd ?_, hs, word_eq]
  · rfl
  · rw [hr, V_dbl]
    have : V (rg 4611686018427387904) = 2 * 2 ^ E := (rungOf_spec 2 (by decide)).2
    rw [this, ← Nat.mul_assoc, Nat.mul_comm (V r) 2]

/-- From 2^52 up every number is whole. -/
theorem whole_hi (r : Nat) (h : 4841369599423283200 ≤ r) : 2 ^ E ∣ V r := by
  rw [V_hi (by omega)]
  refine Nat.dvd_trans (Nat.pow_dvd_pow 2 (n := r / 4503599627370496 - 1) ?_) (Nat.dvd_mul_left _ _)
  rw [E_eq]; omega

theorem V_two53 : V 4845873199050653696 = 9007199254740992 * 2 ^ E := by
  rw [show 4845873199050653696 = E * 4503599627370496 + 9007199254740992 by rw [E_eq]]
  exact V_mk E 9007199254740992 (by decide) (by decide)

/-! ### The sign of a difference -/
def sg (a b : Nat) : Int := if a < b then -1 else if a = b then 0 else 1

theorem sg_neg (a b : Nat) : sg a b < 0 ↔ a < b := by 
  unfold sg
  by_cases h : a < b
  · simp [h]
  · rw [if_neg h]; split <;> omega

/-- What cmpScaled answers: the sign of P * 2^e - w. -/
def cs (P : Nat) (e : Int) (w : Nat) : Int := if 0 ≤ e then sg (P * 2 ^ e.toNat) w else sg P (w * 2 ^ (-e).toNat)

theorem sg_scale (a b k : Nat) (h : 0 < k) : sg (a * k) (b * k) = sg a b := by
  unfold sg
  have e1 : a * k < b * k ↔ a < b := Nat.mul_lt_mul_right h
  have e2 : a * k = b * k ↔ a = b := Nat.mul_left_inj (by omega)
  simp only [e1, e2]

theorem cs_eq (v m w n j : Nat) (h : v * 2 ^ j = m * 2 ^ E * 2 ^ n) : cs (2000000 * m) ((n : Int) - j) w = sg (2000000 * v) (w * 2 ^ E) := by
  have hK := Nat.two_pow_pos E
  generalize 2 ^ E = K at *
  unfold cs
  by_cases hnj : j ≤ n
  · obtain ⟨d, rfl⟩ := Nat.exists_eq_add_of_le hnj
    rw [if_pos (by omega), show (((j + d : Nat) : Int) - (j : Int)).toNat = d by omega]
    have hv : v = m * 2 ^ d * K := by
      have : v * 2 ^ j = (m * 2 ^ d * K) * 2 ^ j := by
        rw [h, Nat.pow_add]; ac_rfl
      exact Nat.eq_of_mul_eq_mul_right (Nat.two_pow_pos j) this
    rw [hv, ← sg_scale (2000000 * m * 2 ^ d) w K hK, show 2000000 * m * 2 ^ d * K = 2000000 * (m * 2 ^ d * K) by ac_rfl]
  · obtain ⟨d, hd⟩ := Nat.exists_eq_add_of_le (show n ≤ j by omega)
    subst hd
    rw [if_neg (by omega), show (-((n : Int) - ((n + d : Nat) : Int))).toNat = d by omega]
    have hv : v * 2 ^ d = m * K := by
      have : (v * 2 ^ d) * 2 ^ n = (m * K) * 2 ^ n := by
        rw [← h, Nat.pow_add]; ac_rfl
      exact Nat.eq_of_mul_eq_mul_right (Nat.two_pow_pos n) this
    rw [← sg_scale (2000000 * m) (w * 2 ^ d) K hK, ← sg_scale (2000000 * v) (w * K) (2 ^ d) (Nat.two_pow_pos d), show 2000000 * m * K = 2000000 * v * 2 ^ d by rw [Nat.mul_assoc, ← hv, ← Nat.mul_assoc], show w * 2 ^ d * K = w * K * 2 ^ d by ac_rfl]
end Go.Proofs.Qxb6619276a.Fl
