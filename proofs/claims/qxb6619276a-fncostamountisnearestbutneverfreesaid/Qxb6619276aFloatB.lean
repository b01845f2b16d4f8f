/-
  Plain facts on binary64 words: products, quotients, whole numbers; the nearest millionth. No Go in sight.
-/
import Derived.Test.Qxb6619276aFloat
namespace Go.Proofs.Qxb6619276a.Fl
open Ieee

/-- The exponent of the unit in which magnitudes are counted. -/
def E : Nat := 1074
theorem E_eq : E = 1074 := rfl

theorem sgn_word {neg : Bool} {r : Nat} (h : r < 9223372036854775808) : sgn (double.word neg r) = neg := by
  rw [word_eq]; unfold sgn
  cases neg
  · simp only [Bool.false_eq_true, if_false]; rw [Nat.div_eq_of_lt h]; rfl
  · simp only [if_true]; rw [show (9223372036854775808 + r) / 9223372036854775808 = 1 by omega]; rfl
theorem rg_word {neg : Bool} {r : Nat} (h : r < 9223372036854775808) : rg (double.word neg r) = r := by
  rw [word_eq]; unfold rg
  cases neg
  · simp only [Bool.false_eq_true, if_false]; omega
  · simp only [if_true]; omega
theorem word_of (x : Nat) (h : x < 18446744073709551616) : double.word (sgn x) (rg x) = x := by
  rw [word_eq]; unfold sgn rg
  by_cases h1 : x < 9223372036854775808
  · rw [Nat.div_eq_of_lt h1]; simp; omega
  · rw [show x / 9223372036854775808 = 1 by omega]; simp; omega

theorem mul_exact {x y r : Nat} (hx : rg x < 9218868437227405312) (hy : rg y < 9218868437227405312) (hr : r < 9218868437227405312) (h : V (rg x) * V (rg y) = V r * 2 ^ E) :
    double.mul x y = some (double.word (sgn x ^^ sgn y) r) := by
  obtain ⟨m, i, h1, h2, h3⟩ := read_fin hx
  obtain ⟨n, j, h4, h5, h6⟩ := read_fin hy
  unfold Format.mul
  rw [h1, h4]
  show some (double.nearest (sgn x ^^ sgn y) (m * n) (i + j)) = _
  congr 1
  refine nearest_exact (c := (i + 1074).toNat + (j + 1074).toNat) (d := E) _ hr ?_ ?_
  · rw [← h, ← h3, ← h6, Nat.pow_add, Nat.mul_mul_mul_comm]
  · rw [E_eq]; omega

/-- A rung out of a full significand. -/
theorem V_mk (t k : Nat) (h1 : 4503599627370496 ≤ k) (h2 : k ≤ 9007199254740992) : V (t * 4503599627370496 + k) = k * 2 ^ t := by
  rw [V_hi (by omega)]
  by_cases h : k < 9007199254740992
  · rw [show (t * 4503599627370496 + k) / 4503599627370496 - 1 = t by omega, show 4503599627370496 + (t * 4503599627370496 + k) % 4503599627370496 = k by omega]
  · rw [show (t * 4503599627370496 + k) / 4503599627370496 - 1 = t + 1 by omega, show 4503599627370496 + (t * 4503599627370496 + k) % 4503599627370496 = 4503599627370496 by omega, Nat.pow_succ]
    have : k = 9007199254740992 := by omega
    subst this; omega

theorem log2_bd (n : Nat) (h0 : n ≠ 0) (h : n < 9007199254740992) : n.log2 ≤ 52 := by
  have := (Nat.log2_lt (k := 53) h0).2 h; omega

/-- The full significand of a whole number below 2^53. -/
theorem full (n : Nat) (h0 : n ≠ 0) (h : n < 9007199254740992) : 4503599627370496 ≤ n * 2 ^ (52 - n.log2) ∧ n * 2 ^ (52 - n.log2) < 9007199254740992 := by
  have hb := log2_bd n h0 h
  have l1 := Nat.log2_self_le h0
  have l2 := Nat.lt_log2_self (n := n)
  have e1 : 2 ^ n.log2 * 2 ^ (52 - n.log2) = 4503599627370496 := by rw [← Nat.pow_add, show n.log2 + (52 - n.log2) = 52 by omega]
  have e2 : 2 ^ (n.log2 + 1) * 2 ^ (52 - n.log2) = 9007199254740992 := by rw [← Nat.pow_add, show n.log2 + 1 + (52 - n.log2) = 53 by omega]
  have m1 := Nat.mul_le_mul_right (2 ^ (52 - n.log2)) l1
  have m2 := Nat.mul_lt_mul_of_pos_right l2 (Nat.two_pow_pos (52 - n.log2))
  omega

/-- The rung of a whole number below 2^53. -/
def rungOf (n : Nat) : Nat := if n = 0 then 0 else (1022 + n.log2) * 4503599627370496 + n * 2 ^ (52 - n.log2)

theorem rungOf_spec (n : Nat) (h : n < 9007199254740992) : rungOf n < 9218868437227405312 ∧ V (rungOf n) = n * 2 ^ E := by
  unfold rungOf
  by_cases h0 : n = 0
  · subst h0; simp [V]
  · rw [if_neg h0]
    have hb := log2_bd n h0 h
    obtain ⟨f1, f2⟩ := full n h0 h
    refine ⟨by omega, ?_⟩
    rw [V_mk _ _ f1 (by omega), Nat.mul_assoc, ← Nat.pow_add]
    congr 2
    rw [E_eq]; omega

theorem nearest_int (neg : Bool) (n : Nat) (h : n < 9007199254740992) : double.nearest neg n 0 = double.word neg (rungOf n) := by
  obtain ⟨h1, h2⟩ := rungOf_spec n h
  refine nearest_exact (c := E) (d := 0) neg h1 ?_ ?_
  · rw [h2]; simp
  · rw [E_eq]; omega

theorem cut_zero (neg : Bool) (n d : Nat) : Toward.zero.cut neg n d = n / 2 ^ d := by
  unfold Toward.cut
  dsimp only
  rw [Nat.one_shiftLeft]
  by_cases h : d ≤ n.log2 + 2
  · rw [show min d (n.log2 + 2) = d by omega]; simp
  · rw [show min d (n.log2 + 2) = n.log2 + 2 by omega]
    have l2 := Nat.lt_log2_self (n := n)
    have l3 : 2 ^ (n.log2 + 1) ≤ 2 ^ (n.log2 + 2) := Nat.pow_le_pow_right (by omega) (by omega)
    have l4 : 2 ^ (n.log2 + 2) ≤ 2 ^ d := Nat.pow_le_pow_right (by omega) (by omega)
    rw [Nat.div_eq_of_lt (by omega), Nat.div_eq_of_lt (by omega)]; rfl

/-- A number cut towards zero. -/
theorem toInt_fin {x : Nat} (hx : rg x < 9218868437227405312) : (double.read x).toInt .zero = some (if sgn x then -((V (rg x) / 2 ^ E : Nat) : Int) else (V (rg x) / 2 ^ E : Nat)) := by
  obtain ⟨m, i, h1, h2, h3⟩ := read_fin hx
  rw [h1]
  show some (signed (sgn x) (Toward.zero.cut (sgn x) (m <<< i.toNat) (-i).toNat) 0) = _
  congr 1
  rw [cut_zero, Nat.shiftLeft_eq]
  have e : m * 2 ^ i.toNat / 2 ^ (-i).toNat = V (rg x) / 2 ^ E := by
    rw [← h3]
    by_cases hi : 0 ≤ i
    · rw [show (-i).toNat = 0 by omega, show (i + 1074).toNat = i.toNat + E by rw [E_eq]; omega, Nat.pow_add, ← Nat.mul_assoc, Nat.mul_div_cancel _ (Nat.two_pow_pos E)]; simp
    · rw [show i.toNat = 0 by omega]
      have e2 : E = (i + 1074).toNat + (-i).toNat := by rw [E_eq]; omega
      rw [e2, Nat.pow_add, Nat.mul_comm m (2 ^ (i + 1074).toNat), Nat.mul_div_mul_left _ _ (Nat.two_pow_pos _), Nat.pow_zero, Nat.mul_one]
  rw [e]
  unfold signed
  cases sgn x <;> simp

/-- Twice the magnitude. -/
def dbl (r : Nat) : Nat := if r < 4503599627370496 then 2 * r else r + 4503599627370496
theorem V_dbl (r : Nat) : V (dbl r) = 2 * V r := by
  unfold dbl
  by_cases h : r < 4503599627370496
  · rw [if_pos h, V_lo h]
    by_cases h2 : 2 * r < 4503599627370496
    · rw [V_lo h2]
    · rw [V_hi (by omega), show 2 * r / 4503599627370496 - 1 = 0 by omega]; omega
  · rw [if_neg h, V_hi (by omega), V_hi (by omega), show (r + 4503599627370496) / 4503599627370496 - 1 = (r / 4503599627370496 - 1) + 1 by omega, Nat.pow_succ, show (r + 4503599627370496) % 4503599627370496 = r % 4503599627370496 by omega]
    rw [Nat.mul_comm (2 ^ (r / 4503599627370496 - 1)) 2, ← Nat.mul_assoc, Nat.mul_comm _ 2, Nat.mul_assoc]

/-! ### The nearest millionth -/
/-- The whole number nearest to the magnitude in millionths, halves up. -/
def q6 (r : Nat) : Nat := (2000000 * V r + 2 ^ E) / (2 * 2 ^ E)

theorem q6_eq {r q : Nat} (h1 : 2 * q * 2 ^ E ≤ 2000000 * V r + 2 ^ E) (h2 : 2000000 * V r < (2 * q + 1) * 2 ^ E) : q6 r = q := by
  unfold q6
  have hp := Nat.two_pow_pos E
  rw [Nat.div_eq_iff (by omega)]
  generalize 2 ^ E = K at *
  rw [Nat.add_mul] at h2
  have e : q * (2 * K) = 2 * q * K := by rw [← Nat.mul_assoc, Nat.mul_comm q 2]
  rw [e]
  omega

theorem q6_bd (r : Nat) : 2 * q6 r * 2 ^ E ≤ 2000000 * V r + 2 ^ E ∧ 2000000 * V r < (2 * q6 r + 1) * 2 ^ E := by
  unfold q6
  have hp := Nat.two_pow_pos E
  generalize 2 ^ E = K at *
  generalize 2000000 * V r = N
  have h1 := Nat.div_add_mod (N + K) (2 * K)
  have h2 := Nat.mod_lt (N + K) (show 0 < 2 * K by omega)
  generalize (N + K) / (2 * K) = q at *
  have e : 2 * K * q = 2 * q * K := by rw [Nat.mul_assoc, Nat.mul_comm K q, ← Nat.mul_assoc]
  rw [e] at h1
  rw [Nat.add_mul]
  omega

/-- Is x finite, and its nearest millionth within an int64? -/
def rok (x : Nat) : Bool := decide (rg x < 9218868437227405312) && decide (q6 (rg x) < 9223372036854775808)
/-- What roundAmount hands back. -/
def rq (x : Nat) : Int := if rok x then (if sgn x then -(q6 (rg x) : Int) else q6 (rg x)) else 0

/-! ### A whole number of millionths -/
theorem million_read : double.read 4696837146684686336 = .number false 8589934592000000 (-33) := by decide

theorem cut2 (neg : Bool) (n : Nat) : Toward.even.cut neg n 2 = n / 4 + (decide (4 < 2 * (n % 4)) || (4 == 2 * (n % 4) && n / 4 % 2 == 1)).toNat := by
  unfold Toward.cut
  rw [show min 2 (n.log2 + 2) = 2 by omega]
  rfl
theorem cut3 (neg : Bool) (n : Nat) (h : 1 ≤ n.log2) : Toward.even.cut neg n 3 = n / 8 + (decide (8 < 2 * (n % 8)) || (8 == 2 * (n % 8) && n / 8 % 2 == 1)).toNat := by
  unfold Toward.cut
  rw [show min 3 (n.log2 + 2) = 3 by omega]
  rfl

/-! The two roundings, over bare numbers: m/15625 in units of 2^-15; Q the quotient, c the sticky digit. -/
theorem quo_eq (m : Nat) : m * 18014398509481984 / 8589934592000000 = m * 32768 / 15625 := by
  have := Nat.mul_div_mul_right (m * 32768) 15625 (show 0 < 549755813888 by decide)
  rw [Nat.mul_assoc] at this
  exact this
theorem rem_eq (m : Nat) : m * 18014398509481984 % 8589934592000000 = m * 32768 % 15625 * 549755813888 := by
  have := Nat.mul_mod_mul_right 549755813888 (m * 32768) 15625
  rw [Nat.mul_assoc] at this
  exact this
theorem mag_bd (m Q R c mag : Nat) (f1 : 4503599627370496 ≤ m) (f2 : m < 9007199254740992) (hQ : 15625 * Q + R = m * 32768) (hR : R < 15625) (hc : c ≤ 1) (hm : 2 * Q + c = mag) :
    18014398509481984 ≤ mag ∧ mag < 72057594037927936 := by omega
theorem round2 (m Q R c mag d kept : Nat) (hQ : 15625 * Q + R = m * 32768) (hR : R < 15625) (hs : (c = 1 ∧ R ≠ 0) ∨ (c = 0 ∧ R = 0)) (hm : 2 * Q + c = mag)
    (hd : (d = 0 ∧ mag % 4 ≤ 2) ∨ (d = 1 ∧ 2 ≤ mag % 4)) (hk : mag / 4 + d = kept) :
    2000000 * kept < m * 2097152 + 2097152 ∧ m * 2097152 < 2000000 * kept + 2097152 := by omega
theorem round3 (m Q R c mag d kept : Nat) (hQ : 15625 * Q + R = m * 32768) (hR : R < 15625) (hs : (c = 1 ∧ R ≠ 0) ∨ (c = 0 ∧ R = 0)) (hm : 2 * Q + c = mag)
    (hd : (d = 0 ∧ mag % 8 ≤ 4) ∨ (d = 1 ∧ 4 ≤ mag % 8)) (hk : mag / 8 + d = kept) :
    2000000 * kept * 2 < m * 2097152 + 2097152 ∧ m * 2097152 < 2000000 * kept * 2 + 2097152 := by omega

/-- A rung near n millionths rounds to n. -/
theorem q6_near (n m L g kept : Nat) (hL : L ≤ 51) (hm : n * 2 ^ (52 - L) = m) (a1 : 2000000 * kept * 2 ^ g < m * 2097152 + 2097152) (a2 : m * 2097152 < 2000000 * kept * 2 ^ g + 2097152) (a3 : 4503599627370496 ≤ kept) (a4 : kept ≤ 9007199254740992) :
    q6 ((L + 1002 + g) * 4503599627370496 + kept) = n := by
  have hV := V_mk (L + 1002 + g) kept a3 a4
  -- 2^E in units of 2^(L+1002)
  have hE' : E = 72 - L + (L + 1002) := by rw [E_eq]; omega
  have hE : 2 ^ E = 2 ^ (72 - L) * 2 ^ (L + 1002) := by rw [hE', Nat.pow_add]
  have hg' : kept * 2 ^ (L + 1002 + g) = kept * 2 ^ g * 2 ^ (L + 1002) := by rw [Nat.add_comm (L + 1002) g, Nat.pow_add, Nat.mul_assoc]
  have hn : n * 2 ^ (72 - L) = m * 1048576 := by
    rw [show 72 - L = (52 - L) + 20 by omega, Nat.pow_add, ← Nat.mul_assoc, hm]
  have hpos : 2097152 ≤ 2 ^ (72 - L) := Nat.pow_le_pow_right (n := 2) (i := 21) (by omega) (by omega)
  have hposL := Nat.two_pow_pos (L + 1002)
  rw [Nat.mul_assoc] at a1 a2
  apply q6_eq
  · rw [hV, hg', hE]
    have : 2 * n * 2 ^ (72 - L) ≤ 2000000 * (kept * 2 ^ g) + 2 ^ (72 - L) := by
      rw [Nat.mul_assoc 2 n, hn]
      clear hV hE hg' hn hm
      generalize kept * 2 ^ g = y at *
      generalize 2 ^ (72 - L) = z at *
      omega
    calc 2 * n * (2 ^ (72 - L) * 2 ^ (L + 1002)) = 2 * n * 2 ^ (72 - L) * 2 ^ (L + 1002) := (Nat.mul_assoc _ _ _).symm
      _ ≤ (2000000 * (kept * 2 ^ g) + 2 ^ (72 - L)) * 2 ^ (L + 1002) := Nat.mul_le_mul_right _ this
      _ = 2000000 * (kept * 2 ^ g * 2 ^ (L + 1002)) + 2 ^ (72 - L) * 2 ^ (L + 1002) := by rw [Nat.add_mul, Nat.mul_assoc]
  · rw [hV, hg', hE]
    have : 2000000 * (kept * 2 ^ g) < (2 * n + 1) * 2 ^ (72 - L) := by
      rw [Nat.add_mul, Nat.mul_assoc 2 n, hn]
      clear hV hE hg' hn hm
      generalize kept * 2 ^ g = y at *
      generalize 2 ^ (72 - L) = z at *
      omega
    calc 2000000 * (kept * 2 ^ g * 2 ^ (L + 1002)) = 2000000 * (kept * 2 ^ g) * 2 ^ (L + 1002) := (Nat.mul_assoc _ _ _).symm
      _ < (2 * n + 1) * 2 ^ (72 - L) * 2 ^ (L + 1002) := Nat.mul_lt_mul_of_pos_right this hposL
      _ = (2 * n + 1) * (2 ^ (72 - L) * 2 ^ (L + 1002)) := Nat.mul_assoc _ _ _

theorem read_rungOf (neg : Bool) (n : Nat) (h0 : n ≠ 0) (h : n < 9007199254740992) :
    double.read (double.word neg (rungOf n)) = .number neg (n * 2 ^ (52 - n.log2)) ((n.log2 : Int) - 52) := by
  obtain ⟨f1, f2⟩ := full n h0 h
  obtain ⟨r1, _⟩ := rungOf_spec n h
  have hb := log2_bd n h0 h
  rw [read_eq, rg_word (by omega), sgn_word (by omega)]
  have e : rungOf n = (1022 + n.log2) * 4503599627370496 + n * 2 ^ (52 - n.log2) := if_neg h0
  rw [if_neg (by omega), if_pos r1]
  congr 1
  · rw [e]; omega
  · rw [e]; omega

theorem log2_of (n k : Nat) (h1 : 2 ^ k ≤ n) (h2 : n < 2 ^ (k + 1)) : n.log2 = k := by
  rw [Nat.log2_eq_iff (by have := Nat.two_pow_pos k; omega)]; exact ⟨h1, h2⟩

/-- The quotient by a million ahead of its rounding. -/
theorem div_split (neg : Bool) (m : Nat) (i : Int) (f1 : 4503599627370496 ≤ m) (f2 : m < 9007199254740992) :
    Datum.quotient 54 (.number neg m i) (.number false 8589934592000000 (-33)) = some (.number neg (2 * (m * 32768 / 15625) + (m * 32768 % 15625 != 0).toNat) (i - 22)) := by
  have hlm : m.log2 = 52 := log2_of m 52 f1 f2
  have hln : (8589934592000000 : Nat).log2 = 52 := by decide
  unfold Datum.quotient
  simp only
  rw [if_neg (by decide), hlm, hln, Nat.shiftLeft_eq, Bool.xor_false]
  rw [show m * 2 ^ (54 + 52 - 52) = m * 18014398509481984 from rfl, quo_eq, rem_eq]
  have e : (m * 32768 % 15625 * 549755813888 != 0) = (m * 32768 % 15625 != 0) := by
    rw [Bool.eq_iff_iff]; simp; omega
  rw [e, show i - -33 - ((54 + 52 - 52 : Nat) : Int) - 1 = i - 22 by omega]

/-- k millionths, |k| = n < 2^52, divided out in binary64: the nearest millionth is n again. -/
theorem div_million (neg : Bool) (n : Nat) (h0 : n ≠ 0) (h : n < 4503599627370496) :
    ∃ r, double.div (double.word neg (rungOf n)) 4696837146684686336 = some (double.word neg r) ∧ r < 9218868437227405312 ∧ r ≠ 0 ∧ q6 r = n := by
  have hb : n.log2 ≤ 51 := by have := (Nat.log2_lt (k := 52) h0).2 h; omega
  obtain ⟨f1, f2⟩ := full n h0 (by omega)
  have rd := read_rungOf neg n h0 (by omega)
  generalize hm : n * 2 ^ (52 - n.log2) = m at *
  generalize n.log2 = L at *
  have hdv : double.div (double.word neg (rungOf n)) 4696837146684686336 = (Datum.quotient 54 (double.read (double.word neg (rungOf n))) (double.read 4696837146684686336)).map double.write := rfl
  rw [hdv, rd, million_read, div_split neg m _ f1 f2]
  rw [show Option.map double.write (some (Datum.number neg (2 * (m * 32768 / 15625) + (m * 32768 % 15625 != 0).toNat) ((L : Int) - 52 - 22))) = some (double.nearest neg (2 * (m * 32768 / 15625) + (m * 32768 % 15625 != 0).toNat) ((L : Int) - 52 - 22)) from rfl]
  rw [show (L : Int) - 52 - 22 = (L : Int) - 74 by omega]
  have hQ := Nat.div_add_mod (m * 32768) 15625
  have hR := Nat.mod_lt (m * 32768) (show 0 < 15625 by decide)
  generalize m * 32768 / 15625 = Q at *
  generalize m * 32768 % 15625 = R at *
  have hs : ((R != 0).toNat = 1 ∧ R ≠ 0) ∨ ((R != 0).toNat = 0 ∧ R = 0) := by
    by_cases hz : R = 0
    · right; subst hz; exact ⟨rfl, rfl⟩
    · left; simp [hz]
  generalize (R != 0).toNat = c at *
  generalize hmag : 2 * Q + c = mag
  obtain ⟨hlo, hhi⟩ := mag_bd m Q R c mag f1 f2 hQ hR (by omega) hmag
  have hne : mag ≠ 0 := by clear hQ hm rd; omega
  rw [nearest_eq neg mag _ hne]
  by_cases h55 : mag < 36028797018963968
  · have hlg : mag.log2 = 54 := log2_of mag 54 hlo h55
    rw [hlg, show max ((L : Int) - 74 + (54 : Nat) - 52) (-1074) = (L : Int) - 72 by omega]
    rw [show ((L : Int) - 74 - ((L : Int) - 72)).toNat = 0 by omega, show ((L : Int) - 72 - ((L : Int) - 74)).toNat = 2 by omega, show mag <<< 0 = mag from rfl, cut2 neg mag]
    rw [show ((L : Int) - 72 + 1074).toNat = L + 1002 + 0 by omega]
    generalize hd : (decide (4 < 2 * (mag % 4)) || (4 == 2 * (mag % 4) && mag / 4 % 2 == 1)) = d
    have hd2 : (d.toNat = 0 ∧ mag % 4 ≤ 2) ∨ (d.toNat = 1 ∧ 2 ≤ mag % 4) := by
      cases d
      · left; refine ⟨rfl, ?_⟩; simp at hd; omega
      · right; refine ⟨rfl, ?_⟩; simp at hd; omega
    obtain ⟨k1, k2⟩ := round2 m Q R c mag d.toNat _ hQ hR hs hmag hd2 rfl
    have k3 : 4503599627370496 ≤ mag / 4 + d.toNat ∧ mag / 4 + d.toNat ≤ 9007199254740992 := by
      clear hQ hm rd hs hmag; omega
    have := q6_near n m L 0 _ hb hm (by simpa using k1) (by simpa using k2) k3.1 k3.2
    refine ⟨(L + 1002 + 0) * 4503599627370496 + (mag / 4 + d.toNat), ?_, ?_, ?_, this⟩
    · rw [Nat.min_eq_left]
      clear hQ hm rd hs hmag this k1 k2; omega
    · clear hQ hm rd hs hmag this k1 k2; omega
    · clear hQ hm rd hs hmag this k1 k2; omega
  · have hlg : mag.log2 = 55 := log2_of mag 55 (Nat.le_of_not_lt h55) hhi
    rw [hlg, show max ((L : Int) - 74 + (55 : Nat) - 52) (-1074) = (L : Int) - 71 by omega]
    rw [show ((L : Int) - 74 - ((L : Int) - 71)).toNat = 0 by omega, show ((L : Int) - 71 - ((L : Int) - 74)).toNat = 3 by omega, show mag <<< 0 = mag from rfl, cut3 neg mag (by omega)]
    rw [show ((L : Int) - 71 + 1074).toNat = L + 1002 + 1 by omega]
    generalize hd : (decide (8 < 2 * (mag % 8)) || (8 == 2 * (mag % 8) && mag / 8 % 2 == 1)) = d
    have hd2 : (d.toNat = 0 ∧ mag % 8 ≤ 4) ∨ (d.toNat = 1 ∧ 4 ≤ mag % 8) := by
      cases d
      · left; refine ⟨rfl, ?_⟩; simp at hd; omega
      · right; refine ⟨rfl, ?_⟩; simp at hd; omega
    obtain ⟨k1, k2⟩ := round3 m Q R c mag d.toNat _ hQ hR hs hmag hd2 rfl
    have k3 : 4503599627370496 ≤ mag / 8 + d.toNat ∧ mag / 8 + d.toNat ≤ 9007199254740992 := by
      clear hQ hm rd hs hmag; omega
    have := q6_near n m L 1 _ hb hm (by simpa using k1) (by simpa using k2) k3.1 k3.2
    refine ⟨(L + 1002 + 1) * 4503599627370496 + (mag / 8 + d.toNat), ?_, ?_, ?_, this⟩
    · rw [Nat.min_eq_left]
      clear hQ hm rd hs hmag this k1 k2; omega
    · clear hQ hm rd hs hmag this k1 k2; omega
    · clear hQ hm rd hs hmag this k1 k2; omega
end Go.Proofs.Qxb6619276a.Fl
