/-
  Plain facts on binary64 words, over Ieee alone: no Go in sight.
-/
import Ieee.Arith
namespace Go.Proofs.Qxb6619276a.Fl
open Ieee

/-- The sign and the rung of a word. -/
def sgn (x : Nat) : Bool := x / 9223372036854775808 % 2 == 1
def rg (x : Nat) : Nat := x % 9223372036854775808

theorem read_eq (x : Nat) : double.read x =
    if rg x < 4503599627370496 then .number (sgn x) (rg x) (-1074)
    else if rg x < 9218868437227405312 then .number (sgn x) (4503599627370496 + rg x % 4503599627370496) (-1074 + (rg x / 4503599627370496 - 1 : Nat))
    else if rg x = 9218868437227405312 then .infinity (sgn x)
    else .nan (sgn x) (rg x - 9218868437227405312) := rfl

/-- The magnitude of a rung below infinity, in units of 2 to the -1074. -/
def V (r : Nat) : Nat := if r < 4503599627370496 then r else (4503599627370496 + r % 4503599627370496) * 2 ^ (r / 4503599627370496 - 1)

theorem V_lo {r : Nat} (h : r < 4503599627370496) : V r = r := if_pos h
theorem V_hi {r : Nat} (h : 4503599627370496 ≤ r) : V r = (4503599627370496 + r % 4503599627370496) * 2 ^ (r / 4503599627370496 - 1) := if_neg (by omega)

theorem V_succ (r : Nat) : V r < V (r + 1) := by
  by_cases h1 : r + 1 < 4503599627370496
  · rw [V_lo (by omega), V_lo h1]; omega
  by_cases h2 : r + 1 = 4503599627370496
  · rw [V_lo (by omega), V_hi (by omega), h2]; simp; omega
  rw [V_hi (r := r) (by omega), V_hi (by omega)]
  by_cases h3 : r % 4503599627370496 + 1 < 4503599627370496
  · have e1 : (r + 1) / 4503599627370496 = r / 4503599627370496 := by omega
    have e2 : (r + 1) % 4503599627370496 = r % 4503599627370496 + 1 := by omega
    rw [e1, e2]
    exact Nat.mul_lt_mul_of_pos_right (by omega) (Nat.two_pow_pos _)
  · have e1 : (r + 1) / 4503599627370496 - 1 = (r / 4503599627370496 - 1) + 1 := by omega
    have e2 : (r + 1) % 4503599627370496 = 0 := by omega
    have e3 : r % 4503599627370496 = 4503599627370495 := by omega
    rw [e1, e2, e3, Nat.pow_succ]
    have := Nat.two_pow_pos (r / 4503599627370496 - 1)
    omega

theorem V_lt {a b : Nat} (h : a < b) : V a < V b := by
  induction b with
  | zero => omega
  | succ b ih =>
    by_cases h' : a = b
    · subst h'; exact V_succ a
    · exact Nat.lt_trans (ih (by omega)) (V_succ b)
theorem V_le {a b : Nat} (h : a ≤ b) : V a ≤ V b := by
  by_cases h' : a = b
  · subst h'; exact Nat.le_refl _
  · exact Nat.le_of_lt (V_lt (by omega))
theorem V_lt_iff {a b : Nat} : V a < V b ↔ a < b := by
  constructor
  · intro h
    by_cases h' : a < b
    · exact h'
    · have := V_le (a := b) (b := a) (by omega); omega
  · exact V_lt
theorem V_inj {a b : Nat} (h : V a = V b) : a = b := by
  by_cases h1 : a < b
  · have := V_lt h1; omega
  · by_cases h2 : b < a
    · have := V_lt h2; omega
    · omega

/-- A number that a word below infinity stands for. -/
theorem read_fin {x : Nat} (h : rg x < 9218868437227405312) :
    ∃ m i, double.read x = .number (sgn x) m i ∧ -1074 ≤ i ∧ m * 2 ^ (i + 1074).toNat = V (rg x) := by
  rw [read_eq]
  by_cases h1 : rg x < 4503599627370496
  · rw [if_pos h1]
    exact ⟨_, _, rfl, by omega, by rw [V_lo h1]; simp⟩
  · rw [if_neg h1, if_pos h]
    refine ⟨_, _, rfl, by omega, ?_⟩
    rw [V_hi (by omega)]
    congr 2
    omega

def sv (x : Nat) : Int := if sgn x then -(V (rg x) : Int) else V (rg x)

theorem compare_int (a b : Int) : compare a b = if a < b then .lt else if a = b then .eq else .gt := rfl

theorem compare_scale (a b k : Int) (h : 0 < k) : compare (a * k) (b * k) = compare a b := by
  rw [compare_int, compare_int]
  have e1 : a * k < b * k ↔ a < b := Int.mul_lt_mul_right h
  have e2 : a * k = b * k ↔ a = b := Int.mul_eq_mul_right_iff (by omega)
  simp only [e1, e2]

theorem signed_scale (s : Bool) (m u p : Nat) : signed s m u * (2 ^ p : Nat) = if s then -((m * 2 ^ (u + p) : Nat) : Int) else (m * 2 ^ (u + p) : Nat) := by
  unfold signed
  rw [Nat.shiftLeft_eq, Nat.pow_add, ← Nat.mul_assoc]
  cases s <;> simp [Int.neg_mul]

theorem order_fin {x y : Nat} (hx : rg x < 9218868437227405312) (hy : rg y < 9218868437227405312) : double.order x y = some (compare (sv x) (sv y)) := by
  obtain ⟨m, i, h1, h2, h3⟩ := read_fin hx
  obtain ⟨n, j, h4, h5, h6⟩ := read_fin hy
  unfold Format.order
  rw [h1, h4]
  show some (compare (signed (sgn x) m (i - min i j).toNat) (signed (sgn y) n (j - min i j).toNat)) = _
  congr 1
  rw [← compare_scale _ _ ((2 ^ (min i j + 1074).toNat : Nat) : Int) (by have := Nat.two_pow_pos (min i j + 1074).toNat; omega)]
  rw [signed_scale, signed_scale]
  rw [show (i - min i j).toNat + (min i j + 1074).toNat = (i + 1074).toNat by omega, show (j - min i j).toNat + (min i j + 1074).toNat = (j + 1074).toNat by omega, h3, h6]
  rfl

theorem lt_fin {x y : Nat} (hx : rg x < 9218868437227405312) (hy : rg y < 9218868437227405312) : (double.order x y == some .lt) = decide (sv x < sv y) := by
  rw [order_fin hx hy, compare_int]
  by_cases h1 : sv x < sv y
  · simp [h1]
  · by_cases h2 : sv x = sv y <;> simp [h1, h2]
theorem eq_fin {x y : Nat} (hx : rg x < 9218868437227405312) (hy : rg y < 9218868437227405312) : (double.order x y == some .eq) = decide (sv x = sv y) := by
  rw [order_fin hx hy, compare_int]
  by_cases h1 : sv x < sv y
  · simp [h1]; omega
  · by_cases h2 : sv x = sv y <;> simp [h2]
    intro h; simp [h1] at h
theorem gt_fin {x y : Nat} (hx : rg x < 9218868437227405312) (hy : rg y < 9218868437227405312) : (double.order x y == some .gt) = decide (sv y < sv x) := by
  rw [order_fin hx hy, compare_int]
  by_cases h1 : sv x < sv y
  · simp [h1]; omega
  · by_cases h2 : sv x = sv y <;> simp [h1, h2]; omega

/-- A nonnegative word's value. -/
theorem sv_pos {x : Nat} (h : x < 9223372036854775808) : sv x = V x := by
  have e1 : sgn x = false := by unfold sgn; rw [Nat.div_eq_of_lt h]; rfl
  have e2 : rg x = x := Nat.mod_eq_of_lt h
  unfold sv
  rw [e1, e2]; rfl

theorem log2_mul_pow (m k : Nat) (h : m ≠ 0) : (m * 2 ^ k).log2 = m.log2 + k := by
  have h0 : m * 2 ^ k ≠ 0 := Nat.mul_ne_zero h (Nat.pos_iff_ne_zero.1 (Nat.two_pow_pos k))
  rw [Nat.log2_eq_iff h0]
  have l1 := Nat.log2_self_le h
  have l2 := Nat.lt_log2_self (n := m)
  rw [Nat.pow_add, show m.log2 + k + 1 = (m.log2 + 1) + k by omega, Nat.pow_add _ (m.log2 + 1)]
  exact ⟨Nat.mul_le_mul_right _ l1, Nat.mul_lt_mul_of_pos_right l2 (Nat.two_pow_pos k)⟩

/-- The rung out of its magnitude. -/
theorem rung_of {r : Nat} : ((V r).log2 - 52) * 4503599627370496 + V r / 2 ^ ((V r).log2 - 52) = r ∧ 2 ^ ((V r).log2 - 52) ∣ V r := by
  by_cases h : r < 4503599627370496
  · rw [V_lo h]
    have : r.log2 < 52 ∨ r = 0 := by
      by_cases h0 : r = 0
      · exact Or.inr h0
      · exact Or.inl ((Nat.log2_lt h0).2 h)
    rcases this with h1 | h1
    · rw [show r.log2 - 52 = 0 by omega]; simp
    · subst h1; simp
  · have e : (V r).log2 = 52 + (r / 4503599627370496 - 1) := by
      rw [V_hi (by omega), log2_mul_pow _ _ (by omega)]
      congr 1
      rw [Nat.log2_eq_iff (by omega)]
      omega
    rw [e, show 52 + (r / 4503599627370496 - 1) - 52 = r / 4503599627370496 - 1 by omega, V_hi (by omega), Nat.mul_div_cancel _ (Nat.two_pow_pos _)]
    exact ⟨by omega, Nat.dvd_mul_left _ _⟩

theorem cut0 (neg : Bool) (n : Nat) : Toward.even.cut neg n 0 = n := by
  unfold Toward.cut
  simp [Nat.mod_one]

theorem cut_dvd (neg : Bool) (n d : Nat) (h0 : n ≠ 0) (h : 2 ^ d ∣ n) : Toward.even.cut neg n d = n / 2 ^ d := by
  have hd : d ≤ n.log2 := by
    rw [Nat.le_log2 h0]
    exact Nat.le_of_dvd (by omega) h
  unfold Toward.cut
  rw [show min d (n.log2 + 2) = d by omega, Nat.one_shiftLeft]
  dsimp only
  rw [Nat.mod_eq_zero_of_dvd h]
  have := Nat.two_pow_pos d
  simp

theorem word_eq (neg : Bool) (r : Nat) : double.word neg r = if neg then 9223372036854775808 + r else r := rfl

theorem nearest_eq (neg : Bool) (m : Nat) (p : Int) (h : m ≠ 0) : double.nearest neg m p =
    double.word neg (min ((max (p + m.log2 - 52) (-1074) + 1074).toNat * 4503599627370496 + Toward.even.cut neg (m <<< (p - max (p + m.log2 - 52) (-1074)).toNat) (max (p + m.log2 - 52) (-1074) - p).toNat) 9218868437227405312) := by
  unfold Format.nearest
  rw [if_neg h]
  show double.word neg (min ((max (p + m.log2 - (52 : Nat)) (-1074) - (-1074)).toNat * 4503599627370496 + Toward.even.cut neg (m <<< (p - max (p + m.log2 - (52 : Nat)) (-1074)).toNat) (max (p + m.log2 - (52 : Nat)) (-1074) - p).toNat) 9218868437227405312) = _
  rw [Int.sub_neg]
  rfl

/-- What is exactly a number of the format is written as that number. -/
theorem nearest_exact (neg : Bool) {m r c d : Nat} {p : Int} (hr : r < 9218868437227405312) (h : m * 2 ^ c = V r * 2 ^ d) (hp : p + 1074 = (c : Int) - d) :
    double.nearest neg m p = double.word neg r := by
  by_cases h0 : m = 0
  · subst h0
    have hv : V r = 0 := by
      have := Nat.two_pow_pos d
      rw [Nat.zero_mul] at h
      rcases Nat.mul_eq_zero.1 h.symm with h | h
      · exact h
      · omega
    have : r = 0 := V_inj (by rw [hv]; rfl)
    subst this
    rfl
  · have hv : V r ≠ 0 := by
      intro hv
      rw [hv, Nat.zero_mul] at h
      rcases Nat.mul_eq_zero.1 h with h | h
      · exact h0 h
      · have := Nat.two_pow_pos c; omega
    have hl : m.log2 + c = (V r).log2 + d := by rw [← log2_mul_pow m c h0, h, log2_mul_pow _ _ hv]
    obtain ⟨hrg, hdv⟩ := rung_of (r := r)
    rw [nearest_eq neg m p h0]
    have el : max (p + m.log2 - 52) (-1074) + 1074 = (((V r).log2 - 52 : Nat) : Int) := by omega
    have et : (max (p + m.log2 - 52) (-1074) + 1074).toNat = (V r).log2 - 52 := by omega
    rw [et]
    generalize hT : (V r).log2 - 52 = T at *
    obtain ⟨k, hk⟩ := hdv
    have hk' : V r / 2 ^ T = k := by rw [hk, Nat.mul_div_cancel_left _ (Nat.two_pow_pos T)]
    rw [hk'] at hrg
    have hcut : Toward.even.cut neg (m <<< (p - max (p + m.log2 - 52) (-1074)).toNat) (max (p + m.log2 - 52) (-1074) - p).toNat = k := by
      by_cases hge : (max (p + m.log2 - 52) (-1074)) ≤ p
      · rw [show (max (p + m.log2 - 52) (-1074) - p).toNat = 0 by omega, cut0, Nat.shiftLeft_eq]
        obtain ⟨u, hu⟩ : ∃ u : Nat, (p - max (p + m.log2 - 52) (-1074)).toNat = u := ⟨_, rfl⟩
        rw [hu]
        -- c = u + T + d
        have hc : c = u + (T + d) := by omega
        rw [hc, hk, Nat.pow_add, ← Nat.mul_assoc, Nat.pow_add, Nat.mul_comm (2 ^ T) k, Nat.mul_assoc k] at h
        exact Nat.eq_of_mul_eq_mul_right (Nat.mul_pos (Nat.two_pow_pos T) (Nat.two_pow_pos d)) h
      · rw [show (p - max (p + m.log2 - 52) (-1074)).toNat = 0 by omega]
        obtain ⟨u, hu⟩ : ∃ u : Nat, (max (p + m.log2 - 52) (-1074) - p).toNat = u := ⟨_, rfl⟩
        rw [hu]
        have hc : T + d = c + u := by omega
        have hm : m = k * 2 ^ u := by
          rw [hk, Nat.mul_comm (2 ^ T) k, Nat.mul_assoc, ← Nat.pow_add, hc, Nat.pow_add, Nat.mul_comm (2 ^ c), ← Nat.mul_assoc] at h
          exact Nat.eq_of_mul_eq_mul_right (Nat.two_pow_pos c) h
        rw [show m <<< 0 = m from rfl, cut_dvd neg m u h0 (by rw [hm]; exact Nat.dvd_mul_left _ _), hm, Nat.mul_div_cancel _ (Nat.two_pow_pos u)]
    rw [hcut, hrg, Nat.min_eq_left (by omega)]

end Go.Proofs.Qxb6619276a.Fl
