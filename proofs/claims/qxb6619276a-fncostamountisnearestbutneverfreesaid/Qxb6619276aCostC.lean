/-
  The walks of decompose at a zero, twiceMillionths, cmp128, shl128, cmpScaled.
-/
import Derived.Test.Qxb6619276aCostB
namespace Go.Proofs.Qxb6619276a
open Go.ChangeShapes Go.WideShapes Go.ChangeAt Go.RowKit
open Fl

theorem zero_facts (x : Nat) (hx : x < 18446744073709551616) (h0 : rg x = 0) :
    (FloatKind.f64.format.order x 0 == some .lt) = false ∧ (FloatKind.f64.format.order x 4845873199050653696 == some .gt || FloatKind.f64.format.order x 4845873199050653696 == some .eq) = false ∧
    floatToIntVal .f64 x .u64 = some 0 ∧ (FloatKind.f64.format.order x (floatOfInt .f64 0) != some .eq) = false := by
  have : x = 0 ∨ x = 9223372036854775808 := by unfold rg at h0; omega
  rcases this with rfl | rfl <;> decide

set_option maxHeartbeats 1000000 in
theorem decompose_z (x : Nat) (hx : x < 18446744073709551616) (h0 : rg x = 0) (w : World) :
    Calls Try.prog 11 #[.float .f64 x] w fun e w' => e = .returned (.tuple #[.int .u64 0, .int .i64 0]) ∧ w' = w := by
  obtain ⟨f1, f2, f3, f4⟩ := zero_facts x hx h0
  have hcv := fun (w : World) => run_convert_float_int (P := Try.prog) w 22 29 .f64 .u64 x 0 rfl Try.underlying29 f3
  clear f3 h0
  go_enter Try.func11, Try.ntmps11
  go_wp2
  go_loop [4, 5, 6] (fun t e i => t = .float .f64 x ∧ e = .int .i64 0 ∧ i = .int .i64 0) (fun _ _ _ => 0)
  case atStart => exact ⟨rfl, rfl, rfl⟩
  case round =>
    obtain ⟨rfl, rfl, rfl⟩ := hrel
    go_wp2
    go_loop [4, 5, 7] (fun t e i => t = .float .f64 x ∧ e = .int .i64 0 ∧ i = .int .i64 0) (fun _ _ _ => 0)
    case atStart => exact ⟨rfl, rfl, rfl⟩
    case round =>
      obtain ⟨rfl, rfl, rfl⟩ := hrel
      go_wp2
      go_ret2
      exact ⟨rfl, rfl⟩

/-- decompose. -/
theorem decompose_any (x : Nat) (hx : x < 18446744073709551616) (hfin : rg x < 9218868437227405312) (w : World) :
    Calls Try.prog 11 #[.float .f64 x] w fun e w' => (∃ m n j : Nat, e = .returned (.tuple #[.int .u64 m, .int .i64 ((n : Int) - j)]) ∧ m < 9007199254740992 ∧ n ≤ 971 ∧ j ≤ 1074 ∧ V (rg x) * 2 ^ j = m * 2 ^ E * 2 ^ n) ∧ w' = w := by
  by_cases h0 : rg x = 0
  · refine (decompose_z x hx h0 w).mono ?_
    rintro e w' ⟨rfl, rfl⟩
    refine ⟨⟨0, 0, 0, rfl, by decide, by decide, by decide, ?_⟩, rfl⟩
    rw [h0, V_lo (by decide)]; simp
  · exact decompose_nz x hx hfin h0 w

theorem twice_core (m mh ml al ah lo : Nat) (f1 : bits .and .u64 (m : Int) 4294967295 = ml) (f2 : (m : Int) / 4294967296 = mh) (f3 : bits .and .u64 ((mh : Int) * 2000000) 4294967295 = al) (f4 : ((mh : Int) * 2000000) / 4294967296 = ah)
    (f5 : IntKind.u64.wrap ((al : Int) * 4294967296 + (ml : Int) * 2000000) = lo) (b1 : mh < 2097152) (b2 : ml < 4294967296) (b3 : al < 4294967296) (b4 : ah < 1024) (w : World) :
    Calls Try.prog 12 #[.int .u64 m] w fun e w' => e = .returned (.tuple #[.int .u64 (if (lo : Int) < ml * 2000000 then (ah : Int) + 1 else ah), .int .u64 lo]) ∧ w' = w := by
  by_cases hc : (lo : Int) < ml * 2000000
  · rw [if_pos hc]
    go_enter Try.func12, Try.ntmps12
    go_wp2
    go_ret2
    exact ⟨rfl, rfl⟩
  · rw [if_neg hc]
    go_enter Try.func12, Try.ntmps12
    go_wp2
    go_ret2
    exact ⟨rfl, rfl⟩

/-- twiceMillionths: the product 2000000 * m in two words. -/
theorem twice_any (m : Nat) (hm : m < 9007199254740992) (w : World) :
    Calls Try.prog 12 #[.int .u64 m] w fun e w' => e = .returned (.tuple #[.int .u64 ((2000000 * m / 18446744073709551616 : Nat) : Int), .int .u64 ((2000000 * m % 18446744073709551616 : Nat) : Int)]) ∧ w' = w := by
  have c := twice_core m (m / 4294967296) (m % 4294967296) (m / 4294967296 * 2000000 % 4294967296) (m / 4294967296 * 2000000 / 4294967296) (2000000 * m % 18446744073709551616) (low_half m (by omega)) (by omega)
    (by have := low_half (m / 4294967296 * 2000000) (by omega); rw [← this]; simp) (by omega) (by rw [IntKind.wrap_u64]; omega) (by omega) (by omega) (by omega) (by omega) w
  have e : (if ((2000000 * m % 18446744073709551616 : Nat) : Int) < ((m % 4294967296 : Nat) : Int) * 2000000 then ((m / 4294967296 * 2000000 / 4294967296 : Nat) : Int) + 1 else ((m / 4294967296 * 2000000 / 4294967296 : Nat) : Int)) = ((2000000 * m / 18446744073709551616 : Nat) : Int) := by
    split <;> omega
  rw [e] at c
  exact c

/-- cmp128. -/
theorem cmp128_any (ah al bh bl : Nat) (h1 : al < 18446744073709551616) (h2 : bl < 18446744073709551616) (w : World) :
    Calls Try.prog 19 #[.int .u64 ah, .int .u64 al, .int .u64 bh, .int .u64 bl] w fun e w' => e = .returned (.int .i64 (sg (ah * 18446744073709551616 + al) (bh * 18446744073709551616 + bl))) ∧ w' = w := by
  by_cases ha : ah = bh
  · subst ha
    by_cases hb : al = bl
    · subst hb
      have e : sg (ah * 18446744073709551616 + al) (ah * 18446744073709551616 + al) = 0 := by unfold sg; rw [if_neg (by omega), if_pos rfl]
      rw [e]
      go_enter Try.func19, Try.ntmps19
      go_wp2
      go_ret
      exact ⟨rfl, rfl⟩
    · have hb2 : ((al : Int) != (bl : Int)) = true := by rw [bne_iff_ne]; omega
      by_cases hl : al < bl
      · have e : sg (ah * 18446744073709551616 + al) (ah * 18446744073709551616 + bl) = -1 := by unfold sg; rw [if_pos (by omega)]
        rw [e]
        clear hb
        go_enter Try.func19, Try.ntmps19
        go_wp2
        go_ret
        exact ⟨rfl, rfl⟩
      · have e : sg (ah * 18446744073709551616 + al) (ah * 18446744073709551616 + bl) = 1 := by unfold sg; rw [if_neg (by omega), if_neg (by omega)]
        rw [e]
        clear hb
        go_enter Try.func19, Try.ntmps19
        go_wp2
        go_ret
        exact ⟨rfl, rfl⟩
  · have ha2 : ((ah : Int) != (bh : Int)) = true := by rw [bne_iff_ne]; omega
    by_cases hl : ah < bh
    · have e : sg (ah * 18446744073709551616 + al) (bh * 18446744073709551616 + bl) = -1 := by unfold sg; rw [if_pos (by omega)]
      rw [e]
      clear ha
      go_enter Try.func19, Try.ntmps19
      go_wp2
      go_ret
      exact ⟨rfl, rfl⟩
    · have e : sg (ah * 18446744073709551616 + al) (bh * 18446744073709551616 + bl) = 1 := by unfold sg; rw [if_neg (by omega), if_neg (by omega)]
      rw [e]
      clear ha
      go_enter Try.func19, Try.ntmps19
      go_wp2
      go_ret
      exact ⟨rfl, rfl⟩

/-! ### shl128 -/
theorem shl_mid (hi lo s h l : Nat) (b : Bool) (h1 : 1 ≤ s) (h2 : s < 64) (e1 : bits .or .u64 (IntKind.u64.wrap ((hi : Int) * 2 ^ s)) ((lo : Int) / 2 ^ (64 - s)) = h) (e2 : IntKind.u64.wrap ((lo : Int) * 2 ^ s) = l) (e3 : ((hi : Int) / 2 ^ (64 - s) != 0) = b) (w : World) :
    Calls Try.prog 18 #[.int .u64 hi, .int .u64 lo, .int .u64 s] w fun e w' => e = .returned (.tuple #[.int .u64 h, .int .u64 l, .bool b]) ∧ w' = w := by
  go_enter Try.func18, Try.ntmps18
  go_wp2
  go_ret3
  exact ⟨rfl, rfl⟩
theorem shl_0 (hi lo : Nat) (w : World) :
    Calls Try.prog 18 #[.int .u64 hi, .int .u64 lo, .int .u64 0] w fun e w' => e = .returned (.tuple #[.int .u64 hi, .int .u64 lo, .bool false]) ∧ w' = w := by
  go_enter Try.func18, Try.ntmps18
  go_wp2
  go_ret3
  exact ⟨rfl, rfl⟩
theorem shl_64 (hi lo : Nat) (b : Bool) (e3 : ((hi : Int) != 0) = b) (w : World) :
    Calls Try.prog 18 #[.int .u64 hi, .int .u64 lo, .int .u64 64] w fun e w' => e = .returned (.tuple #[.int .u64 lo, .int .u64 0, .bool b]) ∧ w' = w := by
  go_enter Try.func18, Try.ntmps18
  go_wp2
  go_ret3
  exact ⟨rfl, rfl⟩
theorem shl_hi (hi lo s : Nat) (b : Bool) (h1 : 65 ≤ s) (h2 : s < 128) (e3 : ((lo : Int) / 2 ^ (128 - s) != 0) = b) (w : World) :
    Calls Try.prog 18 #[.int .u64 hi, .int .u64 lo, .int .u64 s] w fun e w' => e = .returned (.tuple #[.int .u64 (IntKind.u64.wrap ((lo : Int) * 2 ^ (s - 64))), .int .u64 0, .bool ((hi : Int) != 0 || b)]) ∧ w' = w := by
  cases hz : ((hi : Int) != 0)
  · go_enter Try.func18, Try.ntmps18
    go_wp2
    go_ret3
    exact ⟨rfl, rfl⟩
  · go_enter Try.func18, Try.ntmps18
    go_wp2
    go_ret3
    exact ⟨rfl, rfl⟩

/-- The plain law of a shift of two words. -/
theorem shl_fits (hi lo s : Nat) (hl : lo < 18446744073709551616) (hs : s < 64) : 340282366920938463463374607431768211456 ≤ (hi * 18446744073709551616 + lo) * 2 ^ s ↔ ¬ hi / 2 ^ (64 - s) = 0 := by
  have hp := Nat.two_pow_pos s
  have hq := Nat.two_pow_pos (64 - s)
  have hsplit : 2 ^ (64 - s) * 2 ^ s = 18446744073709551616 := by rw [← Nat.pow_add, show 64 - s + s = 64 by omega]
  have hz : hi / 2 ^ (64 - s) = 0 ↔ hi < 2 ^ (64 - s) := by rw [Nat.div_eq_zero_iff]; omega
  rw [hz]
  constructor
  · intro h hlt
    have h1 : hi * 18446744073709551616 + lo < 2 ^ (64 - s) * 18446744073709551616 := by omega
    have h2 := Nat.mul_lt_mul_of_pos_right h1 hp
    rw [Nat.mul_right_comm, hsplit] at h2
    omega
  · intro h
    have h1 : 2 ^ (64 - s) * 18446744073709551616 ≤ hi * 18446744073709551616 + lo := by omega
    have h2 := Nat.mul_le_mul_right (2 ^ s) h1
    rw [Nat.mul_right_comm, hsplit] at h2
    omega

/-- shl128. -/
theorem shl_any (hi lo s : Nat) (hh : hi < 18446744073709551616) (hl : lo < 18446744073709551616) (hs : s < 128) (w : World) :
    Calls Try.prog 18 #[.int .u64 hi, .int .u64 lo, .int .u64 s] w fun e w' => (∃ h l : Nat, e = .returned (.tuple #[.int .u64 h, .int .u64 l, .bool (decide (340282366920938463463374607431768211456 ≤ (hi * 18446744073709551616 + lo) * 2 ^ s))]) ∧
      l < 18446744073709551616 ∧ ((hi * 18446744073709551616 + lo) * 2 ^ s < 340282366920938463463374607431768211456 → h * 18446744073709551616 + l = (hi * 18446744073709551616 + lo) * 2 ^ s)) ∧ w' = w := by
  by_cases s0 : s = 0
  · subst s0
    refine (shl_0 hi lo w).mono ?_
    rintro e w' ⟨rfl, rfl⟩
    refine ⟨⟨hi, lo, ?_, hl, fun _ => by simp⟩, rfl⟩
    rw [decide_eq_false (by simp; omega)]
  by_cases s1 : s < 64
  · have hp := Nat.two_pow_pos s
    have hq := Nat.two_pow_pos (64 - s)
    have hsplit : 2 ^ (64 - s) * 2 ^ s = 18446744073709551616 := by rw [← Nat.pow_add, show 64 - s + s = 64 by omega]
    have hfit := shl_fits hi lo s hl s1
    have hlq : lo / 2 ^ (64 - s) < 2 ^ s := by rw [Nat.div_lt_iff_lt_mul hq, Nat.mul_comm, hsplit]; exact hl
    have hlo : lo * 2 ^ s / 18446744073709551616 = lo / 2 ^ (64 - s) := by rw [← hsplit, Nat.mul_div_mul_right _ _ hp]
    have ca : (hi : Int) * 2 ^ s = ((hi * 2 ^ s : Nat) : Int) := by simp
    have cb : (lo : Int) * 2 ^ s = ((lo * 2 ^ s : Nat) : Int) := by simp
    have cc : (lo : Int) / 2 ^ (64 - s) = ((lo / 2 ^ (64 - s) : Nat) : Int) := by simp
    have cd : (hi : Int) / 2 ^ (64 - s) = ((hi / 2 ^ (64 - s) : Nat) : Int) := by simp
    have hA : hi * 2 ^ s % 18446744073709551616 < 18446744073709551616 := Nat.mod_lt _ (by decide)
    have hB : lo / 2 ^ (64 - s) < 18446744073709551616 := Nat.lt_of_le_of_lt (Nat.div_le_self _ _) hl
    refine (shl_mid hi lo s (hi * 2 ^ s % 18446744073709551616 ||| lo / 2 ^ (64 - s)) (lo * 2 ^ s % 18446744073709551616) (decide (340282366920938463463374607431768211456 ≤ (hi * 18446744073709551616 + lo) * 2 ^ s)) (by omega) s1 ?_ ?_ ?_ w).mono ?_
    · rw [ca, cc, IntKind.wrap_u64, show ((hi * 2 ^ s : Nat) : Int) % 18446744073709551616 = ((hi * 2 ^ s % 18446744073709551616 : Nat) : Int) by omega, u64_or_nat _ _ hA hB]
    · rw [cb, IntKind.wrap_u64]; omega
    · rw [cd]
      by_cases hz : hi / 2 ^ (64 - s) = 0
      · rw [hz, decide_eq_false (by rw [hfit]; simpa using hz)]; rfl
      · rw [decide_eq_true (hfit.2 hz), bne_iff_ne]; intro h; exact hz (Int.ofNat_eq_zero.1 h)
    · rintro e w' ⟨rfl, rfl⟩
      refine ⟨⟨_, _, rfl, Nat.mod_lt _ (by decide), ?_⟩, rfl⟩
      intro hlt
      have hz : hi / 2 ^ (64 - s) = 0 := by
        by_cases hz : hi / 2 ^ (64 - s) = 0
        · exact hz
        · have := hfit.2 hz; omega
      have hh2 : hi < 2 ^ (64 - s) := by rcases Nat.div_eq_zero_iff.1 hz with h | h <;> omega
      have hnw : hi * 2 ^ s < 18446744073709551616 := by rw [← hsplit]; exact Nat.mul_lt_mul_of_pos_right hh2 hp
      rw [Nat.mod_eq_of_lt hnw, nat_join s _ _ (by simp) hlq, ← hlo, Nat.add_mul (hi * 18446744073709551616)]
      have := Nat.div_add_mod (lo * 2 ^ s) 18446744073709551616
      rw [Nat.mul_right_comm hi]
      omega
  by_cases s2 : s = 64
  · subst s2
    refine (shl_64 hi lo (decide (340282366920938463463374607431768211456 ≤ (hi * 18446744073709551616 + lo) * 2 ^ 64)) ?_ w).mono ?_
    · by_cases hz : hi = 0
      · subst hz; rw [decide_eq_false (by omega)]; rfl
      · rw [decide_eq_true (by omega), bne_iff_ne]; omega
    · rintro e w' ⟨rfl, rfl⟩
      exact ⟨⟨lo, 0, rfl, by decide, by omega⟩, rfl⟩
  · obtain ⟨t, rfl⟩ : ∃ t, s = 64 + t := Nat.exists_eq_add_of_le (by omega)
    have hp := Nat.two_pow_pos t
    have hP : (hi * 18446744073709551616 + lo) * 2 ^ (64 + t) = (hi * 18446744073709551616 + lo) * 2 ^ t * 18446744073709551616 := by rw [Nat.pow_add, Nat.mul_comm (2 ^ 64), ← Nat.mul_assoc]
    have hq := Nat.two_pow_pos (64 - t)
    have hsplit : 2 ^ (64 - t) * 2 ^ t = 18446744073709551616 := by rw [← Nat.pow_add, show 64 - t + t = 64 by omega]
    have hz : lo / 2 ^ (64 - t) = 0 ↔ lo * 2 ^ t < 18446744073709551616 := by
      rw [Nat.div_eq_zero_iff, ← hsplit, Nat.mul_lt_mul_right hp]; omega
    have cb : (lo : Int) * 2 ^ (64 + t - 64) = ((lo * 2 ^ t : Nat) : Int) := by rw [show 64 + t - 64 = t by omega]; simp
    have cc : (lo : Int) / 2 ^ (128 - (64 + t)) = ((lo / 2 ^ (64 - t) : Nat) : Int) := by rw [show 128 - (64 + t) = 64 - t by omega]; simp
    have hb : (((lo : Int) / 2 ^ (128 - (64 + t))) != 0) = decide (18446744073709551616 ≤ lo * 2 ^ t) := by
      rw [cc]
      by_cases h : lo / 2 ^ (64 - t) = 0
      · have := hz.1 h
        rw [h, decide_eq_false (by omega)]; rfl
      · have : ¬ lo * 2 ^ t < 18446744073709551616 := fun h' => h (hz.2 h')
        rw [decide_eq_true (by omega), bne_iff_ne]; intro h'; exact h (Int.ofNat_eq_zero.1 h')
    refine (shl_hi hi lo (64 + t) (decide (18446744073709551616 ≤ lo * 2 ^ t)) (by omega) hs hb w).mono ?_
    rintro e w' ⟨rfl, rfl⟩
    have hw : IntKind.u64.wrap ((lo : Int) * 2 ^ (64 + t - 64)) = ((lo * 2 ^ t % 18446744073709551616 : Nat) : Int) := by rw [cb, IntKind.wrap_u64]; omega
    have hPt : (hi * 18446744073709551616 + lo) * 2 ^ t = hi * 2 ^ t * 18446744073709551616 + lo * 2 ^ t := by rw [Nat.add_mul, Nat.mul_right_comm]
    have hhi : hi = 0 → hi * 2 ^ t = 0 := fun h => by rw [h, Nat.zero_mul]
    have hhi2 : hi ≠ 0 → 1 ≤ hi * 2 ^ t := fun h => Nat.mul_pos (Nat.pos_of_ne_zero h) hp
    have hlost : ((hi : Int) != 0 || decide (18446744073709551616 ≤ lo * 2 ^ t)) = decide (340282366920938463463374607431768211456 ≤ (hi * 18446744073709551616 + lo) * 2 ^ (64 + t)) := by
      rw [hP, hPt]
      by_cases h : hi = 0
      · rw [hhi h, show ((hi : Int) != 0) = false by rw [h]; rfl, Bool.false_or, decide_eq_decide]; omega
      · have := hhi2 h
        rw [show ((hi : Int) != 0) = true by rw [bne_iff_ne]; omega, Bool.true_or, decide_eq_true (by omega)]
    refine ⟨⟨lo * 2 ^ t % 18446744073709551616, 0, ?_, by decide, ?_⟩, rfl⟩
    · rw [hw, hlost]; rfl
    · intro hlt
      rw [hP, hPt] at hlt ⊢
      by_cases h : hi = 0
      · rw [hhi h] at hlt ⊢; omega
      · have := hhi2 h; omega
end Go.Proofs.Qxb6619276a
