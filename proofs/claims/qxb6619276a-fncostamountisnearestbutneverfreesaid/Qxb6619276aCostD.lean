/-
  The walk of cmpScaled.
-/
import Derived.Test.Qxb6619276aCostC
namespace Go.Proofs.Qxb6619276a
open Go.ChangeShapes Go.WideShapes Go.ChangeAt Go.RowKit
open Fl

theorem shl_lost (hi lo s : Nat) (hh : hi < 18446744073709551616) (hl : lo < 18446744073709551616) (hs : s < 128) (h : 340282366920938463463374607431768211456 ≤ (hi * 18446744073709551616 + lo) * 2 ^ s) (w : World) :
    Calls Try.prog 18 #[.int .u64 hi, .int .u64 lo, .int .u64 s] w fun e w' => (∃ h l : Nat, e = .returned (.tuple #[.int .u64 h, .int .u64 l, .bool true])) ∧ w' = w := by
  refine (shl_any hi lo s hh hl hs w).mono ?_
  rintro e w' ⟨⟨a, b, rfl, _⟩, rfl⟩
  exact ⟨⟨a, b, by rw [decide_eq_true h]⟩, rfl⟩
theorem shl_fit (hi lo s : Nat) (hh : hi < 18446744073709551616) (hl : lo < 18446744073709551616) (hs : s < 128) (h : (hi * 18446744073709551616 + lo) * 2 ^ s < 340282366920938463463374607431768211456) (w : World) :
    Calls Try.prog 18 #[.int .u64 hi, .int .u64 lo, .int .u64 s] w fun e w' => (∃ a b : Nat, e = .returned (.tuple #[.int .u64 a, .int .u64 b, .bool false]) ∧ b < 18446744073709551616 ∧ a * 18446744073709551616 + b = (hi * 18446744073709551616 + lo) * 2 ^ s) ∧ w' = w := by
  refine (shl_any hi lo s hh hl hs w).mono ?_
  rintro e w' ⟨⟨a, b, rfl, hb, hv⟩, rfl⟩
  exact ⟨⟨a, b, by rw [decide_eq_false (by omega)], hb, hv h⟩, rfl⟩
theorem shl_lost0 (lo s : Nat) (hl : lo < 18446744073709551616) (hs : s < 128) (h : 340282366920938463463374607431768211456 ≤ lo * 2 ^ s) (w : World) :
    Calls Try.prog 18 #[.int .u64 0, .int .u64 lo, .int .u64 s] w fun e w' => (∃ h l : Nat, e = .returned (.tuple #[.int .u64 h, .int .u64 l, .bool true])) ∧ w' = w :=
  shl_lost 0 lo s (by decide) hl hs (by rwa [Nat.zero_mul, Nat.zero_add]) w
theorem shl_fit0 (lo s : Nat) (hl : lo < 18446744073709551616) (hs : s < 128) (h : lo * 2 ^ s < 340282366920938463463374607431768211456) (w : World) :
    Calls Try.prog 18 #[.int .u64 0, .int .u64 lo, .int .u64 s] w fun e w' => (∃ a b : Nat, e = .returned (.tuple #[.int .u64 a, .int .u64 b, .bool false]) ∧ b < 18446744073709551616 ∧ a * 18446744073709551616 + b = lo * 2 ^ s) ∧ w' = w := by
  have := shl_fit 0 lo s (by decide) hl hs (by rwa [Nat.zero_mul, Nat.zero_add]) w
  rw [Nat.zero_mul, Nat.zero_add] at this
  exact this
theorem cmp128_0 (ah al bl : Nat) (h1 : al < 18446744073709551616) (h2 : bl < 18446744073709551616) (w : World) :
    Calls Try.prog 19 #[.int .u64 ah, .int .u64 al, .int .u64 0, .int .u64 bl] w fun e w' => e = .returned (.int .i64 (sg (ah * 18446744073709551616 + al) bl)) ∧ w' = w := by
  have := cmp128_any ah al 0 bl h1 h2 w
  rw [Nat.zero_mul, Nat.zero_add] at this
  exact this

/-- Is the two-word number nought? In the forms that the walk asks. -/
theorem pz_of (ph pl : Nat) (h : ph * 18446744073709551616 + pl ≠ 0) : ((ph : Int) == 0) = false ∨ (ph = 0 ∧ ((pl : Int) == 0) = false) := by
  by_cases h1 : ph = 0
  · right; refine ⟨h1, ?_⟩; rw [beq_eq_false_iff_ne]; omega
  · left; rw [beq_eq_false_iff_ne]; omega

set_option maxRecDepth 20000 in
theorem cs_pos_0 (n v : Nat) (w : World) :
    Calls Try.prog 13 #[.int .u64 0, .int .u64 0, .int .i64 n, .int .u64 v] w fun e w' => e = .returned (.int .i64 (sg 0 v)) ∧ w' = w := by
  by_cases hv : v = 0
  · subst hv
    go_enter Try.func13, Try.ntmps13
    go_wp2
    go_ret
    exact ⟨rfl, rfl⟩
  · have hv' : ((v : Int) == 0) = false := by rw [beq_eq_false_iff_ne]; omega
    have e : sg 0 v = -1 := by unfold sg; rw [if_pos (by omega)]
    rw [e]
    clear hv
    go_enter Try.func13, Try.ntmps13
    go_wp2
    go_ret
    exact ⟨rfl, rfl⟩

set_option maxRecDepth 20000 in
theorem cs_pos_big (ph pl n v : Nat) (hP : ph * 18446744073709551616 + pl ≠ 0) (hn : (128 : Int) ≤ n) (w : World) :
    Calls Try.prog 13 #[.int .u64 ph, .int .u64 pl, .int .i64 n, .int .u64 v] w fun e w' => e = .returned (.int .i64 1) ∧ w' = w := by
  rcases pz_of ph pl hP with h | ⟨rfl, h⟩
  all_goals
    clear hP
    go_enter Try.func13, Try.ntmps13
    go_wp2
    go_ret
    exact ⟨rfl, rfl⟩

set_option maxRecDepth 20000 in
theorem cs_pos_lost (ph pl n v : Nat) (h1 : ph < 18446744073709551616) (h2 : pl < 18446744073709551616) (hP : ph * 18446744073709551616 + pl ≠ 0) (hn : n < 128) (hl : 340282366920938463463374607431768211456 ≤ (ph * 18446744073709551616 + pl) * 2 ^ n) (w : World) :
    Calls Try.prog 13 #[.int .u64 ph, .int .u64 pl, .int .i64 n, .int .u64 v] w fun e w' => e = .returned (.int .i64 1) ∧ w' = w := by
  have c := shl_lost ph pl n h1 h2 hn hl
  have hn1 : (n : Int) < 128 := by omega
  clear hl hn
  rcases pz_of ph pl hP with h | ⟨rfl, h⟩
  all_goals
    clear hP
    go_enter Try.func13, Try.ntmps13
    go_wp2_with (go_at_call 18; refine (c _).mono ?_; rintro e w' ⟨⟨a, b, rfl⟩, rfl⟩)
    go_ret
    exact ⟨rfl, rfl⟩

set_option maxRecDepth 20000 in
theorem cs_pos_fit (ph pl n v : Nat) (h1 : ph < 18446744073709551616) (h2 : pl < 18446744073709551616) (hv : v < 18446744073709551616) (hP : ph * 18446744073709551616 + pl ≠ 0) (hn : n < 128) (hl : (ph * 18446744073709551616 + pl) * 2 ^ n < 340282366920938463463374607431768211456) (w : World) :
    Calls Try.prog 13 #[.int .u64 ph, .int .u64 pl, .int .i64 n, .int .u64 v] w fun e w' => e = .returned (.int .i64 (sg ((ph * 18446744073709551616 + pl) * 2 ^ n) v)) ∧ w' = w := by
  have c := shl_fit ph pl n h1 h2 hn hl
  have hn1 : (n : Int) < 128 := by omega
  obtain ⟨Q, hQ⟩ : ∃ Q, Q = (ph * 18446744073709551616 + pl) * 2 ^ n := ⟨_, rfl⟩
  rw [← hQ] at c ⊢
  clear hl hn hQ
  rcases pz_of ph pl hP with h | ⟨rfl, h⟩
  all_goals
    clear hP
    go_enter Try.func13, Try.ntmps13
    go_wp2_with (first | (go_at_call 18; refine (c _).mono ?_; rintro e w' ⟨⟨a, b, rfl, hb, hv2⟩, rfl⟩; have HV : Hid (a * 18446744073709551616 + b = Q) := hv2; clear hv2) | (go_at_call 19; refine (cmp128_0 _ _ v (by assumption) hv _).mono ?_; rintro e w' ⟨rfl, rfl⟩))
    go_ret
    exact ⟨by rw [← HV.out]; rfl, rfl⟩

/-! The exponent is negative: -d. -/
set_option maxRecDepth 20000 in
theorem cs_neg_0 (ph pl : Nat) (x : Int) (hd : x < 0) (hd2 : -1100 < x) (w : World) :
    Calls Try.prog 13 #[.int .u64 ph, .int .u64 pl, .int .i64 x, .int .u64 0] w fun e w' => e = .returned (.int .i64 (sg (ph * 18446744073709551616 + pl) 0)) ∧ w' = w := by
  by_cases hP : ph * 18446744073709551616 + pl = 0
  · have e : sg (ph * 18446744073709551616 + pl) 0 = 0 := by rw [hP]; rfl
    rw [e]
    obtain ⟨rfl, rfl⟩ : ph = 0 ∧ pl = 0 := by omega
    clear hP e
    go_enter Try.func13, Try.ntmps13
    go_wp2
    go_ret
    exact ⟨rfl, rfl⟩
  · have e : sg (ph * 18446744073709551616 + pl) 0 = 1 := by unfold sg; rw [if_neg (by omega), if_neg hP]
    rw [e]
    clear e
    rcases pz_of ph pl hP with h | ⟨rfl, h⟩
    all_goals
      clear hP
      go_enter Try.func13, Try.ntmps13
      go_wp2
      go_ret
      exact ⟨rfl, rfl⟩

set_option maxRecDepth 20000 in
theorem cs_neg_big (ph pl v : Nat) (x : Int) (hv : ((v : Int) == 0) = false) (hd : x ≤ -128) (hd2 : -1100 < x) (w : World) :
    Calls Try.prog 13 #[.int .u64 ph, .int .u64 pl, .int .i64 x, .int .u64 v] w fun e w' => e = .returned (.int .i64 (-1)) ∧ w' = w := by
  cases h1 : ((ph : Int) == 0)
  · go_enter Try.func13, Try.ntmps13
    go_wp2
    go_ret
    exact ⟨rfl, rfl⟩
  · go_enter Try.func13, Try.ntmps13
    go_wp2
    go_ret
    exact ⟨rfl, rfl⟩

set_option maxRecDepth 20000 in
theorem cs_neg_lost (ph pl d v : Nat) (hv : ((v : Int) == 0) = false) (hv2 : v < 18446744073709551616) (hd : (0 : Int) < d) (hd2 : d < 128) (hl : 340282366920938463463374607431768211456 ≤ v * 2 ^ d) (w : World) :
    Calls Try.prog 13 #[.int .u64 ph, .int .u64 pl, .int .i64 (-(d : Int)), .int .u64 v] w fun e w' => e = .returned (.int .i64 (-1)) ∧ w' = w := by
  have c := shl_lost0 v d hv2 hd2 hl
  have hd1 : (d : Int) < 128 := by omega
  clear hl hd2
  cases h1 : ((ph : Int) == 0)
  all_goals
    go_enter Try.func13, Try.ntmps13
    go_wp2_with (go_at_call 18; refine (c _).mono ?_; rintro e w' ⟨⟨a, b, rfl⟩, rfl⟩)
    go_ret
    exact ⟨rfl, rfl⟩

set_option maxRecDepth 20000 in
theorem cs_neg_fit (ph pl d v : Nat) (h2 : pl < 18446744073709551616) (hv : ((v : Int) == 0) = false) (hv2 : v < 18446744073709551616) (hd : (0 : Int) < d) (hd2 : d < 128) (hl : v * 2 ^ d < 340282366920938463463374607431768211456) (w : World) :
    Calls Try.prog 13 #[.int .u64 ph, .int .u64 pl, .int .i64 (-(d : Int)), .int .u64 v] w fun e w' => e = .returned (.int .i64 (sg (ph * 18446744073709551616 + pl) (v * 2 ^ d))) ∧ w' = w := by
  have c := shl_fit0 v d hv2 hd2 hl
  have hd1 : (d : Int) < 128 := by omega
  obtain ⟨Q, hQ⟩ : ∃ Q, Q = v * 2 ^ d := ⟨_, rfl⟩
  rw [← hQ] at c ⊢
  clear hl hd2 hQ
  cases h1 : ((ph : Int) == 0)
  all_goals
    go_enter Try.func13, Try.ntmps13
    go_wp2_with (first | (go_at_call 18; refine (c _).mono ?_; rintro e w' ⟨⟨a, b, rfl, hb, hv2⟩, rfl⟩; have HV : Hid (a * 18446744073709551616 + b = Q) := hv2; clear hv2) | (go_at_call 19; refine (cmp128_any ph pl _ _ h2 (by assumption) _).mono ?_; rintro e w' ⟨rfl, rfl⟩))
    go_ret
    exact ⟨by rw [← HV.out]; rfl, rfl⟩

/-- cmpScaled: the sign of P * 2^e - v. -/
theorem cmpScaled_any (ph pl v : Nat) (e : Int) (h1 : ph < 18446744073709551616) (h2 : pl < 18446744073709551616) (hv : v < 18446744073709551616) (he : -1074 ≤ e) (he2 : e ≤ 971) (w : World) :
    Calls Try.prog 13 #[.int .u64 ph, .int .u64 pl, .int .i64 e, .int .u64 v] w fun r w' => r = .returned (.int .i64 (cs (ph * 18446744073709551616 + pl) e v)) ∧ w' = w := by
  unfold cs
  by_cases hs : 0 ≤ e
  · rw [if_pos hs]
    obtain ⟨n, rfl⟩ := Int.eq_ofNat_of_zero_le hs
    rw [Int.toNat_natCast]
    by_cases hP : ph * 18446744073709551616 + pl = 0
    · rw [hP, Nat.zero_mul]
      obtain ⟨rfl, rfl⟩ : ph = 0 ∧ pl = 0 := by omega
      exact cs_pos_0 n v w
    have hpos := Nat.two_pow_pos n
    by_cases hn : 128 ≤ n
    · have e1 : sg ((ph * 18446744073709551616 + pl) * 2 ^ n) v = 1 := by
        have hge : 2 ^ 128 ≤ 2 ^ n := Nat.pow_le_pow_right (by decide) hn
        have : 1 * 2 ^ n ≤ (ph * 18446744073709551616 + pl) * 2 ^ n := Nat.mul_le_mul_right _ (by omega)
        unfold sg; rw [if_neg (by omega), if_neg (by omega)]
      rw [e1]
      exact cs_pos_big ph pl n v hP (by omega) w
    · by_cases hl : 340282366920938463463374607431768211456 ≤ (ph * 18446744073709551616 + pl) * 2 ^ n
      · have e1 : sg ((ph * 18446744073709551616 + pl) * 2 ^ n) v = 1 := by unfold sg; rw [if_neg (by omega), if_neg (by omega)]
        rw [e1]
        exact cs_pos_lost ph pl n v h1 h2 hP (by omega) hl w
      · exact cs_pos_fit ph pl n v h1 h2 hv hP (by omega) (by omega) w
  · rw [if_neg hs]
    obtain ⟨d, hd⟩ : ∃ d : Nat, e = -(d : Int) := ⟨(-e).toNat, by omega⟩
    subst hd
    rw [Int.neg_neg, Int.toNat_natCast]
    by_cases hv0 : v = 0
    · subst hv0
      rw [Nat.zero_mul]
      exact cs_neg_0 ph pl _ (by omega) (by omega) w
    have hvb : ((v : Int) == 0) = false := by rw [beq_eq_false_iff_ne]; omega
    have hpos := Nat.two_pow_pos d
    by_cases hn : 128 ≤ d
    · have e1 : sg (ph * 18446744073709551616 + pl) (v * 2 ^ d) = -1 := by
        have hge : 2 ^ 128 ≤ 2 ^ d := Nat.pow_le_pow_right (by decide) hn
        have : 1 * 2 ^ d ≤ v * 2 ^ d := Nat.mul_le_mul_right _ (by omega)
        unfold sg; rw [if_pos (by omega)]
      rw [e1]
      exact cs_neg_big ph pl v _ hvb (by omega) (by omega) w
    · by_cases hl : 340282366920938463463374607431768211456 ≤ v * 2 ^ d
      · have e1 : sg (ph * 18446744073709551616 + pl) (v * 2 ^ d) = -1 := by unfold sg; rw [if_pos (by omega)]
        rw [e1]
        exact cs_neg_lost ph pl d v hvb hv (by omega) (by omega) hl w
      · exact cs_neg_fit ph pl d v h2 hvb hv (by omega) (by omega) (by omega) w
end Go.Proofs.Qxb6619276a
