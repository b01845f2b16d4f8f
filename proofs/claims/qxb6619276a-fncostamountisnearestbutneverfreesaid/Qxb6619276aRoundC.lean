/-
  roundAmount's and costAmount's contracts.
-/
import Derived.Test.Qxb6619276aRoundB
namespace Go.Proofs.Qxb6619276a
open Go.ChangeShapes Go.WideShapes Go.ChangeAt Go.RowKit
open Fl

theorem out_eq (x : Nat) (hfin : rg x < 9218868437227405312) : out (sgn x && decide (rg x ≠ 0)) (q6 (rg x)) = .tuple #[.int .i64 (rq x), .bool (rok x)] := by
  unfold out rq rok
  rw [decide_eq_true hfin, Bool.true_and]
  by_cases hq : q6 (rg x) < 9223372036854775808
  · rw [if_pos hq, decide_eq_true hq, if_pos rfl]
    by_cases h0 : rg x = 0
    · have e : q6 (rg x) = 0 := by rw [h0]; exact q6_zero (by show 2000000 * 0 < _; have := Nat.two_pow_pos E; omega)
      rw [e]; cases sgn x <;> simp
    · rw [decide_eq_true h0, Bool.and_true]
  · rw [if_neg hq, decide_eq_false hq, if_neg (by decide)]

theorem rq_no (x : Nat) (h : rok x = false) : Value.tuple #[.int .i64 0, .bool false] = .tuple #[.int .i64 (rq x), .bool (rok x)] := by
  unfold rq; rw [h, if_neg (by decide)]

/-- roundAmount. -/
theorem round_any (x : Nat) (hx : x < 18446744073709551616) (w : World) : Calls Try.prog 16 #[.float .f64 x] w fun e w' => e = .returned (.tuple #[.int .i64 (rq x), .bool (rok x)]) ∧ w' = w := by
  by_cases hn : 9218868437227405312 < rg x
  · rw [← rq_no x (by unfold rok; rw [decide_eq_false (by omega)]; rfl)]; exact core_nan x hn w
  by_cases hi : rg x = 9218868437227405312
  · rw [← rq_no x (by unfold rok; rw [decide_eq_false (by omega)]; rfl)]; exact core_inf x hx hi w
  have hfin : rg x < 9218868437227405312 := by omega
  by_cases h0 : rg x = 0
  · rw [← out_eq x hfin]
    have e : q6 (rg x) = (0 + 2 ^ (53 - 1)) / 2 ^ 53 := by rw [h0]; exact q6_zero (by show 2000000 * 0 < _; have := Nat.two_pow_pos E; omega)
    rw [e]
    exact round_lo x 0 0 0 53 0 hx hfin (by decide) (parts_0 x h0) (by decide) (by decide) w
  have hP := parts_any x h0 hfin
  have hb := fm_bd (rg x)
  by_cases hs : rg x < 4503599627370496
  · have hL : (rg x).log2 < 52 := (Nat.log2_lt h0).2 hs
    have hfe : (53 : Int) - fe (rg x) = ((1126 - (rg x).log2 : Nat) : Int) := by unfold fe; rw [if_pos hs]; omega
    rw [hfe] at hP
    rw [← out_eq x hfin]
    have hq : q6 (rg x) = 0 := by
      refine q6_zero ?_
      rw [V_lo hs]
      have : 2 ^ 73 ≤ 2 ^ E := Nat.pow_le_pow_right (by decide) (by rw [E_eq]; omega)
      omega
    rw [hq]
    exact core_small x _ _ _ _ _ _ _ hx hfin hP (by omega) (by omega) w
  · have hV := V_normal (r := rg x) (by omega)
    have hfe := fe_normal (r := rg x) (by omega)
    have he1 : 1 ≤ rg x / 4503599627370496 := by omega
    have he2 : rg x / 4503599627370496 ≤ 2046 := by omega
    generalize rg x / 4503599627370496 = e at *
    by_cases hbig : 1075 ≤ e
    · have hs0 : (53 : Int) - fe (rg x) ≤ 0 := by rw [hfe]; omega
      refine (core_big x _ _ _ _ _ _ hx hfin hP hs0 w).mono ?_
      rintro e' w' ⟨rfl, rfl⟩
      refine ⟨?_, rfl⟩
      rw [rq_no x]
      have hle : 4503599627370496 * 2 ^ E ≤ V (rg x) := by
        rw [hV]; exact Nat.mul_le_mul hb.1 (Nat.pow_le_pow_right (by decide) (by rw [E_eq]; omega))
      have hq := (q6_bd (rg x)).2
      have hlt : 2000000 * 4503599627370496 * 2 ^ E < (2 * q6 (rg x) + 1) * 2 ^ E := by
        rw [Nat.mul_assoc]; exact Nat.lt_of_le_of_lt (Nat.mul_le_mul_left _ hle) hq
      have := Nat.lt_of_mul_lt_mul_right hlt
      unfold rok
      rw [decide_eq_false (p := q6 (rg x) < 9223372036854775808) (by omega), Bool.and_false]
    · have hs1 : (53 : Int) - fe (rg x) = ((1075 - e : Nat) : Int) := by rw [hfe]; omega
      rw [hs1] at hP
      have hVs : V (rg x) = fm (rg x) * 2 ^ (E - (1075 - e)) := by rw [hV, E_eq, show 1074 - (1075 - e) = e - 1 by omega]
      rw [← out_eq x hfin]
      have hqs := q6_of (s := 1075 - e) (by omega) (by omega) hVs
      generalize hse : 1075 - e = s at *
      have hN : fm (rg x) * 1000000 < 9444732965739290427392 := by omega
      by_cases s1 : s < 64
      · rw [hqs]; exact round_lo x _ _ _ s _ hx hfin hN hP (by omega) s1 w
      by_cases s2 : s = 64
      · subst s2; rw [hqs]; exact round_64 x _ _ _ _ hx hfin hN hP w
      by_cases s3 : s ≤ 73
      · rw [hqs]; exact round_hi x _ _ _ s _ hx hfin hN hP (by omega) s3 w
      · have hq : q6 (rg x) = 0 := by
          refine q6_zero ?_
          rw [hVs]
          have h74 : 2 ^ 74 ≤ 2 ^ s := Nat.pow_le_pow_right (by decide) (by omega)
          have hE : 2 ^ E = 2 ^ s * 2 ^ (E - s) := by rw [← Nat.pow_add, show s + (E - s) = E by rw [E_eq]; omega]
          rw [hE, ← Nat.mul_assoc]
          refine Nat.mul_lt_mul_of_pos_right ?_ (Nat.two_pow_pos _)
          clear hqs hVs hV hP hE
          omega
        rw [hq]
        exact core_small x _ _ _ s _ _ _ hx hfin hP (by omega) (by omega) w

/-- What costAmount hands back. -/
def cq (x : Nat) : Int := if rok x && decide (rq x = 0) && (!sgn x && decide (rg x ≠ 0)) then 1 else rq x

theorem gt_zero (x : Nat) (h : rg x < 9218868437227405312) : (FloatKind.f64.format.order x 0 == some .gt) = (!sgn x && decide (rg x ≠ 0)) := by
  show (Ieee.double.order x 0 == some .gt) = _
  rw [gt_fin h (by decide), sv_pos (x := 0) (by decide)]
  unfold sv
  have hv : V 0 = 0 := rfl
  rw [hv]
  by_cases h0 : rg x = 0
  · rw [h0, hv]; cases sgn x <;> simp
  · have := V_lt (a := 0) (b := rg x) (by omega)
    rw [hv] at this
    cases sgn x
    · simp only [Bool.false_eq_true, if_false, Bool.not_false, Bool.true_and]
      rw [decide_eq_true (show ((0 : Nat) : Int) < (V (rg x) : Int) by omega), decide_eq_true h0]
    · simp

theorem rok_fin {x : Nat} (h : rok x = true) : rg x < 9218868437227405312 := by
  unfold rok at h
  simp only [Bool.and_eq_true, decide_eq_true_eq] at h
  exact h.1

/-- costAmount. -/
theorem cost_any (x : Nat) (hx : x < 18446744073709551616) (w : World) : Calls Try.prog 17 #[.float .f64 x] w fun e w' => e = .returned (.tuple #[.int .i64 (cq x), .bool (rok x)]) ∧ w' = w := by
  have hr := round_any x hx
  have hc : cq x = if rok x && decide (rq x = 0) && (!sgn x && decide (rg x ≠ 0)) then 1 else rq x := rfl
  have hg := gt_zero x
  have hf := rok_fin (x := x)
  generalize rq x = a at *
  generalize rok x = ok at *
  generalize cq x = c at *
  cases ok
  · rw [if_neg (by simp)] at hc
    subst hc
    clear hg hf
    go_enter Try.func17, Try.ntmps17
    go_wp2_with (go_at_call 16; refine (hr _).mono ?_; rintro e w' ⟨rfl, rfl⟩)
    go_ret2
    exact ⟨rfl, rfl⟩
  · replace hg := hg (hf rfl)
    clear hf
    generalize (!sgn x && decide (rg x ≠ 0)) = p at *
    by_cases ha : a = 0
    · subst ha
      replace hc : c = if p then 1 else 0 := by simpa using hc
      cases p
      · replace hc : c = 0 := by simpa using hc
        subst hc
        go_enter Try.func17, Try.ntmps17
        go_wp2_with (go_at_call 16; refine (hr _).mono ?_; rintro e w' ⟨rfl, rfl⟩)
        go_ret2
        exact ⟨rfl, rfl⟩
      · replace hc : c = 1 := by simpa using hc
        subst hc
        go_enter Try.func17, Try.ntmps17
        go_wp2_with (go_at_call 16; refine (hr _).mono ?_; rintro e w' ⟨rfl, rfl⟩)
        go_ret2
        exact ⟨rfl, rfl⟩
    · replace hc : c = a := by simpa [ha] using hc
      subst hc
      have ha' : (c == 0) = false := by simpa using ha
      clear hg ha
      go_enter Try.func17, Try.ntmps17
      go_wp2_with (go_at_call 16; refine (hr _).mono ?_; rintro e w' ⟨rfl, rfl⟩)
      go_ret2
      exact ⟨rfl, rfl⟩

/-- The exported doors. -/
theorem zround_any (x : Nat) (hx : x < 18446744073709551616) (w : World) : Calls Try.prog 7 #[.float .f64 x] w fun e w' => e = .returned (.tuple #[.int .i64 (rq x), .bool (rok x)]) ∧ w' = w := by
  go_enter Try.func7, Try.ntmps7
  go_wp2_with (go_at_call 16; refine (round_any x hx _).mono ?_; rintro e w' ⟨rfl, rfl⟩)
  go_ret2
  exact ⟨rfl, rfl⟩
theorem zcost_any (x : Nat) (hx : x < 18446744073709551616) (w : World) : Calls Try.prog 9 #[.float .f64 x] w fun e w' => e = .returned (.tuple #[.int .i64 (cq x), .bool (rok x)]) ∧ w' = w := by
  go_enter Try.func9, Try.ntmps9
  go_wp2_with (go_at_call 17; refine (cost_any x hx _).mono ?_; rintro e w' ⟨rfl, rfl⟩)
  go_ret2
  exact ⟨rfl, rfl⟩
end Go.Proofs.Qxb6619276a
