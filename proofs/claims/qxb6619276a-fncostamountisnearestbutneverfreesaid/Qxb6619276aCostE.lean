/-
  The walk of isNearestMillionth.
-/
import Derived.Test.Qxb6619276aCostD
namespace Go.Proofs.Qxb6619276a
open Go.ChangeShapes Go.WideShapes Go.ChangeAt Go.RowKit
open Fl

/-- The magnitude lies below v half millionths. -/
def Less (r : Nat) (v : Int) : Prop := 2000000 * V r < v.toNat * 2 ^ E

/-- |x| = m * 2^e. -/
def Dec (r m : Nat) (e : Int) : Prop := m < 9007199254740992 ∧ ∃ n j : Nat, e = (n : Int) - j ∧ n ≤ 971 ∧ j ≤ 1074 ∧ V r * 2 ^ j = m * 2 ^ E * 2 ^ n
/-- What cmpScaled answers behind decompose and twiceMillionths. -/
def Two (r : Nat) (e : Int) (ph pl : Nat) : Prop := ∀ v : Int, 0 ≤ v → v < 18446744073709551616 → ∀ w, Calls Try.prog 13 #[.int .u64 ph, .int .u64 pl, .int .i64 e, .int .u64 v] w fun x w' => (∃ c : Int, x = .returned (.int .i64 c) ∧ (c < 0 ↔ Less r v)) ∧ w' = w

theorem dec_any (x : Nat) (hx : x < 18446744073709551616) (hfin : rg x < 9218868437227405312) (w : World) :
    Calls Try.prog 11 #[.float .f64 x] w fun e w' => (∃ (m : Nat) (k : Int), e = .returned (.tuple #[.int .u64 m, .int .i64 k]) ∧ Dec (rg x) m k) ∧ w' = w := by
  refine (decompose_any x hx hfin w).mono ?_
  rintro e w' ⟨⟨m, n, j, rfl, h1, h2, h3, h4⟩, rfl⟩
  exact ⟨⟨m, _, rfl, h1, n, j, rfl, h2, h3, h4⟩, rfl⟩

theorem two_any {r m : Nat} {k : Int} (h : Dec r m k) (w : World) :
    Calls Try.prog 12 #[.int .u64 m] w fun e w' => (∃ ph pl : Nat, e = .returned (.tuple #[.int .u64 ph, .int .u64 pl]) ∧ Two r k ph pl) ∧ w' = w := by
  obtain ⟨hm, n, j, rfl, hn, hj, hrel⟩ := h
  refine (twice_any m hm w).mono ?_
  rintro e w' ⟨rfl, rfl⟩
  refine ⟨⟨_, _, rfl, ?_⟩, rfl⟩
  intro v v0 v1 w
  obtain ⟨u, rfl⟩ := Int.eq_ofNat_of_zero_le v0
  have c := cmpScaled_any (2000000 * m / 18446744073709551616) (2000000 * m % 18446744073709551616) u ((n : Int) - j) (by omega) (by omega) (by omega) (by omega) (by omega) w
  rw [show 2000000 * m / 18446744073709551616 * 18446744073709551616 + 2000000 * m % 18446744073709551616 = 2000000 * m by omega, cs_eq (V r) m u n j hrel] at c
  refine c.mono ?_
  rintro e w' ⟨rfl, rfl⟩
  exact ⟨⟨_, rfl, by rw [sg_neg]; rfl⟩, rfl⟩

/-- What the callees of isNearestMillionth answer at a finite x; the predicates are left open, so that the walk does not look into them. -/
structure Env (x : Nat) (Ls : Int → Prop) (D : Nat → Int → Prop) (T : Int → Nat → Nat → Prop) : Prop where
  cF : ∀ w, Calls Try.prog 10 #[.float .f64 x] w fun e w' => e = .returned (.bool true) ∧ w' = w
  cD : ∀ w, Calls Try.prog 11 #[.float .f64 x] w fun e w' => (∃ (m : Nat) (k : Int), e = .returned (.tuple #[.int .u64 m, .int .i64 k]) ∧ D m k) ∧ w' = w
  cT : ∀ (m : Nat) (k : Int), D m k → ∀ w, Calls Try.prog 12 #[.int .u64 m] w fun e w' => (∃ ph pl : Nat, e = .returned (.tuple #[.int .u64 ph, .int .u64 pl]) ∧ T k ph pl) ∧ w' = w
  cC : ∀ (k : Int) (ph pl : Nat), T k ph pl → ∀ v : Int, 0 ≤ v → v < 18446744073709551616 → ∀ w, Calls Try.prog 13 #[.int .u64 ph, .int .u64 pl, .int .i64 k, .int .u64 v] w fun x w' => (∃ c : Int, x = .returned (.int .i64 c) ∧ (c < 0 ↔ Ls v)) ∧ w' = w

theorem env_any (x : Nat) (hx : x < 18446744073709551616) (h : rg x < 9218868437227405312) : Env x (Less (rg x)) (Dec (rg x)) (Two (rg x)) :=
  ⟨isFinite_yes x h, dec_any x hx h, fun _ _ h => two_any h, fun _ _ _ h => h⟩

theorem near_fin_no (x : Nat) (h : ¬ rg x < 9218868437227405312) (w : World) :
    Calls Try.prog 8 #[.float .f64 x, .int .i64 0, .bool false] w fun e w' => e = .returned (.bool true) ∧ w' = w := by
  have c := isFinite_any x
  rw [decide_eq_false h] at c
  go_enter Try.func8, Try.ntmps8
  go_wp2_with (go_at_call 10; refine (c _).mono ?_; rintro e w' ⟨rfl, rfl⟩)
  go_ret
  exact ⟨rfl, rfl⟩

section
variable {x : Nat} {Ls : Int → Prop} {D : Nat → Int → Prop} {T : Int → Nat → Nat → Prop}

theorem near_big (N : Env x Ls D T) (hb : ¬ Ls 18446744073709551615) (w : World) :
    Calls Try.prog 8 #[.float .f64 x, .int .i64 0, .bool false] w fun e w' => e = .returned (.bool true) ∧ w' = w := by
  go_enter Try.func8, Try.ntmps8
  go_wp2_with (first | (go_at_call 10; refine (N.cF _).mono ?_; rintro e w' ⟨rfl, rfl⟩) | (go_at_call 11; refine (N.cD _).mono ?_; rintro e w' ⟨⟨m, k, rfl, hD⟩, rfl⟩) | (go_at_call 12; refine (N.cT _ _ hD _).mono ?_; rintro e w' ⟨⟨ph, pl, rfl, hT⟩, rfl⟩))
  refine (N.cC _ _ _ hT 18446744073709551615 (by omega) (by omega) _).mono ?_
  rintro e w' ⟨⟨c1, rfl, hc⟩, rfl⟩
  have hc1 : 0 ≤ c1 := by have := mt hc.1 hb; omega
  clear hc hT hD
  go_wp2
  go_ret
  exact ⟨rfl, rfl⟩

theorem near_pos (a : Int) (N : Env x Ls D T) (h0 : 0 < a) (ha2 : a < 9223372036854775808) (hl : (FloatKind.f64.format.order x 0 == some .lt) = false)
    (h1 : Ls (2 * a + 1)) (h2 : ¬ Ls (2 * a - 1)) (w : World) :
    Calls Try.prog 8 #[.float .f64 x, .int .i64 a, .bool true] w fun e w' => e = .returned (.bool true) ∧ w' = w := by
  have ha3 : (a == -9223372036854775808) = false := by rw [beq_eq_false_iff_ne]; omega
  cases hg : (FloatKind.f64.format.order x 0 == some .gt)
  all_goals
    go_enter Try.func8, Try.ntmps8
    go_wp2_with (first | (go_at_call 10; refine (N.cF _).mono ?_; rintro e w' ⟨rfl, rfl⟩) | (go_at_call 11; refine (N.cD _).mono ?_; rintro e w' ⟨⟨m, k, rfl, hD⟩, rfl⟩) | (go_at_call 12; refine (N.cT _ _ hD _).mono ?_; rintro e w' ⟨⟨ph, pl, rfl, hT⟩, rfl⟩))
    refine (N.cC _ _ _ hT (2 * a + 1) (by omega) (by omega) _).mono ?_
    rintro e w' ⟨⟨c1, rfl, hc⟩, rfl⟩
    have hc1 : c1 < 0 := hc.2 h1
    clear hc
    go_wp2_with fail
    refine (N.cC _ _ _ hT (2 * a - 1) (by omega) (by omega) _).mono ?_
    rintro e w' ⟨⟨c2, rfl, hc⟩, rfl⟩
    have hc2 : 0 ≤ c2 := by have := mt hc.1 h2; omega
    clear hc hT hD
    go_wp2
    go_ret
    exact ⟨rfl, rfl⟩

theorem near_zero (N : Env x Ls D T) (h1 : Ls 1) (w : World) :
    Calls Try.prog 8 #[.float .f64 x, .int .i64 0, .bool true] w fun e w' => e = .returned (.bool true) ∧ w' = w := by
  cases hg : (FloatKind.f64.format.order x 0 == some .gt) <;> cases hl : (FloatKind.f64.format.order x 0 == some .lt)
  all_goals
    go_enter Try.func8, Try.ntmps8
    go_wp2_with (first | (go_at_call 10; refine (N.cF _).mono ?_; rintro e w' ⟨rfl, rfl⟩) | (go_at_call 11; refine (N.cD _).mono ?_; rintro e w' ⟨⟨m, k, rfl, hD⟩, rfl⟩) | (go_at_call 12; refine (N.cT _ _ hD _).mono ?_; rintro e w' ⟨⟨ph, pl, rfl, hT⟩, rfl⟩))
    refine (N.cC _ _ _ hT 1 (by omega) (by omega) _).mono ?_
    rintro e w' ⟨⟨c1, rfl, hc⟩, rfl⟩
    have hc1 : c1 < 0 := hc.2 h1
    clear hc hT hD
    go_wp2
    go_ret
    exact ⟨rfl, rfl⟩

theorem near_neg (a : Int) (N : Env x Ls D T) (h0 : a < 0) (ha2 : -9223372036854775808 < a) (hg : (FloatKind.f64.format.order x 0 == some .gt) = false)
    (h1 : Ls (2 * (-a) + 1)) (h2 : ¬ Ls (2 * (-a) - 1)) (w : World) :
    Calls Try.prog 8 #[.float .f64 x, .int .i64 a, .bool true] w fun e w' => e = .returned (.bool true) ∧ w' = w := by
  have ha3 : (a == -9223372036854775808) = false := by rw [beq_eq_false_iff_ne]; omega
  cases hl : (FloatKind.f64.format.order x 0 == some .lt)
  all_goals
    go_enter Try.func8, Try.ntmps8
    go_wp2_with (first | (go_at_call 10; refine (N.cF _).mono ?_; rintro e w' ⟨rfl, rfl⟩) | (go_at_call 11; refine (N.cD _).mono ?_; rintro e w' ⟨⟨m, k, rfl, hD⟩, rfl⟩) | (go_at_call 12; refine (N.cT _ _ hD _).mono ?_; rintro e w' ⟨⟨ph, pl, rfl, hT⟩, rfl⟩))
    refine (N.cC _ _ _ hT (2 * (-a) + 1) (by omega) (by omega) _).mono ?_
    rintro e w' ⟨⟨c1, rfl, hc⟩, rfl⟩
    have hc1 : c1 < 0 := hc.2 h1
    clear hc
    go_wp2_with fail
    refine (N.cC _ _ _ hT (2 * (-a) - 1) (by omega) (by omega) _).mono ?_
    rintro e w' ⟨⟨c2, rfl, hc⟩, rfl⟩
    have hc2 : 0 ≤ c2 := by have := mt hc.1 h2; omega
    clear hc hT hD
    go_wp2
    go_ret
    exact ⟨rfl, rfl⟩
end
end Go.Proofs.Qxb6619276a
