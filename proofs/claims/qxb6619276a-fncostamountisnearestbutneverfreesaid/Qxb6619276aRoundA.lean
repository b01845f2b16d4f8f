/-
  The walk of roundAmount, its callees' answers given.
-/
import Derived.Test.Qxb6619276aMathC
namespace Go.Proofs.Qxb6619276a
open Go.ChangeShapes Go.WideShapes Go.ChangeAt Go.RowKit
open Fl

/-- What roundAmount's callees answer at x: the fraction's word fw, the exponent 53 - s, the full significand m, the product (hi, lo). -/
structure Parts (x fw lw m : Nat) (s : Int) (hi lo : Nat) : Prop where
  cF : ∀ w, Calls Try.prog 23 #[.float .f64 (rg x)] w fun e w' => e = .returned (.tuple #[.float .f64 fw, .int .i64 (53 - s)]) ∧ w' = w
  cL : ∀ w, Calls Try.prog 25 #[.float .f64 fw, .int .i64 53] w fun e w' => e = .returned (.float .f64 lw) ∧ w' = w
  cI : floatToIntVal .f64 lw .u64 = some (m : Int)
  cM : ∀ w, Calls Try.prog 26 #[.int .u64 m, .int .u64 1000000] w fun e w' => e = .returned (.tuple #[.int .u64 hi, .int .u64 lo]) ∧ w' = w

/-- What roundAmount hands back, q being the rounded magnitude. -/
def out (neg : Bool) (q : Nat) : Value := .tuple #[.int .i64 (if q < 9223372036854775808 then (if neg then -(q : Int) else q) else 0), .bool (decide (q < 9223372036854775808))]
theorem out_no (neg : Bool) (q : Nat) (h : 9223372036854775808 ≤ q) : Value.tuple #[.int .i64 0, .bool false] = out neg q := by
  unfold out; rw [if_neg (by omega), decide_eq_false (by omega)]
theorem out_neg (q : Nat) (h : q < 9223372036854775808) : Value.tuple #[.int .i64 (-(q : Int)), .bool true] = out true q := by
  unfold out; rw [if_pos h, decide_eq_true h]; rfl
theorem out_pos (q : Nat) (h : q < 9223372036854775808) : Value.tuple #[.int .i64 (q : Int), .bool true] = out false q := by
  unfold out; rw [if_pos h, decide_eq_true h]; rfl

theorem core_lo (x fw lw m s hi lo hf lo2 c hi2 q : Nat) (neg : Bool) (hx : x < 18446744073709551616) (hfin : rg x < 9218868437227405312) (P : Parts x fw lw m s hi lo) (h1 : 1 ≤ s) (h2 : s < 64)
    (e2 : IntKind.u64.wrap (2 ^ (s - 1)) = (hf : Int))
    (h27 : ∀ w, (callFunc 27 #[.int .u64 lo, .int .u64 hf, .int .u64 0]).run Try.prog w = .ok (.value (.tuple #[.int .u64 lo2, .int .u64 c])) w)
    (e5 : IntKind.u64.wrap (c : Int) = c) (e6 : IntKind.u64.wrap ((hi : Int) + c) = hi2)
    (hsg : (FloatKind.f64.format.order x 0 == some .lt) = neg)
    (hq : ((hi2 : Int) / 2 ^ s != 0) = true ∧ 9223372036854775808 ≤ q ∨ ((hi2 : Int) / 2 ^ s != 0) = false ∧ bits .or .u64 ((lo2 : Int) / 2 ^ s) (IntKind.u64.wrap ((hi2 : Int) * 2 ^ (64 - s))) = q) (w : World) :
    Calls Try.prog 16 #[.float .f64 x] w fun e w' => e = .returned (out neg q) ∧ w' = w := by
  have hcv := fun (w : World) => run_convert_float_int (P := Try.prog) w 22 29 .f64 .u64 lw m rfl Try.underlying29 P.cI
  have e1 : (53 : Int) - (53 - (s : Int)) = s := by omega
  rcases hq with ⟨hq, hb⟩ | ⟨hq, e7⟩
  · rw [← out_no neg q hb]
    clear hsg
    go_enter Try.func16, Try.ntmps16
    go_wp2_with (first | (go_at_call 21; refine (isNaN_no x (by omega) _).mono ?_; rintro e w' ⟨rfl, rfl⟩) | (go_at_call 22; refine (isInf_no x (by omega) (by omega) _).mono ?_; rintro e w' ⟨rfl, rfl⟩) | (go_at_call 24; refine (abs_any x hx _).mono ?_; rintro e w' ⟨rfl, rfl⟩) | (go_at_call 23; refine (P.cF _).mono ?_; rintro e w' ⟨rfl, rfl⟩) | (go_at_call 25; refine (P.cL _).mono ?_; rintro e w' ⟨rfl, rfl⟩) | (go_at_call 26; refine (P.cM _).mono ?_; rintro e w' ⟨rfl, rfl⟩))
    go_ret2
    exact ⟨rfl, rfl⟩
  · by_cases hb : 9223372036854775808 ≤ q
    · rw [← out_no neg q hb]
      clear hsg
      go_enter Try.func16, Try.ntmps16
      go_wp2_with (first | (go_at_call 21; refine (isNaN_no x (by omega) _).mono ?_; rintro e w' ⟨rfl, rfl⟩) | (go_at_call 22; refine (isInf_no x (by omega) (by omega) _).mono ?_; rintro e w' ⟨rfl, rfl⟩) | (go_at_call 24; refine (abs_any x hx _).mono ?_; rintro e w' ⟨rfl, rfl⟩) | (go_at_call 23; refine (P.cF _).mono ?_; rintro e w' ⟨rfl, rfl⟩) | (go_at_call 25; refine (P.cL _).mono ?_; rintro e w' ⟨rfl, rfl⟩) | (go_at_call 26; refine (P.cM _).mono ?_; rintro e w' ⟨rfl, rfl⟩))
      go_ret2
      exact ⟨rfl, rfl⟩
    · cases neg
      · rw [← out_pos q (by omega)]
        go_enter Try.func16, Try.ntmps16
        go_wp2_with (first | (go_at_call 21; refine (isNaN_no x (by omega) _).mono ?_; rintro e w' ⟨rfl, rfl⟩) | (go_at_call 22; refine (isInf_no x (by omega) (by omega) _).mono ?_; rintro e w' ⟨rfl, rfl⟩) | (go_at_call 24; refine (abs_any x hx _).mono ?_; rintro e w' ⟨rfl, rfl⟩) | (go_at_call 23; refine (P.cF _).mono ?_; rintro e w' ⟨rfl, rfl⟩) | (go_at_call 25; refine (P.cL _).mono ?_; rintro e w' ⟨rfl, rfl⟩) | (go_at_call 26; refine (P.cM _).mono ?_; rintro e w' ⟨rfl, rfl⟩))
        go_ret2
        exact ⟨rfl, rfl⟩
      · rw [← out_neg q (by omega)]
        go_enter Try.func16, Try.ntmps16
        go_wp2_with (first | (go_at_call 21; refine (isNaN_no x (by omega) _).mono ?_; rintro e w' ⟨rfl, rfl⟩) | (go_at_call 22; refine (isInf_no x (by omega) (by omega) _).mono ?_; rintro e w' ⟨rfl, rfl⟩) | (go_at_call 24; refine (abs_any x hx _).mono ?_; rintro e w' ⟨rfl, rfl⟩) | (go_at_call 23; refine (P.cF _).mono ?_; rintro e w' ⟨rfl, rfl⟩) | (go_at_call 25; refine (P.cL _).mono ?_; rintro e w' ⟨rfl, rfl⟩) | (go_at_call 26; refine (P.cM _).mono ?_; rintro e w' ⟨rfl, rfl⟩))
        go_ret2
        exact ⟨rfl, rfl⟩

/-- From 64 places on: half of 2^s lies in the high word (or, at 64, at the low word's head). -/
theorem core_64 (x fw lw m hi lo lo2 c q : Nat) (neg : Bool) (hx : x < 18446744073709551616) (hfin : rg x < 9218868437227405312) (P : Parts x fw lw m 64 hi lo)
    (h27 : ∀ w, (callFunc 27 #[.int .u64 lo, .int .u64 9223372036854775808, .int .u64 0]).run Try.prog w = .ok (.value (.tuple #[.int .u64 lo2, .int .u64 c])) w)
    (e5 : IntKind.u64.wrap (c : Int) = c) (e6 : IntKind.u64.wrap ((hi : Int) + c) = q) (hb : q < 9223372036854775808)
    (hsg : (FloatKind.f64.format.order x 0 == some .lt) = neg) (w : World) :
    Calls Try.prog 16 #[.float .f64 x] w fun e w' => e = .returned (out neg q) ∧ w' = w := by
  have hcv := fun (w : World) => run_convert_float_int (P := Try.prog) w 22 29 .f64 .u64 lw m rfl Try.underlying29 P.cI
  cases neg
  · rw [← out_pos q (by omega)]
    go_enter Try.func16, Try.ntmps16
    go_wp2_with (first | (go_at_call 21; refine (isNaN_no x (by omega) _).mono ?_; rintro e w' ⟨rfl, rfl⟩) | (go_at_call 22; refine (isInf_no x (by omega) (by omega) _).mono ?_; rintro e w' ⟨rfl, rfl⟩) | (go_at_call 24; refine (abs_any x hx _).mono ?_; rintro e w' ⟨rfl, rfl⟩) | (go_at_call 23; refine (P.cF _).mono ?_; rintro e w' ⟨rfl, rfl⟩) | (go_at_call 25; refine (P.cL _).mono ?_; rintro e w' ⟨rfl, rfl⟩) | (go_at_call 26; refine (P.cM _).mono ?_; rintro e w' ⟨rfl, rfl⟩))
    go_ret2
    exact ⟨rfl, rfl⟩
  · rw [← out_neg q (by omega)]
    go_enter Try.func16, Try.ntmps16
    go_wp2_with (first | (go_at_call 21; refine (isNaN_no x (by omega) _).mono ?_; rintro e w' ⟨rfl, rfl⟩) | (go_at_call 22; refine (isInf_no x (by omega) (by omega) _).mono ?_; rintro e w' ⟨rfl, rfl⟩) | (go_at_call 24; refine (abs_any x hx _).mono ?_; rintro e w' ⟨rfl, rfl⟩) | (go_at_call 23; refine (P.cF _).mono ?_; rintro e w' ⟨rfl, rfl⟩) | (go_at_call 25; refine (P.cL _).mono ?_; rintro e w' ⟨rfl, rfl⟩) | (go_at_call 26; refine (P.cM _).mono ?_; rintro e w' ⟨rfl, rfl⟩))
    go_ret2
    exact ⟨rfl, rfl⟩

theorem core_hi (x fw lw m s hi lo hf hi2 q : Nat) (neg : Bool) (hx : x < 18446744073709551616) (hfin : rg x < 9218868437227405312) (P : Parts x fw lw m s hi lo) (h1 : 65 ≤ s) (h2 : s ≤ 73)
    (e2 : IntKind.u64.wrap (2 ^ (s - 65)) = (hf : Int))
    (h27 : ∀ w, (callFunc 27 #[.int .u64 lo, .int .u64 0, .int .u64 0]).run Try.prog w = .ok (.value (.tuple #[.int .u64 lo, .int .u64 0])) w)
    (e5 : IntKind.u64.wrap (hf : Int) = hf) (e6 : IntKind.u64.wrap ((hi : Int) + hf) = hi2) (hb : q < 9223372036854775808)
    (e7 : (hi2 : Int) / 2 ^ (s - 64) = q)
    (hsg : (FloatKind.f64.format.order x 0 == some .lt) = neg) (w : World) :
    Calls Try.prog 16 #[.float .f64 x] w fun e w' => e = .returned (out neg q) ∧ w' = w := by
  have hcv := fun (w : World) => run_convert_float_int (P := Try.prog) w 22 29 .f64 .u64 lw m rfl Try.underlying29 P.cI
  have e1 : (53 : Int) - (53 - (s : Int)) = s := by omega
  cases neg
  · rw [← out_pos q (by omega)]
    go_enter Try.func16, Try.ntmps16
    go_wp2_with (first | (go_at_call 21; refine (isNaN_no x (by omega) _).mono ?_; rintro e w' ⟨rfl, rfl⟩) | (go_at_call 22; refine (isInf_no x (by omega) (by omega) _).mono ?_; rintro e w' ⟨rfl, rfl⟩) | (go_at_call 24; refine (abs_any x hx _).mono ?_; rintro e w' ⟨rfl, rfl⟩) | (go_at_call 23; refine (P.cF _).mono ?_; rintro e w' ⟨rfl, rfl⟩) | (go_at_call 25; refine (P.cL _).mono ?_; rintro e w' ⟨rfl, rfl⟩) | (go_at_call 26; refine (P.cM _).mono ?_; rintro e w' ⟨rfl, rfl⟩))
    go_ret2
    exact ⟨rfl, rfl⟩
  · rw [← out_neg q (by omega)]
    go_enter Try.func16, Try.ntmps16
    go_wp2_with (first | (go_at_call 21; refine (isNaN_no x (by omega) _).mono ?_; rintro e w' ⟨rfl, rfl⟩) | (go_at_call 22; refine (isInf_no x (by omega) (by omega) _).mono ?_; rintro e w' ⟨rfl, rfl⟩) | (go_at_call 24; refine (abs_any x hx _).mono ?_; rintro e w' ⟨rfl, rfl⟩) | (go_at_call 23; refine (P.cF _).mono ?_; rintro e w' ⟨rfl, rfl⟩) | (go_at_call 25; refine (P.cL _).mono ?_; rintro e w' ⟨rfl, rfl⟩) | (go_at_call 26; refine (P.cM _).mono ?_; rintro e w' ⟨rfl, rfl⟩))
    go_ret2
    exact ⟨rfl, rfl⟩

theorem core_small (x fw lw m s hi lo : Nat) (neg : Bool) (hx : x < 18446744073709551616) (hfin : rg x < 9218868437227405312) (P : Parts x fw lw m s hi lo) (h1 : 73 < s) (h2 : s < 10000) (w : World) :
    Calls Try.prog 16 #[.float .f64 x] w fun e w' => e = .returned (out neg 0) ∧ w' = w := by
  have hcv := fun (w : World) => run_convert_float_int (P := Try.prog) w 22 29 .f64 .u64 lw m rfl Try.underlying29 P.cI
  have e1 : (53 : Int) - (53 - (s : Int)) = s := by omega
  have ho : out neg 0 = Value.tuple #[.int .i64 0, .bool true] := by cases neg <;> rfl
  rw [ho]
  go_enter Try.func16, Try.ntmps16
  go_wp2_with (first | (go_at_call 21; refine (isNaN_no x (by omega) _).mono ?_; rintro e w' ⟨rfl, rfl⟩) | (go_at_call 22; refine (isInf_no x (by omega) (by omega) _).mono ?_; rintro e w' ⟨rfl, rfl⟩) | (go_at_call 24; refine (abs_any x hx _).mono ?_; rintro e w' ⟨rfl, rfl⟩) | (go_at_call 23; refine (P.cF _).mono ?_; rintro e w' ⟨rfl, rfl⟩) | (go_at_call 25; refine (P.cL _).mono ?_; rintro e w' ⟨rfl, rfl⟩) | (go_at_call 26; refine (P.cM _).mono ?_; rintro e w' ⟨rfl, rfl⟩))
  go_ret2
  exact ⟨rfl, rfl⟩

theorem core_big (x fw lw m hi lo : Nat) (s : Int) (hx : x < 18446744073709551616) (hfin : rg x < 9218868437227405312) (P : Parts x fw lw m s hi lo) (h1 : s ≤ 0) (w : World) :
    Calls Try.prog 16 #[.float .f64 x] w fun e w' => e = .returned (.tuple #[.int .i64 0, .bool false]) ∧ w' = w := by
  go_enter Try.func16, Try.ntmps16
  go_wp2_with (first | (go_at_call 21; refine (isNaN_no x (by omega) _).mono ?_; rintro e w' ⟨rfl, rfl⟩) | (go_at_call 22; refine (isInf_no x (by omega) (by omega) _).mono ?_; rintro e w' ⟨rfl, rfl⟩) | (go_at_call 24; refine (abs_any x hx _).mono ?_; rintro e w' ⟨rfl, rfl⟩) | (go_at_call 23; refine (P.cF _).mono ?_; rintro e w' ⟨rfl, rfl⟩) | (go_at_call 25; refine (P.cL _).mono ?_; rintro e w' ⟨rfl, rfl⟩) | (go_at_call 26; refine (P.cM _).mono ?_; rintro e w' ⟨rfl, rfl⟩))
  go_ret2
  exact ⟨rfl, rfl⟩

theorem isNaN_yes (x : Nat) (h : 9218868437227405312 < rg x) (w : World) : Calls Try.prog 21 #[.float .f64 x] w fun e w' => e = .returned (.bool true) ∧ w' = w := by
  have := isNaN_any x w
  rwa [decide_eq_true h] at this
theorem isInf_yes (x : Nat) (hx : x < 18446744073709551616) (h : rg x = 9218868437227405312) (w : World) : Calls Try.prog 22 #[.float .f64 x, .int .i64 0] w fun e w' => e = .returned (.bool true) ∧ w' = w := by
  have := isInf_any x hx w
  rwa [decide_eq_true h] at this
theorem core_nan (x : Nat) (h : 9218868437227405312 < rg x) (w : World) :
    Calls Try.prog 16 #[.float .f64 x] w fun e w' => e = .returned (.tuple #[.int .i64 0, .bool false]) ∧ w' = w := by
  go_enter Try.func16, Try.ntmps16
  go_wp2_with (go_at_call 21; refine (isNaN_yes x h _).mono ?_; rintro e w' ⟨rfl, rfl⟩)
  go_ret2
  exact ⟨rfl, rfl⟩
theorem core_inf (x : Nat) (hx : x < 18446744073709551616) (h : rg x = 9218868437227405312) (w : World) :
    Calls Try.prog 16 #[.float .f64 x] w fun e w' => e = .returned (.tuple #[.int .i64 0, .bool false]) ∧ w' = w := by
  go_enter Try.func16, Try.ntmps16
  go_wp2_with (first | (go_at_call 21; refine (isNaN_no x (by omega) _).mono ?_; rintro e w' ⟨rfl, rfl⟩) | (go_at_call 22; refine (isInf_yes x hx h _).mono ?_; rintro e w' ⟨rfl, rfl⟩))
  go_ret2
  exact ⟨rfl, rfl⟩
end Go.Proofs.Qxb6619276a
