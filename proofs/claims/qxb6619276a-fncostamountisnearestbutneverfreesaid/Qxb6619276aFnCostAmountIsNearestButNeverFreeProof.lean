/-
  The proof of 'Rows.FnCostAmountIsNearestButNeverFreeSaid'. The frame is the guide's template, turned to a float argument; the walk and the plain law are ours.
-/
import Derived.Test.Qxb6619276aRows
import Derived.Test.Qxb6619276aCostE
import Derived.WalkKit
import Derived.ProofKit
import Derived.OpenShut
import Derived.ShutString
namespace Go.Proofs.Qxb6619276a.fnCostAmountIsNearestButNeverFree
open Go.ChangeShapes Go.WideShapes Go.ChangeAt Go.RowKit
open Go.ChangeMaps (open_string shut_string)
open Fl
set_option linter.unusedVariables false

theorem own : ownKnob Try.prog.godebug = none := by kernel_rfl

/-! ### THE PLAIN LAW -/
theorem less_iff (r : Nat) (u : Nat) : Less r (u : Int) ↔ 2000000 * V r < u * 2 ^ E := by unfold Less; rw [Int.toNat_natCast]

/-- isNearestMillionth says yes to what roundAmount gives. -/
theorem near_any (x : Nat) (hx : x < 18446744073709551616) (w : World) :
    Calls Try.prog 8 #[.float .f64 x, .int .i64 (rq x), .bool (rok x)] w fun e w' => e = .returned (.bool true) ∧ w' = w := by
  by_cases hfin : rg x < 9218868437227405312
  · have N := env_any x hx hfin
    obtain ⟨b1, b2⟩ := q6_bd (rg x)
    have hK := Nat.two_pow_pos E
    by_cases hq : q6 (rg x) < 9223372036854775808
    · have hok : rok x = true := by unfold rok; rw [decide_eq_true hfin, decide_eq_true hq]; rfl
      have hrq : rq x = if sgn x then -(q6 (rg x) : Int) else q6 (rg x) := by unfold rq; rw [hok, if_pos rfl]
      rw [hok]
      have hl := lt_zero x hfin
      have hg := gt_zero x hfin
      have L1 : Less (rg x) (2 * (q6 (rg x) : Int) + 1) := by
        rw [show 2 * (q6 (rg x) : Int) + 1 = ((2 * q6 (rg x) + 1 : Nat) : Int) by omega, less_iff]; exact b2
      by_cases h0 : q6 (rg x) = 0
      · rw [h0] at L1
        have hz : rq x = 0 := by rw [hrq, h0]; split <;> rfl
        rw [hz]
        exact near_zero N L1 w
      · have L2 : ¬ Less (rg x) (2 * (q6 (rg x) : Int) - 1) := by
          rw [show 2 * (q6 (rg x) : Int) - 1 = ((2 * q6 (rg x) - 1 : Nat) : Int) by omega, less_iff, Nat.sub_mul]
          generalize 2 * q6 (rg x) * 2 ^ E = Z at *
          omega
        cases hs : sgn x
        · rw [hs, if_neg (by decide)] at hrq
          rw [hs, Bool.false_and] at hl
          rw [hrq]
          exact near_pos _ N (by omega) (by omega) hl L1 L2 w
        · rw [hs, if_pos rfl] at hrq
          rw [hs, Bool.not_true, Bool.false_and] at hg
          rw [hrq]
          exact near_neg _ N (by omega) (by omega) hg (by rw [Int.neg_neg]; exact L1) (by rw [Int.neg_neg]; exact L2) w
    · have hok : rok x = false := by unfold rok; rw [decide_eq_false hq, Bool.and_false]
      have hrq : rq x = 0 := by unfold rq; rw [hok]; rfl
      rw [hok, hrq]
      refine near_big N ?_ w
      rw [show (18446744073709551615 : Int) = ((18446744073709551615 : Nat) : Int) from rfl, less_iff]
      have : 18446744073709551616 * 2 ^ E ≤ 2 * q6 (rg x) * 2 ^ E := Nat.mul_le_mul_right _ (by omega)
      generalize 2 * q6 (rg x) * 2 ^ E = Z at *
      omega
  · have hok : rok x = false := by unfold rok; rw [decide_eq_false hfin]; rfl
    have hrq : rq x = 0 := by unfold rq; rw [hok]; rfl
    rw [hok, hrq]
    exact near_fin_no x hfin w

/-- Where the cost is rounded to nought though it is positive. -/
theorem free_iff (x : Nat) (hfin : rg x < 9218868437227405312) : Less (rg x) 1 → rok x = true ∧ rq x = 0 := by
  intro h
  have h' : Less (rg x) ((1 : Nat) : Int) := h
  rw [less_iff, Nat.one_mul] at h'
  have hq := q6_zero h'
  have hok : rok x = true := by unfold rok; rw [decide_eq_true hfin, hq]; rfl
  refine ⟨hok, ?_⟩
  unfold rq; rw [hok, if_pos rfl, hq]; split <;> rfl
theorem not_free (x : Nat) (hfin : rg x < 9218868437227405312) (hn : ¬ Less (rg x) 1) : cq x = rq x := by
  have h' : ¬ Less (rg x) ((1 : Nat) : Int) := hn
  rw [less_iff, Nat.one_mul] at h'
  unfold cq
  rw [if_neg]
  intro h
  simp only [Bool.and_eq_true, decide_eq_true_eq] at h
  obtain ⟨⟨h1, h2⟩, _⟩ := h
  have hq : q6 (rg x) = 0 := by
    unfold rq at h2; rw [h1, if_pos rfl] at h2; split at h2 <;> omega
  have := (q6_bd (rg x)).2
  rw [hq] at this
  omega

/-! ### THE WALK: the Go text returns true -/
section
variable {x : Nat} {Ls : Int → Prop} {D : Nat → Int → Prop} {T : Int → Nat → Nat → Prop}
/-- x is not finite, or not positive: isNearestMillionth is asked at once. -/
theorem walk_plain (a : Int) (ok fin : Bool) (c1 : ∀ w, Calls Try.prog 9 #[.float .f64 x] w fun e w' => e = .returned (.tuple #[.int .i64 a, .bool ok]) ∧ w' = w)
    (c2 : ∀ w, Calls Try.prog 7 #[.float .f64 x] w fun e w' => e = .returned (.tuple #[.int .i64 a, .bool ok]) ∧ w' = w)
    (c3 : ∀ w, Calls Try.prog 10 #[.float .f64 x] w fun e w' => e = .returned (.bool fin) ∧ w' = w) (c4 : ∀ w, Calls Try.prog 8 #[.float .f64 x, .int .i64 a, .bool ok] w fun e w' => e = .returned (.bool true) ∧ w' = w)
    (hg : fin = true → (FloatKind.f64.format.order x 0 == some .gt) = false) (w : World) :
    Calls Try.prog 5 #[.float .f64 x] w fun e w' => e = .returned (.bool true) ∧ w' = w := by
  cases fin
  · clear hg
    go_enter Try.func5, Try.ntmps5
    go_wp2_with (first | (go_at_call 9; refine (c1 _).mono ?_; rintro e w' ⟨rfl, rfl⟩) | (go_at_call 7; refine (c2 _).mono ?_; rintro e w' ⟨rfl, rfl⟩) | (go_at_call 10; refine (c3 _).mono ?_; rintro e w' ⟨rfl, rfl⟩) | (go_at_call 8; refine (c4 _).mono ?_; rintro e w' ⟨rfl, rfl⟩))
    go_ret
    exact ⟨rfl, rfl⟩
  · replace hg := hg rfl
    go_enter Try.func5, Try.ntmps5
    go_wp2_with (first | (go_at_call 9; refine (c1 _).mono ?_; rintro e w' ⟨rfl, rfl⟩) | (go_at_call 7; refine (c2 _).mono ?_; rintro e w' ⟨rfl, rfl⟩) | (go_at_call 10; refine (c3 _).mono ?_; rintro e w' ⟨rfl, rfl⟩) | (go_at_call 8; refine (c4 _).mono ?_; rintro e w' ⟨rfl, rfl⟩))
    go_ret
    exact ⟨rfl, rfl⟩

theorem walk_free (N : Env x Ls D T) (c1 : ∀ w, Calls Try.prog 9 #[.float .f64 x] w fun e w' => e = .returned (.tuple #[.int .i64 1, .bool true]) ∧ w' = w)
    (c2 : ∀ w, Calls Try.prog 7 #[.float .f64 x] w fun e w' => e = .returned (.tuple #[.int .i64 0, .bool true]) ∧ w' = w)
    (hg : (FloatKind.f64.format.order x 0 == some .gt) = true) (h1 : Ls 1) (w : World) :
    Calls Try.prog 5 #[.float .f64 x] w fun e w' => e = .returned (.bool true) ∧ w' = w := by
  go_enter Try.func5, Try.ntmps5
  go_wp2_with (first | (go_at_call 9; refine (c1 _).mono ?_; rintro e w' ⟨rfl, rfl⟩) | (go_at_call 7; refine (c2 _).mono ?_; rintro e w' ⟨rfl, rfl⟩) | (go_at_call 10; refine (N.cF _).mono ?_; rintro e w' ⟨rfl, rfl⟩) | (go_at_call 11; refine (N.cD _).mono ?_; rintro e w' ⟨⟨m, k, rfl, hD⟩, rfl⟩) | (go_at_call 12; refine (N.cT _ _ hD _).mono ?_; rintro e w' ⟨⟨ph, pl, rfl, hT⟩, rfl⟩))
  refine (N.cC _ _ _ hT 1 (by omega) (by omega) _).mono ?_
  rintro e w' ⟨⟨c, rfl, hc⟩, rfl⟩
  have hc1 : c < 0 := hc.2 h1
  clear hc hT hD
  go_wp2
  go_ret
  exact ⟨rfl, rfl⟩

theorem walk_paid (a : Int) (ok : Bool) (N : Env x Ls D T) (c1 : ∀ w, Calls Try.prog 9 #[.float .f64 x] w fun e w' => e = .returned (.tuple #[.int .i64 a, .bool ok]) ∧ w' = w)
    (c2 : ∀ w, Calls Try.prog 7 #[.float .f64 x] w fun e w' => e = .returned (.tuple #[.int .i64 a, .bool ok]) ∧ w' = w) (c4 : ∀ w, Calls Try.prog 8 #[.float .f64 x, .int .i64 a, .bool ok] w fun e w' => e = .returned (.bool true) ∧ w' = w)
    (hg : (FloatKind.f64.format.order x 0 == some .gt) = true) (h1 : ¬ Ls 1) (w : World) :
    Calls Try.prog 5 #[.float .f64 x] w fun e w' => e = .returned (.bool true) ∧ w' = w := by
  go_enter Try.func5, Try.ntmps5
  go_wp2_with (first | (go_at_call 9; refine (c1 _).mono ?_; rintro e w' ⟨rfl, rfl⟩) | (go_at_call 7; refine (c2 _).mono ?_; rintro e w' ⟨rfl, rfl⟩) | (go_at_call 10; refine (N.cF _).mono ?_; rintro e w' ⟨rfl, rfl⟩) | (go_at_call 11; refine (N.cD _).mono ?_; rintro e w' ⟨⟨m, k, rfl, hD⟩, rfl⟩) | (go_at_call 12; refine (N.cT _ _ hD _).mono ?_; rintro e w' ⟨⟨ph, pl, rfl, hT⟩, rfl⟩))
  refine (N.cC _ _ _ hT 1 (by omega) (by omega) _).mono ?_
  rintro e w' ⟨⟨c, rfl, hc⟩, rfl⟩
  have hc1 : 0 ≤ c := by have := mt hc.1 h1; omega
  clear hc hT hD
  go_wp2_with (go_at_call 8; refine (c4 _).mono ?_; rintro e w' ⟨rfl, rfl⟩)
  go_ret
  exact ⟨rfl, rfl⟩
end

theorem walk (a0 : Nat) (w0 : (Lit.float .f64 a0).wf = true) (w : World) :
    Calls Try.prog 5 #[.float .f64 a0] w fun e w' => e = .returned (.bool true) ∧ Grown w w' := by
  have hx : a0 < 18446744073709551616 := by simpa [Lit.wf] using w0
  suffices h : Calls Try.prog 5 #[.float .f64 a0] w fun e w' => e = .returned (.bool true) ∧ w' = w by
    refine h.mono ?_
    rintro e w' ⟨rfl, rfl⟩
    exact ⟨rfl, Grown.refl _⟩
  have c1 := zcost_any a0 hx
  have c2 := zround_any a0 hx
  have c4 := near_any a0 hx
  have c3 := isFinite_any a0
  by_cases hfin : rg a0 < 9218868437227405312
  · have hg := gt_zero a0 hfin
    cases hp : (!sgn a0 && decide (rg a0 ≠ 0))
    · have hc : cq a0 = rq a0 := by unfold cq; rw [hp, Bool.and_false]; rfl
      rw [hc] at c1
      rw [hp] at hg
      exact walk_plain _ _ _ c1 c2 c3 c4 (fun _ => hg) w
    · rw [hp] at hg
      have N := env_any a0 hx hfin
      by_cases hl : Less (rg a0) 1
      · obtain ⟨hok, hz⟩ := free_iff a0 hfin hl
        have hc : cq a0 = 1 := by unfold cq; rw [hp, hok, hz]; rfl
        rw [hc, hok] at c1
        rw [hz, hok] at c2
        exact walk_free N c1 c2 hg hl w
      · rw [not_free a0 hfin hl] at c1
        exact walk_paid _ _ N c1 c2 c4 hg hl w
  · have hok : rok a0 = false := by unfold rok; rw [decide_eq_false hfin]; rfl
    have hc : cq a0 = rq a0 := by unfold cq; rw [hok]; rfl
    rw [hc] at c1
    rw [decide_eq_false hfin] at c3
    exact walk_plain _ _ _ c1 c2 c3 c4 (fun h => by cases h) w

/-! ### THE ROW's STEP: WRITTEN OUT: LEAVE IT -/
set_option maxRecDepth 100000 in
theorem lifted (os : Os) (started : os.Started) (H : Type) (enc : TypeId × Value → H) :
    ReturnsInHanded {} Try.checked os 5 .any (Rows.fnCostAmountIsNearestButNeverFreeSpec.pre6 enc Try.prog Try.f5 Rows.fnCostAmountIsNearestButNeverFreeRow.domain false) (Rows.fnCostAmountIsNearestButNeverFreeSpec.post enc Try.prog Try.f5 false true false false) := by
  refine returnsInHanded_of_change (C := Try.checked) own started (by kernel_rfl) Try.func5
    (ChangeSpec.witness6 (enc := enc) (C := Try.checked) false ⟨#[], #[.float .f64 0], []⟩ 8 (by kernel_rfl) (by kernel_rfl) (by kernel_rfl) (by kernel_rfl)) ?_
  intro W base args ds gs before hval0 hW hcnd _
  have hval : ∀ (j : Nat) t v, Try.f5.params[j]? = some t → args[j]? = some v → Value.okWide Try.prog W .any base t v := hval0
  have hW' := hW
  obtain ⟨p, q, hA0, hV, rfl, hfz, hnd⟩ := hW
  have hA : DataW.TrodAll enc Try.prog W 0 (fun _ => true) true Try.f5.params.toList args.toList ds p := hA0
  rw [Try.params5] at hA hval
  obtain ⟨v0, vs0, d0, ds0, p0, q0, hargs, rfl, rfl, h0, r0⟩ := trodAll_cons hA
  obtain ⟨rfl, rfl, rfl⟩ := trodAll_nil r0
  obtain rfl : args = #[v0] := by cases args; simp_all
  obtain ⟨rfl, rfl⟩ := trodVars_none hV
  obtain ⟨a0, rfl, rfl, rfl, w0⟩ := open_float Try.underlying22 (hval 0 22 v0 rfl rfl) h0
  clear hA0 hval0
  simp only [List.append_nil] at hW'
  refine (walk a0 w0 W).mono fun e W' ⟨he, hg⟩ => ?_
  subst he
  exact ⟨_, rfl, post_of_same (pa := []) (pv := []) hW' (fun _ _ _ => (trodAll_cons_mk (shut_bool Try.underlying4 _) trodAll_mk0)) (fun sp _ => (trodAll_cons_mk (shut_float Try.underlying22 w0) trodAll_mk0)) (fun _ _ => rfl) rfl
    (hg.frame _) hg.2.1 (ok_one (by kernel_rfl) rfl (okWide_bool_mk Try.underlying4 _))⟩

theorem over : Rows.fnCostAmountIsNearestButNeverFreeRow.holds Try.pinned (OpenSpec.ofChange Rows.fnCostAmountIsNearestButNeverFreeSpec) :=
  OpenClaim.holds_of_wide 5 Try.f5 rfl rfl rfl rfl rfl rfl rfl ⟨rfl, rfl, rfl, rfl, rfl⟩ rfl rfl rfl rfl rfl (by kernel_rfl) Try.func5 (by kernel_rfl)
    (of_decide_eq_true (by kernel_rfl)) (by unfold Func.isWrapper; first | (rw [if_pos (by decide +kernel)]; kernel_rfl) | (rw [if_neg (by decide +kernel)]; exact ⟨rfl, rfl⟩))
    (fun os started H enc _ => lifted os started H enc)

/-- ████ THE STATEMENT ████ -/
theorem proved : Rows.FnCostAmountIsNearestButNeverFreeSaid :=
  over
#print axioms proved
end Go.Proofs.Qxb6619276a.fnCostAmountIsNearestButNeverFree
