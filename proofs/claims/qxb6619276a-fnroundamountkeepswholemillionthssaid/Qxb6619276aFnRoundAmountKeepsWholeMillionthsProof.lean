/-
  The proof of 'Rows.FnRoundAmountKeepsWholeMillionthsSaid'. The frame is the guide's template; the walk and the plain law are ours.
-/
import Derived.Test.Qxb6619276aRows
import Derived.Test.Qxb6619276aRoundC
import Derived.WalkKit
import Derived.ProofKit
import Derived.OpenShut
import Derived.ShutString
namespace Go.Proofs.Qxb6619276a.fnRoundAmountKeepsWholeMillionths
open Go.ChangeShapes Go.WideShapes Go.ChangeAt Go.RowKit
open Go.ChangeMaps (open_string shut_string)
open Fl
set_option linter.unusedVariables false

theorem own : ownKnob Try.prog.godebug = none := by kernel_rfl

/-! ### THE PLAIN LAW -/
theorem of_word (k : Int) (r : Nat) (hr : r < 9218868437227405312) (hr0 : r = 0 ↔ k = 0) (hq : q6 r = k.natAbs) (hk : k.natAbs < 4503599627370496) :
    rok (Ieee.double.word (decide (k < 0)) r) = true ∧ rq (Ieee.double.word (decide (k < 0)) r) = k ∧ cq (Ieee.double.word (decide (k < 0)) r) = k := by
  have hrg : rg (Ieee.double.word (decide (k < 0)) r) = r := rg_word (by omega)
  have hsg : sgn (Ieee.double.word (decide (k < 0)) r) = decide (k < 0) := sgn_word (by omega)
  have h1 : rok (Ieee.double.word (decide (k < 0)) r) = true := by
    unfold rok; rw [hrg, hq, decide_eq_true hr, decide_eq_true (by omega)]; rfl
  have h2 : rq (Ieee.double.word (decide (k < 0)) r) = k := by
    unfold rq; rw [h1, if_pos rfl, hsg, hrg, hq]
    by_cases hn : k < 0
    · rw [if_pos (by simpa using hn)]; omega
    · rw [if_neg (by simpa using hn)]; omega
  refine ⟨h1, h2, ?_⟩
  unfold cq
  rw [h1, h2, hrg]
  by_cases h0 : k = 0
  · rw [decide_eq_false (p := r ≠ 0) (by simpa using hr0.2 h0)]; simp
  · rw [decide_eq_false (p := k = 0) h0]; simp

theorem plain (k : Int) (h1 : k < 4503599627370496) (h2 : -4503599627370496 < k) :
    ∃ y, floatBits .quo .f64 (floatOfInt .f64 k) 4696837146684686336 = some y ∧ y < 18446744073709551616 ∧ rok y = true ∧ rq y = k ∧ cq y = k := by
  have hi : floatOfInt .f64 k = Ieee.double.word (decide (k < 0)) (rungOf k.natAbs) := nearest_int (decide (k < 0)) k.natAbs (by omega)
  rw [hi]
  by_cases h0 : k = 0
  · subst h0
    refine ⟨0, by decide, by decide, ?_⟩
    refine of_word 0 0 (by decide) (by simp) ?_ (by decide)
    exact q6_zero (by show 2000000 * 0 < _; have := Nat.two_pow_pos E; omega)
  · obtain ⟨r, d1, d2, d3, d4⟩ := div_million (decide (k < 0)) k.natAbs (by omega) (by omega)
    refine ⟨_, d1, ?_, of_word k r d2 (by constructor <;> intro h <;> omega) d4 (by omega)⟩
    rw [word_eq]; split <;> omega

/-! ### THE WALK: the Go text returns true -/
theorem walk (a0 : Int) (w0 : (Lit.int .i64 a0).wf = true) (w : World) :
    Calls Try.prog 4 #[.int .i64 a0] w fun e w' => e = .returned (.bool true) ∧ Grown w w' := by
  by_cases h1 : 4503599627370496 ≤ a0
  · go_enter Try.func4, Try.ntmps4
    go_wp2
    go_ret
    exact ⟨rfl, Grown.refl _⟩
  by_cases h2 : a0 ≤ -4503599627370496
  · go_enter Try.func4, Try.ntmps4
    go_wp2
    go_ret
    exact ⟨rfl, Grown.refl _⟩
  obtain ⟨y, p1, p2, p3, p4, p5⟩ := plain a0 (by omega) (by omega)
  have hdv := fun (w : World) => run_float_arith (P := Try.prog) w .quo 22 .f64 _ _ _ p1
  have c1 := zround_any y p2
  have c2 := zcost_any y p2
  rw [p3, p4] at c1
  rw [p3, p5] at c2
  clear p1 p2 p3 p4 p5
  go_enter Try.func4, Try.ntmps4
  go_wp2_with (first | (go_at_call 7; refine (c1 _).mono ?_; rintro e w' ⟨rfl, rfl⟩) | (go_at_call 9; refine (c2 _).mono ?_; rintro e w' ⟨rfl, rfl⟩))
  go_ret
  exact ⟨rfl, Grown.refl _⟩

/-! ### THE ROW's STEP: WRITTEN OUT: LEAVE IT -/
set_option maxRecDepth 100000 in
theorem lifted (os : Os) (started : os.Started) (H : Type) (enc : TypeId × Value → H) :
    ReturnsInHanded {} Try.checked os 4 .any (Rows.fnRoundAmountKeepsWholeMillionthsSpec.pre6 enc Try.prog Try.f4 Rows.fnRoundAmountKeepsWholeMillionthsRow.domain false) (Rows.fnRoundAmountKeepsWholeMillionthsSpec.post enc Try.prog Try.f4 false true false false) := by
  refine returnsInHanded_of_change (C := Try.checked) own started (by kernel_rfl) Try.func4
    (ChangeSpec.witness6 (enc := enc) (C := Try.checked) false ⟨#[], #[.int .i64 0], []⟩ 8 (by kernel_rfl) (by kernel_rfl) (by kernel_rfl) (by kernel_rfl)) ?_
  intro W base args ds gs before hval0 hW hcnd _
  have hval : ∀ (j : Nat) t v, Try.f4.params[j]? = some t → args[j]? = some v → Value.okWide Try.prog W .any base t v := hval0
  have hW' := hW
  obtain ⟨p, q, hA0, hV, rfl, hfz, hnd⟩ := hW
  have hA : DataW.TrodAll enc Try.prog W 0 (fun _ => true) true Try.f4.params.toList args.toList ds p := hA0
  rw [Try.params4] at hA hval
  obtain ⟨v0, vs0, d0, ds0, p0, q0, hargs, rfl, rfl, h0, r0⟩ := trodAll_cons hA
  obtain ⟨rfl, rfl, rfl⟩ := trodAll_nil r0
  obtain rfl : args = #[v0] := by cases args; simp_all
  obtain ⟨rfl, rfl⟩ := trodVars_none hV
  obtain ⟨a0, rfl, rfl, rfl, w0⟩ := open_int Try.underlying2 (hval 0 2 v0 rfl rfl) h0
  clear hA0 hval0
  simp only [List.append_nil] at hW'
  refine (walk a0 w0 W).mono fun e W' ⟨he, hg⟩ => ?_
  subst he
  exact ⟨_, rfl, post_of_same (pa := []) (pv := []) hW' (fun _ _ _ => (trodAll_cons_mk (shut_bool Try.underlying4 _) trodAll_mk0)) (fun sp _ => (trodAll_cons_mk (shut_int Try.underlying2 w0) trodAll_mk0)) (fun _ _ => rfl) rfl
    (hg.frame _) hg.2.1 (ok_one (by kernel_rfl) rfl (okWide_bool_mk Try.underlying4 _))⟩

theorem over : Rows.fnRoundAmountKeepsWholeMillionthsRow.holds Try.pinned (OpenSpec.ofChange Rows.fnRoundAmountKeepsWholeMillionthsSpec) :=
  OpenClaim.holds_of_wide 4 Try.f4 rfl rfl rfl rfl rfl rfl rfl ⟨rfl, rfl, rfl, rfl, rfl⟩ rfl rfl rfl rfl rfl (by kernel_rfl) Try.func4 (by kernel_rfl)
    (of_decide_eq_true (by kernel_rfl)) (by unfold Func.isWrapper; first | (rw [if_pos (by decide +kernel)]; kernel_rfl) | (rw [if_neg (by decide +kernel)]; exact ⟨rfl, rfl⟩))
    (fun os started H enc _ => lifted os started H enc)

/-- ████ THE STATEMENT ████ -/
theorem proved : Rows.FnRoundAmountKeepsWholeMillionthsSaid :=
  over
#print axioms proved
end Go.Proofs.Qxb6619276a.fnRoundAmountKeepsWholeMillionths
