/-
  The proof of 'Rows.FnAllocatedSplitCostsSixteenSaid'. The frame is the guide's template; the walk and the plain law are ours.
-/
import Derived.Test.Qxb6619362aRows
import Derived.Test.Qxb6619362aAlloc
import Derived.WalkKit
import Derived.ProofKit
import Derived.OpenShut
import Derived.ShutString
import Derived.Deep.RegionWith
namespace Go.Proofs.Qxb6619362a.fnAllocatedSplitCostsSixteen
open Go.ChangeShapes Go.WideShapes Go.ChangeAt Go.RowKit
open Go.ChangeMaps (open_string shut_string)
set_option linter.unusedVariables false

theorem own : ownKnob Try.prog.godebug = none := by kernel_rfl

/-! ### THE PLAIN LAW -/
theorem al_small (n : Int) (h0 : 0 ≤ n) (h1 : n ≤ 2305843009213693951) : 0 ≤ al n ∧ al n ≤ 2882303761517117455 := by
  unfold al; split <;> omega
theorem law0 (a b : Int) (h : a = 0 ∨ b = 0) : al a + al b - al (a + b) = 0 := by
  unfold al
  rcases h with rfl | rfl
  · simp
  · simp
theorem law16 (a b : Int) (h1 : 0 < a) (h2 : 0 < b) (h : a % 4 + b % 4 < 4) : al a + al b - al (a + b) = 16 := by
  unfold al; rw [if_neg (by omega), if_neg (by omega), if_neg (by omega)]; omega
theorem law15 (a b : Int) (h1 : 0 < a) (h2 : 0 < b) (h : 4 ≤ a % 4 + b % 4) : al a + al b - al (a + b) = 15 := by
  unfold al; rw [if_neg (by omega), if_neg (by omega), if_neg (by omega)]; omega

/-! ### THE WALK: the Go text returns true -/
theorem walk (a0 : Int) (a1 : Int) (w0 : (Lit.int .i64 a0).wf = true) (w1 : (Lit.int .i64 a1).wf = true) (w : World) :
    Calls Try.prog 3 #[.int .i64 a0, .int .i64 a1] w fun e w' => e = .returned (.bool true) ∧ Grown w w' := by
  by_cases h1 : a0 < 0
  · go_enter Try.func3, Try.ntmps3
    go_wp2
    go_ret
    exact ⟨rfl, Grown.refl _⟩
  by_cases h2 : a1 < 0
  · go_enter Try.func3, Try.ntmps3
    go_wp2
    go_ret
    exact ⟨rfl, Grown.refl _⟩
  by_cases h3 : 2305843009213693951 < a0
  · go_enter Try.func3, Try.ntmps3
    go_wp2
    go_ret
    exact ⟨rfl, Grown.refl _⟩
  by_cases h4 : 2305843009213693951 < a1
  · go_enter Try.func3, Try.ntmps3
    go_wp2
    go_ret
    exact ⟨rfl, Grown.refl _⟩
  have c1 := zalloc_any a0 (by omega) (by omega)
  have c2 := zalloc_any a1 (by omega) (by omega)
  have c3 := zalloc_any (a0 + a1) (by omega) (by omega)
  have b1 := al_small a0 (by omega) (by omega)
  have b2 := al_small a1 (by omega) (by omega)
  have b3 := al_bd (a0 + a1) (by omega) (by omega)
  have l0 := law0 a0 a1
  have l16 := law16 a0 a1
  have l15 := law15 a0 a1
  generalize al a0 = x at *
  generalize al a1 = y at *
  generalize al (a0 + a1) = z at *
  obtain ⟨b11, b12⟩ := b1
  obtain ⟨b21, b22⟩ := b2
  obtain ⟨b31, b32⟩ := b3
  by_cases ha : 0 < a0
  · by_cases hb : 0 < a1
    · by_cases hm : 4 ≤ a0 % 4 + a1 % 4
      · have hl := l15 ha hb hm
        clear l0 l15 l16
        go_enter Try.func3, Try.ntmps3
        go_wp2_with (first | (go_at_call_of 8 (Value.int IntKind.i64 (a0 + a1)); refine (c3 _).mono ?_; rintro e w' ⟨rfl, rfl⟩) | (go_at_call_of 8 (Value.int IntKind.i64 a0); refine (c1 _).mono ?_; rintro e w' ⟨rfl, rfl⟩) | (go_at_call_of 8 (Value.int IntKind.i64 a1); refine (c2 _).mono ?_; rintro e w' ⟨rfl, rfl⟩))
        go_ret
        exact ⟨rfl, Grown.refl _⟩
      · have hl := l16 ha hb (by omega)
        clear l0 l15 l16
        go_enter Try.func3, Try.ntmps3
        go_wp2_with (first | (go_at_call_of 8 (Value.int IntKind.i64 (a0 + a1)); refine (c3 _).mono ?_; rintro e w' ⟨rfl, rfl⟩) | (go_at_call_of 8 (Value.int IntKind.i64 a0); refine (c1 _).mono ?_; rintro e w' ⟨rfl, rfl⟩) | (go_at_call_of 8 (Value.int IntKind.i64 a1); refine (c2 _).mono ?_; rintro e w' ⟨rfl, rfl⟩))
        go_ret
        exact ⟨rfl, Grown.refl _⟩
    · have hl := l0 (by omega)
      clear l0 l15 l16
      go_enter Try.func3, Try.ntmps3
      go_wp2_with (first | (go_at_call_of 8 (Value.int IntKind.i64 (a0 + a1)); refine (c3 _).mono ?_; rintro e w' ⟨rfl, rfl⟩) | (go_at_call_of 8 (Value.int IntKind.i64 a0); refine (c1 _).mono ?_; rintro e w' ⟨rfl, rfl⟩) | (go_at_call_of 8 (Value.int IntKind.i64 a1); refine (c2 _).mono ?_; rintro e w' ⟨rfl, rfl⟩))
      go_ret
      exact ⟨rfl, Grown.refl _⟩
  · have hl := l0 (by omega)
    clear l0 l15 l16
    go_enter Try.func3, Try.ntmps3
    go_wp2_with (first | (go_at_call_of 8 (Value.int IntKind.i64 (a0 + a1)); refine (c3 _).mono ?_; rintro e w' ⟨rfl, rfl⟩) | (go_at_call_of 8 (Value.int IntKind.i64 a0); refine (c1 _).mono ?_; rintro e w' ⟨rfl, rfl⟩) | (go_at_call_of 8 (Value.int IntKind.i64 a1); refine (c2 _).mono ?_; rintro e w' ⟨rfl, rfl⟩))
    go_ret
    exact ⟨rfl, Grown.refl _⟩

/-! ### THE ROW's STEP: WRITTEN OUT: LEAVE IT -/
set_option maxRecDepth 100000 in
theorem lifted (os : Os) (started : os.Started) (H : Type) (enc : TypeId × Value → H) :
    ReturnsInHanded {} Try.checked os 3 .any (Rows.fnAllocatedSplitCostsSixteenSpec.pre6 enc Try.prog Try.f3 Rows.fnAllocatedSplitCostsSixteenRow.domain false) (Rows.fnAllocatedSplitCostsSixteenSpec.post enc Try.prog Try.f3 false true false false) := by
  refine returnsInHanded_of_change (C := Try.checked) own started (by kernel_rfl) Try.func3
    (ChangeSpec.witness6 (enc := enc) (C := Try.checked) false ⟨#[], #[.int .i64 0, .int .i64 0], []⟩ 8 (by kernel_rfl) (by kernel_rfl) (by kernel_rfl) (by kernel_rfl)) ?_
  intro W base args ds gs before hval0 hW hcnd _
  have hval : ∀ (j : Nat) t v, Try.f3.params[j]? = some t → args[j]? = some v → Value.okWide Try.prog W .any base t v := hval0
  have hW' := hW
  obtain ⟨p, q, hA0, hV, rfl, hfz, hnd⟩ := hW
  have hA : DataW.TrodAll enc Try.prog W 0 (fun _ => true) true Try.f3.params.toList args.toList ds p := hA0
  rw [Try.params3] at hA hval
  obtain ⟨v0, vs0, d0, ds0, p0, q0, hargs, rfl, rfl, h0, r0⟩ := trodAll_cons hA
  obtain ⟨v1, vs1, d1, ds1, p1, q1, rfl, rfl, rfl, h1, r1⟩ := trodAll_cons r0
  obtain ⟨rfl, rfl, rfl⟩ := trodAll_nil r1
  obtain rfl : args = #[v0, v1] := by cases args; simp_all
  obtain ⟨rfl, rfl⟩ := trodVars_none hV
  obtain ⟨a0, rfl, rfl, rfl, w0⟩ := open_int Try.underlying3 (hval 0 3 v0 rfl rfl) h0
  obtain ⟨a1, rfl, rfl, rfl, w1⟩ := open_int Try.underlying3 (hval 1 3 v1 rfl rfl) h1
  clear hA0 hval0
  simp only [List.append_nil] at hW'
  refine (walk a0 a1 w0 w1 W).mono fun e W' ⟨he, hg⟩ => ?_
  subst he
  exact ⟨_, rfl, post_of_same (pa := []) (pv := []) hW' (fun _ _ _ => (trodAll_cons_mk (shut_bool Try.underlying4 _) trodAll_mk0)) (fun sp _ => (trodAll_cons_mk (shut_int Try.underlying3 w0) (trodAll_cons_mk (shut_int Try.underlying3 w1) trodAll_mk0))) (fun _ _ => rfl) rfl
    (hg.frame _) hg.2.1 (ok_one (by kernel_rfl) rfl (okWide_bool_mk Try.underlying4 _))⟩

theorem over : Rows.fnAllocatedSplitCostsSixteenRow.holds Try.pinned (OpenSpec.ofChange Rows.fnAllocatedSplitCostsSixteenSpec) :=
  OpenClaim.holds_of_wide 3 Try.f3 rfl rfl rfl rfl rfl rfl rfl ⟨rfl, rfl, rfl, rfl, rfl⟩ rfl rfl rfl rfl rfl (by kernel_rfl) Try.func3 (by kernel_rfl)
    (of_decide_eq_true (by kernel_rfl)) (by unfold Func.isWrapper; first | (rw [if_pos (by decide +kernel)]; kernel_rfl) | (rw [if_neg (by decide +kernel)]; exact ⟨rfl, rfl⟩))
    (fun os started H enc _ => lifted os started H enc)

/-- ████ THE STATEMENT ████ -/
theorem proved : Rows.FnAllocatedSplitCostsSixteenSaid :=
  over
#print axioms proved
end Go.Proofs.Qxb6619362a.fnAllocatedSplitCostsSixteen
