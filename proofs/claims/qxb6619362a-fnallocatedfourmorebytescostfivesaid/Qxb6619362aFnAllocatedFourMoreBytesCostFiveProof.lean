/-
  The proof of 'Rows.FnAllocatedFourMoreBytesCostFiveSaid'. The frame is the guide's template; the walk and the plain law are ours.
-/
import Derived.Test.Qxb6619362aRows
import Derived.Test.Qxb6619362aAlloc
import Derived.WalkKit
import Derived.ProofKit
import Derived.OpenShut
import Derived.ShutString
import Derived.Deep.RegionWith
namespace Go.Proofs.Qxb6619362a.fnAllocatedFourMoreBytesCostFive
open Go.ChangeShapes Go.WideShapes Go.ChangeAt Go.RowKit
open Go.ChangeMaps (open_string shut_string)
set_option linter.unusedVariables false

theorem own : ownKnob Try.prog.godebug = none := by kernel_rfl

/-! ### THE PLAIN LAW -/
theorem al_small (n : Int) (h0 : 0 ≤ n) (h1 : n ≤ 2305843009213693951) : 0 ≤ al n ∧ al n ≤ 2882303761517117455 := by
  unfold al; split <;> omega
theorem law5 (n k : Int) (h1 : 0 ≤ n) (h2 : 0 ≤ k) (h : 0 < n ∨ k = 0) : al (n + 4 * k) - al n = 5 * k := by
  unfold al
  by_cases hn : n = 0
  · have hk : k = 0 := by omega
    subst hn hk; simp
  · rw [if_neg (by omega), if_neg hn]; omega
theorem law16 (k : Int) (h2 : 0 < k) : al (4 * k) - al 0 = 5 * k + 16 := by
  unfold al; rw [if_neg (by omega), if_pos rfl]; omega

/-! ### THE WALK: the Go text returns true -/
theorem walk (a0 : Int) (a1 : Int) (w0 : (Lit.int .i64 a0).wf = true) (w1 : (Lit.int .i64 a1).wf = true) (w : World) :
    Calls Try.prog 4 #[.int .i64 a0, .int .i64 a1] w fun e w' => e = .returned (.bool true) ∧ Grown w w' := by
  by_cases h1 : a0 < 0
  · go_enter Try.func4, Try.ntmps4
    go_wp2
    go_ret
    exact ⟨rfl, Grown.refl _⟩
  by_cases h2 : a1 < 0
  · go_enter Try.func4, Try.ntmps4
    go_wp2
    go_ret
    exact ⟨rfl, Grown.refl _⟩
  by_cases h3 : 2305843009213693951 < a0
  · go_enter Try.func4, Try.ntmps4
    go_wp2
    go_ret
    exact ⟨rfl, Grown.refl _⟩
  by_cases h4 : 576460752303423487 < a1
  · go_enter Try.func4, Try.ntmps4
    go_wp2
    go_ret
    exact ⟨rfl, Grown.refl _⟩
  by_cases hz : a0 = 0
  · subst hz
    have c1 := zalloc_any 0 (by omega) (by omega)
    have c3 := zalloc_any (4 * a1) (by omega) (by omega)
    have b3 := al_bd (4 * a1) (by omega) (by omega)
    have z0 : al 0 = 0 := rfl
    rw [z0] at c1
    by_cases hk : 0 < a1
    · have hl := law16 a1 hk
      rw [z0] at hl
      clear z0
      generalize al (4 * a1) = z at *
      obtain ⟨b31, b32⟩ := b3
      have hl' : z = 5 * a1 + 16 := by omega
      clear hl
      subst hl'
      go_enter Try.func4, Try.ntmps4
      go_wp2_with fail
      refine (c3 _).mono ?_
      rintro e w' ⟨rfl, rfl⟩
      go_wp2_with fail
      refine (c1 _).mono ?_
      rintro e w' ⟨rfl, rfl⟩
      go_wp2
      go_ret
      exact ⟨rfl, Grown.refl _⟩
    · obtain rfl : a1 = 0 := by omega
      clear c3 b3 z0
      go_enter Try.func4, Try.ntmps4
      go_wp2_with (go_at_call_of 8 (Value.int IntKind.i64 0); refine (c1 _).mono ?_; rintro e w' ⟨rfl, rfl⟩)
      go_ret
      exact ⟨rfl, Grown.refl _⟩
  · have hz' : (a0 == 0) = false := by rw [beq_eq_false_iff_ne]; exact hz
    have c1 := zalloc_any a0 (by omega) (by omega)
    have c3 := zalloc_any (a0 + 4 * a1) (by omega) (by omega)
    have b1 := al_small a0 (by omega) (by omega)
    have b3 := al_bd (a0 + 4 * a1) (by omega) (by omega)
    have hl := law5 a0 a1 (by omega) (by omega) (by omega)
    generalize al a0 = x at *
    generalize al (a0 + 4 * a1) = z at *
    obtain ⟨b11, b12⟩ := b1
    obtain ⟨b31, b32⟩ := b3
    go_enter Try.func4, Try.ntmps4
    go_wp2_with fail
    refine (c3 _).mono ?_
    rintro e w' ⟨rfl, rfl⟩
    go_wp2_with fail
    refine (c1 _).mono ?_
    rintro e w' ⟨rfl, rfl⟩
    go_wp2
    go_ret
    exact ⟨rfl, Grown.refl _⟩

/-! ### THE ROW's STEP: WRITTEN OUT: LEAVE IT -/
set_option maxRecDepth 100000 in
theorem lifted (os : Os) (started : os.Started) (H : Type) (enc : TypeId × Value → H) :
    ReturnsInHanded {} Try.checked os 4 .any (Rows.fnAllocatedFourMoreBytesCostFiveSpec.pre6 enc Try.prog Try.f4 Rows.fnAllocatedFourMoreBytesCostFiveRow.domain false) (Rows.fnAllocatedFourMoreBytesCostFiveSpec.post enc Try.prog Try.f4 false true false false) := by
  refine returnsInHanded_of_change (C := Try.checked) own started (by kernel_rfl) Try.func4
    (ChangeSpec.witness6 (enc := enc) (C := Try.checked) false ⟨#[], #[.int .i64 0, .int .i64 0], []⟩ 8 (by kernel_rfl) (by kernel_rfl) (by kernel_rfl) (by kernel_rfl)) ?_
  intro W base args ds gs before hval0 hW hcnd _
  have hval : ∀ (j : Nat) t v, Try.f4.params[j]? = some t → args[j]? = some v → Value.okWide Try.prog W .any base t v := hval0
  have hW' := hW
  obtain ⟨p, q, hA0, hV, rfl, hfz, hnd⟩ := hW
  have hA : DataW.TrodAll enc Try.prog W 0 (fun _ => true) true Try.f4.params.toList args.toList ds p := hA0
  rw [Try.params4] at hA hval
  obtain ⟨v0, vs0, d0, ds0, p0, q0, hargs, rfl, rfl, h0, r0⟩ := trodAll_cons hA
  obtain ⟨v1, vs1, d1, ds1, p1, q1, rfl, rfl, rfl, h1, r1⟩ := trodAll_cons r0
  obtain ⟨rfl, rfl, rfl⟩ := trodAll_nil r1
  obtain rfl : args = #[v0, v1] := by cases args; simp_all
  obtain ⟨rfl, rfl⟩ := trodVars_none hV
  obtain ⟨a0, rfl, rfl, rfl, w0⟩ := open_int Try.underlying3 (hval 0 3 v0 rfl rfl) h0
  obtain ⟨a1, rfl, rfl, rfl, w1⟩ := open_int Try.underlying3 (hval 1 3 v1 rfl rfl) h1
  clear hA0 hval0
  simp only [List.append_nil] at hW'
  refine (walk a0 a1 w0 w1 W).mono fun e W' ⟨he, hg⟩ => ?_
  subst he
  exact ⟨_, rfl, post_of_same (pa := []) (pv := []) hW' (fun _ _ _ => (trodAll_cons_mk (shut_bool Try.underlying4 _) trodAll_mk0)) (fun sp _ => (trodAll_cons_mk (shut_int Try.underlying3 w0) (trodAll_cons_mk (shut_int Try.underlying3 w1) trodAll_mk0))) (fun _ _ => rfl) rfl
    (hg.frame _) hg.2.1 (ok_one (by kernel_rfl) rfl (okWide_bool_mk Try.underlying4 _))⟩

theorem over : Rows.fnAllocatedFourMoreBytesCostFiveRow.holds Try.pinned (OpenSpec.ofChange Rows.fnAllocatedFourMoreBytesCostFiveSpec) :=
  OpenClaim.holds_of_wide 4 Try.f4 rfl rfl rfl rfl rfl rfl rfl ⟨rfl, rfl, rfl, rfl, rfl⟩ rfl rfl rfl rfl rfl (by kernel_rfl) Try.func4 (by kernel_rfl)
    (of_decide_eq_true (by kernel_rfl)) (by unfold Func.isWrapper; first | (rw [if_pos (by decide +kernel)]; kernel_rfl) | (rw [if_neg (by decide +kernel)]; exact ⟨rfl, rfl⟩))
    (fun os started H enc _ => lifted os started H enc)

/-- ████ THE STATEMENT ████ -/
theorem proved : Rows.FnAllocatedFourMoreBytesCostFiveSaid :=
  over
#print axioms proved
end Go.Proofs.Qxb6619362a.fnAllocatedFourMoreBytesCostFive
