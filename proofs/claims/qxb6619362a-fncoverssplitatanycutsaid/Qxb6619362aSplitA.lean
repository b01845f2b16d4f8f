/-
  The walk of FnCoversSplitAtAnyCut: what returns early; a list that holds nothing.
-/
import Derived.Test.Qxb6619362aInterval
import Derived.Deep.QuietTactic
import Derived.BigQuiet
import Derived.Deep.RegionHeld3
namespace Go.Proofs.Qxb6619362a
open Go.ChangeShapes Go.WideShapes Go.ChangeAt Go.RowKit

/-- Three parts in three blocks, one behind the other. -/
structure Keep3 (w wi : World) (B : Nat) (f1 : ByteArray) (m1 : Bool) (f2 : ByteArray) (m2 : Bool) (f3 : ByteArray) (m3 : Bool) : Prop where
  bel : Below w.heap.size w wi
  lt : B + 1 + 1 < wi.heap.size
  c10 : wi.cell? ⟨B, 0, none⟩ = some (.string f1)
  c11 : wi.cell? ⟨B, 1, none⟩ = some (.bool m1)
  c20 : wi.cell? ⟨B + 1, 0, none⟩ = some (.string f2)
  c21 : wi.cell? ⟨B + 1, 1, none⟩ = some (.bool m2)
  c30 : wi.cell? ⟨B + 1 + 1, 0, none⟩ = some (.string f3)
  c31 : wi.cell? ⟨B + 1 + 1, 1, none⟩ = some (.bool m3)

theorem Keep3.step {w wi wj : World} {B : Nat} {f1 f2 f3 : ByteArray} {m1 m2 m3 : Bool} (K : Keep3 w wi B f1 m1 f2 m2 f3 m3) (h : Below wi.heap.size wi wj) : Keep3 w wj B f1 m1 f2 m2 f3 m3 := by
  have lt := K.lt
  exact ⟨K.bel.trans (h.mono K.bel.size), Nat.lt_of_lt_of_le K.lt h.size,
    by rw [h.cell (p := ⟨B, 0, none⟩) (by show B < _; omega)]; exact K.c10, by rw [h.cell (p := ⟨B, 1, none⟩) (by show B < _; omega)]; exact K.c11,
    by rw [h.cell (p := ⟨B + 1, 0, none⟩) (by show B + 1 < _; omega)]; exact K.c20, by rw [h.cell (p := ⟨B + 1, 1, none⟩) (by show B + 1 < _; omega)]; exact K.c21,
    by rw [h.cell (p := ⟨B + 1 + 1, 0, none⟩) (by show B + 1 + 1 < _; omega)]; exact K.c30, by rw [h.cell (p := ⟨B + 1 + 1, 1, none⟩) (by show B + 1 + 1 < _; omega)]; exact K.c31⟩
theorem Keep3.drew {w wi : World} {B : Nat} {f1 f2 f3 : ByteArray} {m1 m2 m3 : Bool} (K : Keep3 w wi B f1 m1 f2 m2 f3 m3) : Keep3 w wi.drew B f1 m1 f2 m2 f3 m3 :=
  K.step (Below.refl _ _).drew
theorem keep3_start (w : World) (f1 f2 f3 : ByteArray) (m1 m2 m3 : Bool) : Keep3 w (((w.alloc (pO f1 m1)).alloc (pO f2 m2)).alloc (pO f3 m3)) w.heap.size f1 m1 f2 m2 f3 m3 :=
  ⟨(((Below.refl _ _).alloc (Nat.le_refl _) _).alloc (by simp) _).alloc (by simp; omega) _, by simp, by simp [go_sem], by simp [go_sem], by simp [go_sem], by simp [go_sem], by simp [go_sem], by simp [go_sem]⟩

section
variable (after name : ByteArray) (more : Bool) (a : Option Addr) (len cap : Nat) (S : Nat → ByteArray) (cut : Int) (w : World)

set_option maxRecDepth 100000 in
set_option maxHeartbeats 1000000 in
/-- The lengths are too great: true at once. -/
theorem w7_early (hL : Lst w a len S) (z1 : after.size ≤ maxLen) (z2 : name.size ≤ maxLen)
    (h : (1048576 : Int) < after.size ∨ (1048576 : Int) - after.size < name.size) :
    Calls Try.prog 7 #[.string after, .bool more, .slice a len cap, .int .i64 cut, .string name] w fun e w' => e = .returned (.bool true) ∧ Below w.heap.size w w' := by
  have cb := bytes7 after name cut more a len cap S w hL z1 z2
  clear hL
  unfold maxLen at z1 z2
  by_cases h1 : (1048576 : Int) < after.size
  · clear h
    go_enter Try.func7, Try.ntmps7
    go_wp2_with fail
    refine cb.mono ?_
    rintro e w' ⟨⟨bo, rfl⟩, rfl⟩
    cases bo
    all_goals
      go_wp2
      go_ret
      exact ⟨rfl, Below.refl _ _⟩
  have h2 : (1048576 : Int) - after.size < name.size := by omega
  clear h
  go_enter Try.func7, Try.ntmps7
  go_wp2_with fail
  refine cb.mono ?_
  rintro e w' ⟨⟨bo, rfl⟩, rfl⟩
  cases bo
  all_goals
    go_wp2
    go_ret
    exact ⟨rfl, Below.refl _ _⟩

theorem slice_to (A : Option Addr) (c : Nat) (hc : c ≤ cap) (hA : (if cap = 0 then a else a.map (·.add 0)) = A) (w : World) : (Instr.slice 29 (.slice a len cap) none (some (.int .i64 (c : Int))) none).run Try.prog w = .ok (.slice A c cap) w := by
  have hs : (sizeOf (Try.prog.elem 29)).run Try.prog w = .ok 1 w := by kernel_rfl
  rw [run_slice_h w 29 a len cap (by kernel_rfl) .i64 c (by omega) (by omega), hs]
  simp [sliced, Result.andThen, hA]
theorem slice_from (A : Option Addr) (c : Nat) (hc : c ≤ len) (hA : (if cap = c then a else a.map (·.add c)) = A) (w : World) : (Instr.slice 29 (.slice a len cap) (some (.int .i64 (c : Int))) none none).run Try.prog w = .ok (.slice A (len - c) (cap - c)) w := by
  have hs : (sizeOf (Try.prog.elem 29)).run Try.prog w = .ok 1 w := by kernel_rfl
  rw [run_slice_l w 29 a len cap (by kernel_rfl) .i64 c (by omega) (by omega), hs]
  simp [sliced, Result.andThen, hA]

set_option maxRecDepth 100000 in
set_option maxHeartbeats 4000000 in
/-- A list that holds nothing. -/
theorem w7_nil (v1 v2 : Bool) (z1 : after.size ≤ maxLen) (z2 : name.size ≤ maxLen) (h : ((after.size + name.size : Nat) : Int) ≤ 1048576)
    (ew : cov after more ByteArray.empty name = (v1 || v2)) (e1 : cov after true ByteArray.empty name = v1) (e2 : cov after more ByteArray.empty name = v2) (eo : cov after more ByteArray.empty after = false) (ex : v1 = true → v2 = false)
    (ez : after.toList.isEmpty = true → more = false → (v1 || v2) = !name.toList.isEmpty) :
    Calls Try.prog 7 #[.string after, .bool more, .slice a 0 cap, .int .i64 cut, .string name] w fun e w' => e = .returned (.bool true) ∧ Below w.heap.size w w' := by
  have hL : Lst w a 0 (fun _ => ByteArray.empty) := ⟨by decide, Or.inl rfl⟩
  have cb := bytes7 after name cut more a 0 cap _ w hL z1 z2
  have c1 := covers_none after name more a cap
  have c2 := covers_none after name true a cap
  have c3 := covers_none after name more a cap
  have c4 := covers_none after after more a cap
  rw [ew] at c1
  rw [e1] at c2
  rw [e2] at c3
  rw [eo] at c4
  clear hL ew e1 e2 eo
  unfold maxLen at z1 z2
  by_cases hc1 : cut < 0
  · go_enter Try.func7, Try.ntmps7
    go_wp2_with fail
    refine cb.mono ?_
    rintro e w' ⟨⟨bo, rfl⟩, rfl⟩
    cases bo
    · go_wp2
      go_ret
      exact ⟨rfl, Below.refl _ _⟩
    go_wp2
    go_loop [11, 45] (fun t i => ∃ u : Int, t = .int .i64 u ∧ i = .int .i64 0) (fun _ _ => 0)
    case atStart => exact ⟨_, rfl, rfl⟩
    case round =>
      obtain ⟨u, rfl, rfl⟩ := hrel
      go_wp2
      go_ret
      exact ⟨rfl, Below.refl _ _⟩
  by_cases hc2 : 0 < cut
  · go_enter Try.func7, Try.ntmps7
    go_wp2_with fail
    refine cb.mono ?_
    rintro e w' ⟨⟨bo, rfl⟩, rfl⟩
    cases bo
    · go_wp2
      go_ret
      exact ⟨rfl, Below.refl _ _⟩
    go_wp2
    go_loop [11, 45] (fun t i => ∃ u : Int, t = .int .i64 u ∧ i = .int .i64 0) (fun _ _ => 0)
    case atStart => exact ⟨_, rfl, rfl⟩
    case round =>
      obtain ⟨u, rfl, rfl⟩ := hrel
      go_wp2
      go_ret
      exact ⟨rfl, Below.refl _ _⟩
  obtain rfl : cut = 0 := by omega
  clear hc1 hc2
  go_enter Try.func7, Try.ntmps7
  go_wp2_with fail
  refine cb.mono ?_
  rintro e w' ⟨⟨bo, rfl⟩, rfl⟩
  cases bo
  · go_wp2
    go_ret
    exact ⟨rfl, Below.refl _ _⟩
  clear cb
  go_wp2
  go_loop [11, 45] (fun t i => ∃ u : Int, t = .int .i64 u ∧ i = .int .i64 0) (fun _ _ => 0)
  case atStart => exact ⟨_, rfl, rfl⟩
  case round =>
    obtain ⟨u, rfl, rfl⟩ := hrel
    go_wp2
    go_loop [75] (fun i => i = .int .i64 0) (fun _ => 0)
    case atStart => exact rfl
    case round =>
      subst hrel
      have K0 := keep3_start w' after after after more true more
      go_wp2_with fail
      refine (c1 _).mono ?_
      rintro e w1 ⟨rfl, b1⟩
      have K1 := K0.step b1
      have q0 := K1.c20
      have q1 := K1.c21
      clear b1 K0 c1
      go_wp2_with fail
      go_region_held3 (fun wx => wx.cell? ⟨w'.heap.size + 1, 0, none⟩ = some (.string after) ∧ wx.cell? ⟨w'.heap.size + 1, 1, none⟩ = some (.bool true)) (first | exact ⟨K2.c20, K2.c21⟩ | exact ⟨K1.c20, K1.c21⟩) (first | (go_at_call 13; refine (c2 _).mono ?_; rintro e w2 ⟨rfl, b2⟩; have K2 := K1.drew.step b2))
      clear b2 q0 q1 K1 c2
      rename_i hHeld
      clear hHeld
      have q0 := K2.c30
      have q1 := K2.c31
      go_wp2_with fail
      go_region_held3 (fun wx => wx.cell? ⟨w'.heap.size + 1 + 1, 0, none⟩ = some (.string after) ∧ wx.cell? ⟨w'.heap.size + 1 + 1, 1, none⟩ = some (.bool more)) (first | exact ⟨K3.c30, K3.c31⟩ | exact ⟨K2.c30, K2.c31⟩) (first | (go_at_call 13; refine (c3 _).mono ?_; rintro e w3 ⟨rfl, b3⟩; have K3 := K2.drew.step b3))
      clear b3 q0 q1 K2 c3
      rename_i hHeld
      clear hHeld
      have q0 := K3.c10
      have q1 := K3.c11
      have EX : Hid (v1 = true → v2 = false) := ex
      have EZ : Hid (after.toList.isEmpty = true → more = false → (v1 || v2) = !name.toList.isEmpty) := ez
      clear ex ez
      cases v1 <;> cases v2
      case true.true => exact absurd (EX.out rfl) (by decide)
      all_goals
        clear EX
        go_wp2
        go_loop [143] (fun i => i = .int .i64 0) (fun _ => 0)
        case atStart => exact rfl
        case round =>
          subst hrel
          go_wp2_with fail
          refine (c4 _).mono ?_
          rintro e w4 ⟨rfl, b4⟩
          have hB := (K3.step b4).bel
          clear b4 q0 q1 K3 c4
          cases he : after.toList.isEmpty
          · clear EZ
            go_wp2
            go_ret
            exact ⟨rfl, hB⟩
          · cases more
            · have hn := (congrArg (!·) (EZ.out he rfl)).symm
              simp only [Bool.not_not] at hn
              clear EZ
              go_wp2
              go_ret
              exact ⟨rfl, hB⟩
            · clear EZ
              go_wp2
              go_ret
              exact ⟨rfl, hB⟩
end
end Go.Proofs.Qxb6619362a
