/-
  The walk of FnCoversSplitAtAnyCut at a list that holds a name: the cut lies at its head.
-/
import Derived.Test.Qxb6619362aSplitA
import Derived.WalkSmall
namespace Go.Proofs.Qxb6619362a
open Go.ChangeShapes Go.WideShapes Go.ChangeAt Go.RowKit
set_option linter.unusedVariables false

/-- The names up to k come after 'after', none before the one ahead of it. -/
def Srt (after : ByteArray) (S : Nat → ByteArray) (k : Nat) : Prop := ∀ i, i < k → le (S i) after = false ∧ (0 < i → Op.bytesLess (S i).toList (S (i - 1)).toList = false)

theorem Lst.at {wx : World} {b off len i : Nat} {S : Nat → ByteArray} (h : Lst wx (some ⟨b, off, none⟩) len S) (hi : i < len) : b < wx.heap.size ∧ wx.cell? ⟨b, off + i, none⟩ = some (.string (S i)) ∧ (S i).size ≤ maxLen := by
  obtain ⟨_, h0 | ⟨b', off', hab, hb, hc⟩⟩ := h
  · omega
  · obtain ⟨rfl, rfl⟩ : b' = b ∧ off' = off := by simpa [eq_comm] using hab
    exact ⟨hb, (hc i hi).1, (hc i hi).2⟩

theorem Lst.drew {wx : World} {a : Option Addr} {len : Nat} {S : Nat → ByteArray} (h : Lst wx a len S) : Lst wx.drew a len S := h.below (Below.refl _ _).drew

theorem Lst.drewN {wx : World} {a : Option Addr} {len : Nat} {S : Nat → ByteArray} (h : Lst wx a len S) (m : Nat) : Lst (wx.drewN m) a len S := h.below (below_drewN (Below.refl _ _) m)

/-- Kept from the walk. -/
theorem hide {p : Prop} (h : p) : Hid p := h

set_option maxRecDepth 100000 in
set_option maxHeartbeats 8000000 in
theorem w7_cons0 (after name last : ByteArray) (more : Bool) (b off n cap : Nat) (S : Nat → ByteArray) (w : World)  (v1 v2 : Bool) (z1 : after.size ≤ maxLen) (z2 : name.size ≤ maxLen)
    (h : ((after.size + name.size : Nat) : Int) ≤ 1048576) (hL : Lst w (some ⟨b, off, none⟩) (n + 1) S) (hcap : n + 1 ≤ cap) (hcap2 : cap ≤ maxLen) (hlast : S n = last)
    (law : Srt after S (n + 1) → cov after more last name = (v1 || v2) ∧ (v1 = true → v2 = false) ∧ (∀ k, k < n + 1 → cov after more last (S k) = true) ∧ cov after more last after = false ∧ (after.toList.isEmpty = true → more = false → (v1 || v2) = !name.toList.isEmpty))
    (C2 : ∀ wx, Lst wx (some ⟨b, off, none⟩) (n + 1) S → Calls Try.prog 13 #[.agg #[.string after, .bool true], .slice (some ⟨b, off, none⟩) 0 cap, .string name] wx fun e w' => e = .returned (.bool v1) ∧ Below wx.heap.size wx w')
    (C3 : ∀ wx, Lst wx (some ⟨b, off, none⟩) (n + 1) S → Calls Try.prog 13 #[.agg #[.string after, .bool more], .slice (some ⟨b, off, none⟩) (n + 1) cap, .string name] wx fun e w' => e = .returned (.bool v2) ∧ Below wx.heap.size wx w') :
    Calls Try.prog 7 #[.string after, .bool more, .slice (some ⟨b, off, none⟩) (n + 1) cap, .int .i64 0, .string name] w fun e w' => e = .returned (.bool true) ∧ Below w.heap.size w w' := by
  have cb := bytes7 after name 0 more _ (n + 1) cap S w hL z1 z2
  have hll : lastOf S (n + 1) = last := by unfold lastOf; rw [if_neg (by omega)]; exact hlast
  have C1 := fun wx hx nm => covers_any after nm more (some ⟨b, off, none⟩) (n + 1) cap S wx hx
  rw [hll] at C1
  clear hll hlast
  have hm := hL.1
  unfold maxLen at z1 z2 hm hcap2
  have LAW := @hide _ law
  clear law
  have c1 := @hide _ C1
  have c2 := @hide _ C2
  have c3 := @hide _ C3
  clear C1 C2 C3
  go_enter Try.func7, Try.ntmps7
  go_wp2_with fail
  refine cb.mono ?_
  rintro e w' ⟨⟨bo, rfl⟩, rfl⟩
  cases bo
  · go_wp2
    go_ret
    exact ⟨rfl, Below.refl _ _⟩
  clear cb
  go_wp2
  go_loop [11, 45] (fun t i => ∃ (u : Int) (k : Nat), 0 ≤ u ∧ u ≤ 1048576 ∧ k ≤ n + 1 ∧ t = .int .i64 u ∧ i = .int .i64 k) (fun _ i => n + 1 - (intOf i).toNat)
  case atStart => exact ⟨_, 0, by omega, by omega, by omega, rfl, rfl⟩
  case round =>
    obtain ⟨u, k, hu0, hu1, hk, rfl, rfl⟩ := hrel
    by_cases hlt : k < n + 1
    · have g4 := (hL.at hlt).2.1
      have g5 := (hL.at hlt).2.2
      unfold maxLen at g5
      by_cases g6 : (1048576 : Int) < (S k).size
      · go_wp2
        go_ret
        exact ⟨rfl, Below.refl _ _⟩
      by_cases g7 : (1048576 : Int) < u + (16 + (S k).size)
      · go_wp2
        go_ret
        exact ⟨rfl, Below.refl _ _⟩
      go_wp2
      go_round
      case rel => exact ⟨u + (16 + (S k).size), k + 1, by omega, by omega, by omega, rfl, by go_num⟩
      case measure => simp [intOf]; omega
    · obtain rfl : k = n + 1 := by omega
      clear hlt hk
      go_wp2
      go_loopw [75] (fun i wr => ∃ k : Nat, i = .int .i64 k ∧ k ≤ n + 1 ∧ Hid (Srt after S k) ∧ Below w'.heap.size w' wr ∧ Lst wr (some ⟨b, off, none⟩) (n + 1) S) (fun i _ => n + 1 - (intOf i).toNat)
      case atStart => exact ⟨0, rfl, by omega, fun i hi => absurd hi (by omega), Below.refl _ _, hL⟩
      case round =>
        obtain ⟨k, rfl, hk, hS, hB, hLr⟩ := hrel
        by_cases hlt : k < n + 1
        · have g4 := (hLr.at hlt).2.1
          have g1 : (Op.bytesLess (S k).toList after.toList || (S k).toList == after.toList) = le (S k) after := rfl
          cases h1 : le (S k) after
          · rw [h1] at g1
            cases k with
            | zero =>
              rw [Nat.add_zero] at g4
              go_wp2
              go_quiet (fail)
              go_wp2
              go_roundw
              case rel =>
                refine ⟨1, by go_num, by omega, ?_, below_drewN hB _, hLr.drewN _⟩
                intro i hi
                obtain rfl : i = 0 := by omega
                exact ⟨h1, fun h => absurd h (by omega)⟩
              case measure => simp [intOf]
            | succ j =>
              have g5 := (hLr.at (show j < n + 1 by omega)).2.1
              have hd : decide ((0 : Int) < (j : Int) + 1) = true := by rw [decide_eq_true]; omega
              cases h2 : Op.bytesLess (S (j + 1)).toList (S j).toList
              · go_wp2
                go_quiet (fail)
                go_wp2
                go_roundw
                case rel =>
                  refine ⟨j + 1 + 1, by go_num, by omega, ?_, below_drewN hB _, hLr.drewN _⟩
                  intro i hi
                  by_cases hij : i = j + 1
                  · subst hij; exact ⟨h1, fun _ => h2⟩
                  · exact hS.out i (by omega)
                case measure => simp [intOf]; omega
              · go_wp2
                go_quiet (fail)
                go_wp2
                go_ret
                exact ⟨rfl, below_drewN hB _⟩
          · rw [h1] at g1
            go_wp2
            go_ret
            exact ⟨rfl, hB⟩
        · obtain rfl : k = n + 1 := by omega
          clear hlt hk
          obtain ⟨ew, ex, el, eo, ez⟩ := LAW.out hS.out
          have EX := @hide _ ex
          have EL := @hide _ el
          have EZ := @hide _ ez
          clear ex el ez LAW hS
          rename World => wq
          have hsz := hB.size
          have D1 := fun wx hx => c1.out wx hx name
          have D4 := fun wx hx => c1.out wx hx after
          rw [ew] at D1
          rw [eo] at D4
          have d1 := @hide _ D1
          have d4 := @hide _ D4
          clear D1 D4 ew eo hL
          have K0 := keep3_start wq after after after more true more
          have L0 := hLr.below K0.bel
          go_wp2_with fail
          refine (d1.out _ L0).mono ?_
          rintro e w1 ⟨rfl, b1⟩
          have K1 := K0.step b1
          have L1 := L0.below b1
          have q0 := K1.c20
          have q1 := K1.c21
          clear b1 K0 L0 d1
          go_wp2_with fail
          go_region_held3 (fun wx => wx.cell? ⟨wq.heap.size + 1, 0, none⟩ = some (.string after) ∧ wx.cell? ⟨wq.heap.size + 1, 1, none⟩ = some (.bool true)) (first | exact ⟨K2.c20, K2.c21⟩ | exact ⟨K1.c20, K1.c21⟩) (first | (go_at_call 13; refine (c2.out _ L1.drew).mono ?_; rintro e w2 ⟨rfl, b2⟩; have K2 := K1.drew.step b2; have L2 := L1.drew.below b2))
          clear b2 q0 q1 K1 L1 c2
          rename_i hHeld
          clear hHeld
          have q0 := K2.c30
          have q1 := K2.c31
          go_wp2_with fail
          go_region_held3 (fun wx => wx.cell? ⟨wq.heap.size + 1 + 1, 0, none⟩ = some (.string after) ∧ wx.cell? ⟨wq.heap.size + 1 + 1, 1, none⟩ = some (.bool more)) (first | exact ⟨K3.c30, K3.c31⟩ | exact ⟨K2.c30, K2.c31⟩) (first | (go_at_call 13; refine (c3.out _ L2.drew).mono ?_; rintro e w3 ⟨rfl, b3⟩; have K3 := K2.drew.step b3; have L3 := L2.drew.below b3))
          clear b3 q0 q1 K2 L2 c3
          rename_i hHeld
          clear hHeld
          cases v1 <;> cases v2
          case true.true => exact absurd (EX.out rfl) (by decide)
          all_goals
            clear EX
            go_wp2
            go_loopw [143] (fun i wx => ∃ k : Nat, i = .int .i64 k ∧ k ≤ n + 1 ∧ Keep3 wq wx wq.heap.size after more after true after more ∧ Lst wx (some ⟨b, off, none⟩) (n + 1) S) (fun i _ => n + 1 - (intOf i).toNat)
            case atStart => exact ⟨0, rfl, by omega, K3, L3⟩
            case round =>
              clear K3 L3
              obtain ⟨k, rfl, hk, K8, L8⟩ := hrel
              by_cases hlt : k < n + 1
              · have D5 := fun wx hx => c1.out wx hx (S k)
                rw [EL.out k hlt] at D5
                have d5 := @hide _ D5
                have q0 := K8.c10
                have q1 := K8.c11
                have q2 := (L8.at hlt).2.1
                have i0 : (0 : Int) ≤ (k : Int) := by omega
                have i1 : (k : Int) < ((n + 1 : Nat) : Int) := by omega
                clear D5 d4 EZ EL c1
                go_wp2_with fail
                go_region_held3 (fun wx => wx.cell? ⟨wq.heap.size, 0, none⟩ = some (.string after) ∧ wx.cell? ⟨wq.heap.size, 1, none⟩ = some (.bool more) ∧ wx.cell? ⟨b, off + k, none⟩ = some (.string (S k))) (first | exact ⟨K9.c10, K9.c11, (L9.at hlt).2.1⟩ | exact ⟨K8.c10, K8.c11, (L8.at hlt).2.1⟩) (first | (go_at_call 13; refine (d5.out _ L8.drew).mono ?_; rintro e w9 ⟨rfl, b9⟩; have K9 := K8.drew.step b9; have L9 := L8.drew.below b9))
                clear q0 q1 q2
                rename_i hHeld
                clear hHeld
                go_wp2
                go_roundw
                case rel => first | exact ⟨k + 1, by go_num, by omega, K9, L9⟩ | ((repeat apply Exists.intro); exact ⟨⟨k + 1, by go_num, by omega, K9, L9⟩, rfl⟩)
                case measure => simp [intOf]; omega
              · have q0 := K8.c10
                have q1 := K8.c11
                go_wp2_with fail
                refine (d4.out _ L8).mono ?_
                rintro e w4 ⟨rfl, b4⟩
                have hF := hB.trans ((K8.step b4).bel.mono hsz)
                clear b4 q0 q1 K8 L8 d4 c1 EL
                cases he : after.toList.isEmpty
                · clear EZ
                  go_wp2
                  go_ret
                  exact ⟨rfl, hF⟩
                · cases more
                  · have hn := (congrArg (!·) (EZ.out he rfl)).symm
                    simp only [Bool.not_not] at hn
                    clear EZ
                    go_wp2
                    go_ret
                    exact ⟨rfl, hF⟩
                  · clear EZ
                    go_wp2
                    go_ret
                    exact ⟨rfl, hF⟩
end Go.Proofs.Qxb6619362a
