/-
  The walk of FnCoversAnInterval.
-/
import Derived.Test.Qxb6619362aKeep
namespace Go.Proofs.Qxb6619362a
open Go.ChangeShapes Go.WideShapes Go.ChangeAt Go.RowKit

/-- The last name's cell. -/
theorem Lst.last {wx : World} {b off n : Nat} {S : Nat → ByteArray} (h : Lst wx (some ⟨b, off, none⟩) (n + 1) S) : b < wx.heap.size ∧ wx.cell? ⟨b, off + n, none⟩ = some (.string (S n)) := by
  obtain ⟨_, h0 | ⟨b', off', hab, hb, hc⟩⟩ := h
  · omega
  · obtain ⟨rfl, rfl⟩ : b' = b ∧ off' = off := by simpa [eq_comm] using hab
    exact ⟨hb, (hc n (by omega)).1⟩

section
variable (after lo mid hi : ByteArray) (more : Bool) (a : Option Addr) (len cap : Nat) (S : Nat → ByteArray) (w : World)

set_option maxHeartbeats 1000000 in
/-- The lengths are too great: true at once. -/
theorem w6_early (hL : Lst w a len S) (z1 : after.size ≤ maxLen) (z2 : lo.size ≤ maxLen) (z3 : mid.size ≤ maxLen) (z4 : hi.size ≤ maxLen)
    (h : (1048576 : Int) < after.size ∨ (1048576 : Int) - after.size < lo.size ∨ (1048576 : Int) - (after.size + lo.size) < mid.size ∨ (1048576 : Int) - (after.size + lo.size + mid.size) < hi.size) :
    Calls Try.prog 6 #[.string after, .bool more, .slice a len cap, .string lo, .string mid, .string hi] w fun e w' => e = .returned (.bool true) ∧ Below w.heap.size w w' := by
  have cb := bytes6 after lo mid hi more a len cap S w hL z1 z2 z3 z4
  clear hL
  unfold maxLen at z1 z2 z3 z4
  by_cases h1 : (1048576 : Int) < after.size
  · clear h
    go_enter Try.func6, Try.ntmps6
    go_wp2_with fail
    refine cb.mono ?_
    rintro e w' ⟨⟨bo, rfl⟩, rfl⟩
    cases bo
    all_goals
      go_wp2
      go_ret
      exact ⟨rfl, Below.refl _ _⟩
  by_cases h2 : (1048576 : Int) - after.size < lo.size
  · clear h
    go_enter Try.func6, Try.ntmps6
    go_wp2_with fail
    refine cb.mono ?_
    rintro e w' ⟨⟨bo, rfl⟩, rfl⟩
    cases bo
    all_goals
      go_wp2
      go_ret
      exact ⟨rfl, Below.refl _ _⟩
  by_cases h3 : (1048576 : Int) - (after.size + lo.size) < mid.size
  · clear h
    go_enter Try.func6, Try.ntmps6
    go_wp2_with fail
    refine cb.mono ?_
    rintro e w' ⟨⟨bo, rfl⟩, rfl⟩
    cases bo
    all_goals
      go_wp2
      go_ret
      exact ⟨rfl, Below.refl _ _⟩
  have h4 : (1048576 : Int) - (after.size + lo.size + mid.size) < hi.size := by omega
  clear h
  go_enter Try.func6, Try.ntmps6
  go_wp2_with fail
  refine cb.mono ?_
  rintro e w' ⟨⟨bo, rfl⟩, rfl⟩
  cases bo
  all_goals
    go_wp2
    go_ret
    exact ⟨rfl, Below.refl _ _⟩

set_option maxHeartbeats 4000000 in
/-- A list that holds nothing. -/
theorem w6_nil (vl vm vh : Bool) (z1 : after.size ≤ maxLen) (z2 : lo.size ≤ maxLen) (z3 : mid.size ≤ maxLen) (z4 : hi.size ≤ maxLen)
    (h : ((after.size + lo.size + mid.size + hi.size : Nat) : Int) ≤ 1048576)
    (el : cov after more ByteArray.empty lo = vl) (em : cov after more ByteArray.empty mid = vm) (eh : cov after more ByteArray.empty hi = vh)
    (law : le lo mid = true → le mid hi = true → vl = true → vh = true → vm = true) :
    Calls Try.prog 6 #[.string after, .bool more, .slice a 0 cap, .string lo, .string mid, .string hi] w fun e w' => e = .returned (.bool true) ∧ Below w.heap.size w w' := by
  have hL : Lst w a 0 (fun _ => ByteArray.empty) := ⟨by decide, Or.inl rfl⟩
  have cb := bytes6 after lo mid hi more a 0 cap _ w hL z1 z2 z3 z4
  have c1 := covers_none after lo more a cap
  have c2 := covers_none after mid more a cap
  have c3 := covers_none after hi more a cap
  rw [el] at c1
  rw [em] at c2
  rw [eh] at c3
  clear hL el em eh
  unfold maxLen at z1 z2 z3 z4
  have g1 : (!(Op.bytesLess lo.toList mid.toList || lo.toList == mid.toList)) = !le lo mid := rfl
  have g2 : (!(Op.bytesLess mid.toList hi.toList || mid.toList == hi.toList)) = !le mid hi := rfl
  go_enter Try.func6, Try.ntmps6
  go_wp2_with fail
  refine cb.mono ?_
  rintro e w' ⟨⟨bo, rfl⟩, rfl⟩
  cases bo
  · go_wp2
    go_ret
    exact ⟨rfl, Below.refl _ _⟩
  clear cb
  go_wp2
  go_loop [13, 63] (fun t i => ∃ u : Int, t = .int .i64 u ∧ i = .int .i64 0) (fun _ _ => 0)
  case atStart => exact ⟨_, rfl, rfl⟩
  case round =>
    obtain ⟨u, rfl, rfl⟩ := hrel
    cases h1 : le lo mid
    · rw [h1] at g1
      clear law
      go_wp2
      go_ret
      exact ⟨rfl, Below.refl _ _⟩
    rw [h1] at g1
    cases h2 : le mid hi
    · rw [h2] at g2
      clear law
      go_wp2
      go_ret
      exact ⟨rfl, Below.refl _ _⟩
    rw [h2] at g2
    replace law := law h1 h2
    clear h1 h2
    have HL : Hid (vl = true → vh = true → vm = true) := law
    clear law
    have K0 := keep_start w' after more
    go_wp2_with fail
    refine (c1 _).mono ?_
    rintro e w1 ⟨rfl, b1⟩
    have K1 := K0.step b1
    have p0 := K1.c0
    have p1 := K1.c1
    clear b1 K0 c1
    go_wp2_with fail
    refine (c2 _).mono ?_
    rintro e w2 ⟨rfl, b2⟩
    have K2 := K1.step b2
    clear p0 p1 b2 K1 c2
    have p0 := K2.c0
    have p1 := K2.c1
    go_wp2_with fail
    refine (c3 _).mono ?_
    rintro e w3 ⟨rfl, b3⟩
    have K3 := K2.step b3
    clear p0 p1 b3 K2 c3
    have hB := K3.bel
    cases vl
    · clear HL
      go_wp2
      go_ret
      exact ⟨rfl, hB⟩
    · cases vh
      · clear HL
        go_wp2
        go_ret
        exact ⟨rfl, hB⟩
      · obtain rfl : vm = true := HL.out rfl rfl
        clear HL
        go_wp2
        go_ret
        exact ⟨rfl, hB⟩

set_option maxHeartbeats 8000000 in
/-- A list that holds a name. -/
theorem w6_cons (b off n : Nat) (last : ByteArray) (vl vm vh : Bool) (z1 : after.size ≤ maxLen) (z2 : lo.size ≤ maxLen) (z3 : mid.size ≤ maxLen) (z4 : hi.size ≤ maxLen)
    (h : ((after.size + lo.size + mid.size + hi.size : Nat) : Int) ≤ 1048576) (hL : Lst w (some ⟨b, off, none⟩) (n + 1) S) (hlast : S n = last) (hcap : n + 1 ≤ cap)
    (el : cov after more last lo = vl) (em : cov after more last mid = vm) (eh : cov after more last hi = vh)
    (law : le lo mid = true → le mid hi = true → vl = true → vh = true → vm = true) :
    Calls Try.prog 6 #[.string after, .bool more, .slice (some ⟨b, off, none⟩) (n + 1) cap, .string lo, .string mid, .string hi] w fun e w' => e = .returned (.bool true) ∧ Below w.heap.size w w' := by
  have cb := bytes6 after lo mid hi more _ (n + 1) cap S w hL z1 z2 z3 z4
  have hll : lastOf S (n + 1) = last := by unfold lastOf; rw [if_neg (by omega)]; exact hlast
  have c1 := fun wx hx => covers_any after lo more (some ⟨b, off, none⟩) (n + 1) cap S wx hx
  have c2 := fun wx hx => covers_any after mid more (some ⟨b, off, none⟩) (n + 1) cap S wx hx
  have c3 := fun wx hx => covers_any after hi more (some ⟨b, off, none⟩) (n + 1) cap S wx hx
  have c4 := fun wx hx => covers_any after last more (some ⟨b, off, none⟩) (n + 1) cap S wx hx
  have c5 := fun wx hb hc => covers_one after mid last more b (off + n) (cap - n) wx hb hc
  rw [hll, el] at c1
  rw [hll, em] at c2
  rw [hll, eh] at c3
  rw [hll] at c4
  rw [em] at c5
  clear el em eh hll
  obtain ⟨hm, h0 | ⟨b', off', hab, hb, hc⟩⟩ := id hL
  · omega
  obtain ⟨rfl, rfl⟩ : b' = b ∧ off' = off := by simpa [eq_comm] using hab
  clear hab
  have HC1 : Hid (∀ i, i < n + 1 → w.cell? ⟨b', off' + i, none⟩ = some (.string (S i)) ∧ (S i).size ≤ maxLen) := hc
  clear hc
  unfold maxLen at z1 z2 z3 z4 hm
  have g1 : (!(Op.bytesLess lo.toList mid.toList || lo.toList == mid.toList)) = !le lo mid := rfl
  have g2 : (!(Op.bytesLess mid.toList hi.toList || mid.toList == hi.toList)) = !le mid hi := rfl
  have g3 : (!(Op.bytesLess last.toList after.toList || last.toList == after.toList)) = !le last after := rfl
  go_enter Try.func6, Try.ntmps6
  go_wp2_with fail
  refine cb.mono ?_
  rintro e w' ⟨⟨bo, rfl⟩, rfl⟩
  cases bo
  · go_wp2
    go_ret
    exact ⟨rfl, Below.refl _ _⟩
  clear cb
  go_wp2
  go_loop [13, 63] (fun t i => ∃ (u : Int) (k : Nat), 0 ≤ u ∧ u ≤ 1048576 ∧ k ≤ n + 1 ∧ t = .int .i64 u ∧ i = .int .i64 k) (fun _ i => n + 1 - (intOf i).toNat)
  case atStart => exact ⟨_, 0, by omega, by omega, by omega, rfl, rfl⟩
  case round =>
    obtain ⟨u, k, hu0, hu1, hk, rfl, rfl⟩ := hrel
    by_cases hlt : k < n + 1
    · have g4 := (HC1.out k hlt).1
      have g5 := (HC1.out k hlt).2
      unfold maxLen at g5
      clear c1 c2 c3 c4 c5 g1 g2 g3
      by_cases g6 : (1048576 : Int) < (S k).size
      · go_wp2
        go_ret
        exact ⟨rfl, Below.refl _ _⟩
      by_cases g7 : (1048576 : Int) < u + (16 + (S k).size)
      · go_wp2
        go_ret
        exact ⟨rfl, Below.refl _ _⟩
      go_wp2
      go_round
      case rel => exact ⟨u + (16 + (S k).size), k + 1, by omega, by omega, by omega, rfl, by go_num⟩
      case measure => simp [intOf]; omega
    · obtain rfl : k = n + 1 := by omega
      clear hlt hk
      cases h1 : le lo mid
      · rw [h1] at g1
        clear law
        go_wp2
        go_ret
        exact ⟨rfl, Below.refl _ _⟩
      rw [h1] at g1
      cases h2 : le mid hi
      · rw [h2] at g2
        clear law
        go_wp2
        go_ret
        exact ⟨rfl, Below.refl _ _⟩
      rw [h2] at g2
      replace law := law h1 h2
      clear h1 h2
      have HL : Hid (vl = true → vh = true → vm = true) := law
      clear law
      have K0 := keep_start w' after more
      have L0 := hL.below K0.bel
      go_wp2_with fail
      refine (c1 _ L0).mono ?_
      rintro e w1 ⟨rfl, b1⟩
      have K1 := K0.step b1
      have L1 := L0.below b1
      have p0 := K1.c0
      have p1 := K1.c1
      clear b1 K0 L0 c1
      go_wp2_with fail
      refine (c2 _ L1).mono ?_
      rintro e w2 ⟨rfl, b2⟩
      have K2 := K1.step b2
      have L2 := L1.below b2
      clear p0 p1 b2 K1 L1 c2
      have p0 := K2.c0
      have p1 := K2.c1
      go_wp2_with fail
      refine (c3 _ L2).mono ?_
      rintro e w3 ⟨rfl, b3⟩
      have K3 := K2.step b3
      have L3 := L2.below b3
      clear p0 p1 b3 K2 L2 c3
      have p0 := K3.c0
      have p1 := K3.c1
      cases vl
      · clear HL
        go_wp2_with fail
        refine (c5 _ L3.last.1 (by rw [← hlast]; exact L3.last.2)).mono ?_
        rintro e w4 ⟨rfl, b4⟩
        have K4 := K3.step b4
        have L4 := L3.below b4
        clear p0 p1 b4 K3 L3 c5
        have p0 := K4.c0
        have p1 := K4.c1
        have q4 : w4.cell? ⟨b', off' + n, none⟩ = some (.string last) := by rw [← hlast]; exact L4.last.2
        cases h3 : le last after
        · rw [h3] at g3
          rw [cov_last h3] at c4
          clear h3
          go_wp2_with fail
          refine (c4 _ L4).mono ?_
          rintro e w5 ⟨rfl, b5⟩
          have hB := (K4.step b5).bel
          clear p0 p1 q4 b5 K4 L4 c4
          go_wp2
          go_ret
          exact ⟨rfl, hB⟩
        · rw [h3] at g3
          clear h3
          have hB := K4.bel
          go_wp2
          go_ret
          exact ⟨rfl, hB⟩
      · cases vh
        · clear HL
          go_wp2_with fail
          refine (c5 _ L3.last.1 (by rw [← hlast]; exact L3.last.2)).mono ?_
          rintro e w4 ⟨rfl, b4⟩
          have K4 := K3.step b4
          have L4 := L3.below b4
          clear p0 p1 b4 K3 L3 c5
          have p0 := K4.c0
          have p1 := K4.c1
          have q4 : w4.cell? ⟨b', off' + n, none⟩ = some (.string last) := by rw [← hlast]; exact L4.last.2
          cases h3 : le last after
          · rw [h3] at g3
            rw [cov_last h3] at c4
            clear h3
            go_wp2_with fail
            refine (c4 _ L4).mono ?_
            rintro e w5 ⟨rfl, b5⟩
            have hB := (K4.step b5).bel
            clear p0 p1 q4 b5 K4 L4 c4
            go_wp2
            go_ret
            exact ⟨rfl, hB⟩
          · rw [h3] at g3
            clear h3
            have hB := K4.bel
            go_wp2
            go_ret
            exact ⟨rfl, hB⟩
        · obtain rfl : vm = true := HL.out rfl rfl
          clear HL
          go_wp2_with fail
          refine (c5 _ L3.last.1 (by rw [← hlast]; exact L3.last.2)).mono ?_
          rintro e w4 ⟨rfl, b4⟩
          have K4 := K3.step b4
          have L4 := L3.below b4
          clear p0 p1 b4 K3 L3 c5
          have p0 := K4.c0
          have p1 := K4.c1
          have q4 : w4.cell? ⟨b', off' + n, none⟩ = some (.string last) := by rw [← hlast]; exact L4.last.2
          cases h3 : le last after
          · rw [h3] at g3
            rw [cov_last h3] at c4
            clear h3
            go_wp2_with fail
            refine (c4 _ L4).mono ?_
            rintro e w5 ⟨rfl, b5⟩
            have hB := (K4.step b5).bel
            clear p0 p1 q4 b5 K4 L4 c4
            go_wp2
            go_ret
            exact ⟨rfl, hB⟩
          · rw [h3] at g3
            clear h3
            have hB := K4.bel
            go_wp2
            go_ret
            exact ⟨rfl, hB⟩

/-- FnCoversAnInterval returns true. -/
theorem w6 (hL : Lst w a len S) (hcap : len ≤ cap) (z1 : after.size ≤ maxLen) (z2 : lo.size ≤ maxLen) (z3 : mid.size ≤ maxLen) (z4 : hi.size ≤ maxLen) :
    Calls Try.prog 6 #[.string after, .bool more, .slice a len cap, .string lo, .string mid, .string hi] w fun e w' => e = .returned (.bool true) ∧ Below w.heap.size w w' := by
  by_cases h : (1048576 : Int) < after.size ∨ (1048576 : Int) - after.size < lo.size ∨ (1048576 : Int) - (after.size + lo.size) < mid.size ∨ (1048576 : Int) - (after.size + lo.size + mid.size) < hi.size
  · exact w6_early after lo mid hi more a len cap S w hL z1 z2 z3 z4 h
  · have h' : ((after.size + lo.size + mid.size + hi.size : Nat) : Int) ≤ 1048576 := by omega
    by_cases h0 : len = 0
    · subst h0
      exact w6_nil after lo mid hi more a cap w _ _ _ z1 z2 z3 z4 h' rfl rfl rfl (fun a1 a2 a3 a4 => cov_mid a1 a2 a3 a4)
    · obtain ⟨n, rfl⟩ : ∃ n, len = n + 1 := ⟨len - 1, by omega⟩
      obtain ⟨hm, h1 | ⟨b, off, rfl, hb, hc⟩⟩ := id hL
      · omega
      · exact w6_cons after lo mid hi more cap S w b off n _ _ _ _ z1 z2 z3 z4 h' hL rfl hcap rfl rfl rfl (fun a1 a2 a3 a4 => cov_mid a1 a2 a3 a4)
end
end Go.Proofs.Qxb6619362a
