/-
  FnCoversSplitAtAnyCut: the plain law of a cut, and the walks put together.
-/
import Derived.Test.Qxb6619362aSplitC
import Derived.Test.Qxb6619362aSplitD
namespace Go.Proofs.Qxb6619362a
open Go.ChangeShapes Go.WideShapes Go.ChangeAt Go.RowKit
set_option linter.unusedVariables false

/-! ### The plain law -/
theorem le_empty (a e : ByteArray) (h : e.toList.isEmpty = true) : le a e = a.toList.isEmpty := by
  rw [List.isEmpty_iff] at h
  unfold le
  rw [h]
  cases a.toList <;> rfl
theorem empty_isEmpty : ByteArray.empty.toList.isEmpty = true := by rw [ByteArray.toList_eq]; rfl

theorem srt_step {after : ByteArray} {S : Nat → ByteArray} {m : Nat} (h : Srt after S m) {i : Nat} (hi : i + 1 < m) : le (S i) (S (i + 1)) = true := by
  have := (h (i + 1) hi).2 (by omega)
  rw [not_le, show S (i + 1 - 1) = S i from rfl] at *
  rw [this]; rfl
theorem srt_le {after : ByteArray} {S : Nat → ByteArray} {m : Nat} (h : Srt after S m) (i : Nat) : ∀ j, i ≤ j → j < m → le (S i) (S j) = true := by
  intro j
  induction j with
  | zero => intro h1 _; obtain rfl : i = 0 := by omega
            exact le_refl _
  | succ j ih =>
    intro h1 h2
    by_cases hij : i = j + 1
    · subst hij; exact le_refl _
    · exact le_trans (ih (by omega) (by omega)) (srt_step h (by omega))

theorem cov_all {after last : ByteArray} {S : Nat → ByteArray} {more : Bool} {n : Nat} (hl : S n = last) (h : Srt after S (n + 1)) : ∀ k, k < n + 1 → cov after more last (S k) = true := by
  intro k hk
  unfold cov
  rw [(h k hk).1, ← hl, srt_le h k n (by omega) (by omega)]
  cases more <;> rfl
theorem cov_own (after last : ByteArray) (more : Bool) : cov after more last after = false := by unfold cov; rw [le_refl]; rfl
theorem cov_zero {after last name : ByteArray} (he : after.toList.isEmpty = true) : cov after false last name = !name.toList.isEmpty := by
  unfold cov; rw [le_empty name after he]; simp
theorem cov_none (after name : ByteArray) : cov after true ByteArray.empty name = false := by
  unfold cov
  rw [le_empty name ByteArray.empty empty_isEmpty]
  cases h : name.toList.isEmpty
  · simp
  · have : le name after = true := by
      rw [List.isEmpty_iff] at h
      rw [le_iff, h]
      cases after.toList with
      | nil => exact Or.inr rfl
      | cons x t => exact Or.inl rfl
    rw [this]; rfl

theorem bool_end : ∀ x y z e more : Bool, (x = true → y = true) → y = z → (e = true → x = true) →
    (!x && (!more || z)) = ((!x && (!true || y)) || (!y && (!more || e))) ∧ ((!x && (!true || y)) = true → (!y && (!more || e)) = false) := by decide
theorem bool_mid : ∀ x y z more : Bool, (x = true → y = true) → (y = true → z = true) →
    (!x && (!more || z)) = ((!x && (!true || y)) || (!y && (!more || z))) ∧ ((!x && (!true || y)) = true → (!y && (!more || z)) = false) := by decide

/-- Cut behind the name S d. -/
theorem cov_cut {after last name : ByteArray} {S : Nat → ByteArray} {more : Bool} {n d : Nat} (hd : d ≤ n) (hl : S n = last) (h : Srt after S (n + 1)) (L2 : ByteArray) (hL2 : L2 = if d = n then ByteArray.empty else last) :
    cov after more last name = (cov after true (S d) name || cov (S d) more L2 name) ∧ (cov after true (S d) name = true → cov (S d) more L2 name = false) := by
  have f1 : le name after = true → le name (S d) = true := fun hx => by
    have h1 := (h d (by omega)).1
    rcases le_total (S d) after with h2 | h2
    · rw [h1] at h2; cases h2
    · exact le_trans hx h2
  have f2 : le name (S d) = true → le name last = true := fun hx => by rw [← hl]; exact le_trans hx (srt_le h d n hd (by omega))
  have f3 : d = n → le name (S d) = le name last := fun e => by rw [e, hl]
  have f4 : le name ByteArray.empty = true → le name after = true := fun hx => by
    have := cov_none after name
    unfold cov at this
    rw [hx] at this
    cases hh : le name after
    · rw [hh] at this; cases this
    · rfl
  unfold cov
  subst hL2
  by_cases hdn : d = n
  · rw [if_pos hdn]
    exact bool_end _ _ _ _ _ f1 (f3 hdn) f4
  · rw [if_neg hdn]
    exact bool_mid _ _ _ _ f1 f2

/-! ### The walks -/
set_option maxRecDepth 100000 in
set_option maxHeartbeats 4000000 in
/-- The cut does not lie within the list. -/
theorem w7_out (after name : ByteArray) (more : Bool) (b off n cap : Nat) (S : Nat → ByteArray) (cut : Int) (w : World) (z1 : after.size ≤ maxLen) (z2 : name.size ≤ maxLen)
    (h : ((after.size + name.size : Nat) : Int) ≤ 1048576) (hL : Lst w (some ⟨b, off, none⟩) (n + 1) S) (hc : cut < 0 ∨ (n : Int) + 1 < cut) :
    Calls Try.prog 7 #[.string after, .bool more, .slice (some ⟨b, off, none⟩) (n + 1) cap, .int .i64 cut, .string name] w fun e w' => e = .returned (.bool true) ∧ Below w.heap.size w w' := by
  have cb := bytes7 after name cut more _ (n + 1) cap S w hL z1 z2
  have hm := hL.1
  unfold maxLen at z1 z2 hm
  rcases hc with hc | hc
  all_goals
    go_enter Try.func7, Try.ntmps7
    go_wp2_with fail
    refine cb.mono ?_
    rintro e w' ⟨⟨bo, rfl⟩, rfl⟩
    cases bo
    · go_wp2
      go_ret
      exact ⟨rfl, Below.refl _ _⟩
    clear cb
    go_wp2
    go_loop [11, 45] (fun t i => ∃ (u : Int) (k : Nat), 0 ≤ u ∧ u ≤ 1048576 ∧ k ≤ n + 1 ∧ t = .int .i64 u ∧ i = .int .i64 k) (fun _ i => n + 1 - (intOf i).toNat)
    case atStart => exact ⟨_, 0, by omega, by omega, by omega, rfl, rfl⟩
    case round =>
      obtain ⟨u, k, hu0, hu1, hk, rfl, rfl⟩ := hrel
      by_cases hlt : k < n + 1
      · have g4 := (hL.at hlt).2.1
        have g5 := (hL.at hlt).2.2
        unfold maxLen at g5
        by_cases g6 : (1048576 : Int) < (S k).size
        · go_wp2
          go_ret
          exact ⟨rfl, Below.refl _ _⟩
        by_cases g7 : (1048576 : Int) < u + (16 + (S k).size)
        · go_wp2
          go_ret
          exact ⟨rfl, Below.refl _ _⟩
        go_wp2
        go_round
        case rel => exact ⟨u + (16 + (S k).size), k + 1, by omega, by omega, by omega, rfl, by go_num⟩
        case measure => simp [intOf]; omega
      · obtain rfl : k = n + 1 := by omega
        clear hlt hk
        go_wp2
        go_ret
        exact ⟨rfl, Below.refl _ _⟩

/-- A piece of the list is a list. -/
theorem Lst.head {wx : World} {b off len c : Nat} {S : Nat → ByteArray} (h : Lst wx (some ⟨b, off, none⟩) len S) (hc : c ≤ len) : Lst wx (some ⟨b, off, none⟩) c S := by
  refine ⟨by have := h.1; omega, ?_⟩
  by_cases h0 : c = 0
  · exact Or.inl h0
  · exact Or.inr ⟨b, off, rfl, (h.at (show 0 < len by omega)).1, fun i hi => (h.at (show i < len by omega)).2⟩
theorem Lst.tail {wx : World} {b off len c : Nat} {S : Nat → ByteArray} (h : Lst wx (some ⟨b, off, none⟩) len S) (hc : c ≤ len) : Lst wx (some ⟨b, off + c, none⟩) (len - c) (fun i => S (c + i)) := by
  refine ⟨by have := h.1; omega, ?_⟩
  by_cases h0 : len - c = 0
  · exact Or.inl h0
  · refine Or.inr ⟨b, off + c, rfl, (h.at (show 0 < len by omega)).1, fun i hi => ?_⟩
    rw [Nat.add_assoc]
    exact (h.at (show c + i < len by omega)).2

/-- FnCoversSplitAtAnyCut returns true. -/
theorem w7 (after name : ByteArray) (more : Bool) (a : Option Addr) (len cap : Nat) (S : Nat → ByteArray) (cut : Int) (w : World) (hL : Lst w a len S) (hcap : len ≤ cap) (hcap2 : cap ≤ maxLen) (z1 : after.size ≤ maxLen) (z2 : name.size ≤ maxLen) :
    Calls Try.prog 7 #[.string after, .bool more, .slice a len cap, .int .i64 cut, .string name] w fun e w' => e = .returned (.bool true) ∧ Below w.heap.size w w' := by
  by_cases h : (1048576 : Int) < after.size ∨ (1048576 : Int) - after.size < name.size
  · exact w7_early after name more a len cap S cut w hL z1 z2 h
  have h' : ((after.size + name.size : Nat) : Int) ≤ 1048576 := by omega
  by_cases h0 : len = 0
  · subst h0
    exact w7_nil after name more a cap cut w false (cov after more ByteArray.empty name) z1 z2 h' (by simp) (cov_none after name) rfl (cov_own _ _ _) (fun h => by cases h)
      (fun he hm => by subst hm; rw [Bool.false_or]; exact cov_zero he)
  obtain ⟨n, rfl⟩ : ∃ n, len = n + 1 := ⟨len - 1, by omega⟩
  obtain ⟨hm, h1 | ⟨b, off, rfl, hb, hc⟩⟩ := id hL
  · omega
  by_cases hcu : cut < 0 ∨ (n : Int) + 1 < cut
  · exact w7_out after name more b off n cap S cut w z1 z2 h' hL hcu
  by_cases hz : cut = 0
  · subst hz
    have e1 : lastOf S 0 = ByteArray.empty := rfl
    have e2 : lastOf S (n + 1) = S n := by unfold lastOf; rw [if_neg (by omega)]; rfl
    refine w7_cons0 after name (S n) more b off n cap S w false (cov after more (S n) name) z1 z2 h' hL hcap hcap2 rfl ?_ ?_ ?_
    · intro hs
      exact ⟨by simp, fun h => (by cases h), cov_all rfl hs, cov_own _ _ _, fun he hm => (by subst hm; rw [Bool.false_or]; exact cov_zero he)⟩
    · intro wx hx
      have := covers_none after name true (some ⟨b, off, none⟩) cap wx
      rwa [cov_none] at this
    · intro wx hx
      have := covers_any after name more (some ⟨b, off, none⟩) (n + 1) cap S wx hx
      rwa [e2] at this
  · obtain ⟨d, hd⟩ : ∃ d : Nat, cut = (d : Int) + 1 := ⟨(cut - 1).toNat, by omega⟩
    subst hd
    have hdn : d ≤ n := by omega
    have e1 : lastOf S (d + 1) = S d := by unfold lastOf; rw [if_neg (by omega)]; rfl
    have LAW : ∀ L2, (L2 = if d = n then ByteArray.empty else S n) → Srt after S (n + 1) →
        cov after more (S n) name = (cov after true (S d) name || cov (S d) more L2 name) ∧ (cov after true (S d) name = true → cov (S d) more L2 name = false) ∧ (∀ k, k < n + 1 → cov after more (S n) (S k) = true) ∧ cov after more (S n) after = false ∧
          (after.toList.isEmpty = true → more = false → (cov after true (S d) name || cov (S d) more L2 name) = !name.toList.isEmpty) := by
      intro L2 hL2 hs
      obtain ⟨l1, l2⟩ := cov_cut (name := name) (more := more) hdn rfl hs L2 hL2
      exact ⟨l1, l2, cov_all rfl hs, cov_own _ _ _, fun he hm => by rw [← l1]; subst hm; exact cov_zero he⟩
    have C2 : ∀ wx, Lst wx (some ⟨b, off, none⟩) (n + 1) S → Calls Try.prog 13 #[.agg #[.string after, .bool true], .slice (some ⟨b, off, none⟩) (d + 1) cap, .string name] wx fun e w' => e = .returned (.bool (cov after true (S d) name)) ∧ Below wx.heap.size wx w' := by
      intro wx hx
      have := covers_any after name true (some ⟨b, off, none⟩) (d + 1) cap S wx (hx.head (by omega))
      rwa [e1] at this
    by_cases hce : cap = d + 1
    · obtain rfl : d = n := by omega
      refine w7_consE after name (S d) more b off d cap S w hce (cov after true (S d) name) (cov (S d) more ByteArray.empty name) z1 z2 h' hL hcap hcap2 rfl (LAW _ (if_pos rfl).symm) C2 ?_
      intro wx hx
      exact covers_none (S d) name more (some ⟨b, off, none⟩) 0 wx
    · refine w7_consM after name (S n) more b off n cap S w d hdn hce (cov after true (S d) name) (cov (S d) more (if d = n then ByteArray.empty else S n) name) z1 z2 h' hL hcap hcap2 rfl (LAW _ rfl) C2 ?_
      intro wx hx
      have hx' := hx.tail (c := d + 1) (by omega)
      have hlen : n + 1 - (d + 1) = n - d := by omega
      rw [hlen] at hx'
      have := covers_any (S d) name more (some ⟨b, off + (d + 1), none⟩) (n - d) (cap - (d + 1)) _ wx hx'
      have e2 : lastOf (fun i => S (d + 1 + i)) (n - d) = if d = n then ByteArray.empty else S n := by
        unfold lastOf
        by_cases hd2 : d = n
        · rw [if_pos (by omega), if_pos hd2]
        · rw [if_neg (by omega), if_neg hd2]
          show S (d + 1 + (n - d - 1)) = S n
          rw [show d + 1 + (n - d - 1) = n by omega]
      rwa [e2] at this
end Go.Proofs.Qxb6619362a
