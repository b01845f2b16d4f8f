/-
  The program-laid bounds on lengths: each answers some bool and leaves the world as it was.
-/
import Derived.Test.Qxb6619362aCovers
namespace Go.Proofs.Qxb6619362a
open Go.ChangeShapes Go.WideShapes Go.ChangeAt Go.RowKit

/-- A slice of strings in memory: 'S i' is name number i. -/
def Lst (w : World) (a : Option Addr) (len : Nat) (S : Nat → ByteArray) : Prop :=
  len ≤ maxLen ∧ (len = 0 ∨ ∃ b off, a = some ⟨b, off, none⟩ ∧ b < w.heap.size ∧ ∀ i, i < len → w.cell? ⟨b, off + i, none⟩ = some (.string (S i)) ∧ (S i).size ≤ maxLen)

/-- The last name, the empty one where there is none. -/
def lastOf (S : Nat → ByteArray) (len : Nat) : ByteArray := if len = 0 then ByteArray.empty else S (len - 1)

/-- Covers. -/
theorem covers_any (after name : ByteArray) (more : Bool) (a : Option Addr) (len cap : Nat) (S : Nat → ByteArray) (w : World) (hL : Lst w a len S) :
    Calls Try.prog 13 #[.agg #[.string after, .bool more], .slice a len cap, .string name] w fun e w' => e = .returned (.bool (cov after more (lastOf S len) name)) ∧ Below w.heap.size w w' := by
  obtain ⟨hm, h0 | ⟨b, off, rfl, hb, hc⟩⟩ := hL
  · subst h0
    exact covers_none after name more a cap w
  · by_cases h0 : len = 0
    · subst h0; exact covers_none after name more _ cap w
    · obtain ⟨n, rfl⟩ : ∃ n, len = n + 1 := ⟨len - 1, by omega⟩
      have e : lastOf S (n + 1) = S n := by unfold lastOf; rw [if_neg (by omega)]; rfl
      rw [e]
      exact covers_some after name (S n) more b off n cap w hb hm (hc n (by omega)).1

theorem Lst.below {w w' : World} {a : Option Addr} {len : Nat} {S : Nat → ByteArray} (h : Lst w a len S) (hb : Below w.heap.size w w') : Lst w' a len S := by
  obtain ⟨hm, h0 | ⟨b, off, rfl, hlt, hc⟩⟩ := h
  · exact ⟨hm, Or.inl h0⟩
  · exact ⟨hm, Or.inr ⟨b, off, rfl, Nat.lt_of_lt_of_le hlt hb.size, fun i hi => by rw [hb.cell (p := ⟨b, off + i, none⟩) hlt]; exact hc i hi⟩⟩

/-- A bool is handed back, whichever. -/
def SomeBool (e : Ending) : Prop := ∃ bo, e = .returned (.bool bo)

set_option maxHeartbeats 1000000 in
/-- zzBytes_FnCoversAnInterval. -/
theorem bytes6 (after lo mid hi : ByteArray) (more : Bool) (a : Option Addr) (len cap : Nat) (S : Nat → ByteArray) (w : World) (hL : Lst w a len S) (z1 : after.size ≤ maxLen) (z2 : lo.size ≤ maxLen) (z3 : mid.size ≤ maxLen) (z4 : hi.size ≤ maxLen) :
    Calls Try.prog 12 #[.string after, .bool more, .slice a len cap, .string lo, .string mid, .string hi] w fun e w' => SomeBool e ∧ w' = w := by
  obtain ⟨hm, hL⟩ := hL
  unfold maxLen at hm z1 z2 z3 z4
  by_cases h1 : (1048576 : Int) < after.size
  · clear hL
    go_enter Try.func12, Try.ntmps12
    go_wp2
    go_ret
    exact ⟨⟨_, rfl⟩, rfl⟩
  by_cases h2 : (1048576 : Int) < len
  · clear hL
    go_enter Try.func12, Try.ntmps12
    go_wp2
    go_ret
    exact ⟨⟨_, rfl⟩, rfl⟩
  by_cases h3 : (1048576 : Int) < after.size + len
  · clear hL
    go_enter Try.func12, Try.ntmps12
    go_wp2
    go_ret
    exact ⟨⟨_, rfl⟩, rfl⟩
  rcases hL with h0 | ⟨b, off, rfl, hb, hc⟩
  · subst h0
    go_enter Try.func12, Try.ntmps12
    go_wp2
    go_loop [13, 14] (fun z i => ∃ u : Int, 0 ≤ u ∧ u ≤ 1048576 ∧ z = .int .i64 u ∧ i = .int .i64 0) (fun _ _ => 0)
    case atStart => exact ⟨(after.size : Int), by omega, by omega, by simp, rfl⟩
    case round =>
      obtain ⟨u, hu0, hu1, rfl, rfl⟩ := hrel
      go_wp2
      all_goals
        go_ret
        exact ⟨⟨_, rfl⟩, rfl⟩
  · have hc1 : ∀ i, i < len → w.cell? ⟨b, off + i, none⟩ = some (.string (S i)) := fun i hi => (hc i hi).1
    have hc2 : ∀ i, i < len → ((S i).size : Int) ≤ 9223372036854775807 := fun i hi => by have := (hc i hi).2; unfold maxLen at this; omega
    clear hc
    go_enter Try.func12, Try.ntmps12
    go_wp2
    go_loop [13, 14] (fun z i => ∃ (u : Int) (k : Nat), 0 ≤ u ∧ u ≤ 1048576 ∧ k ≤ len ∧ z = .int .i64 u ∧ i = .int .i64 k) (fun _ i => len - (intOf i).toNat)
    case atStart => exact ⟨_, 0, by omega, by omega, by omega, rfl, rfl⟩
    case round =>
      obtain ⟨u, k, hu0, hu1, hk, rfl, rfl⟩ := hrel
      by_cases hlt : k < len
      · have g1 := hc1 k hlt
        have g2 := hc2 k hlt
        clear hc1 hc2
        by_cases g3 : (1048576 : Int) < (S k).size
        · go_wp2
          go_ret
          exact ⟨⟨_, rfl⟩, rfl⟩
        by_cases g4 : (1048576 : Int) < u + (S k).size
        · go_wp2
          go_ret
          exact ⟨⟨_, rfl⟩, rfl⟩
        go_wp2
        go_round
        case rel => exact ⟨u + (S k).size, k + 1, by omega, by omega, by omega, rfl, by go_num⟩
        case measure => simp [intOf]; omega
      · clear hc1 hc2
        go_wp2
        all_goals
          go_ret
          exact ⟨⟨_, rfl⟩, rfl⟩

set_option maxHeartbeats 1000000 in
/-- zzBytes_FnCoversSplitAtAnyCut. -/
theorem bytes7 (after name : ByteArray) (cut : Int) (more : Bool) (a : Option Addr) (len cap : Nat) (S : Nat → ByteArray) (w : World) (hL : Lst w a len S) (z1 : after.size ≤ maxLen) (z2 : name.size ≤ maxLen) :
    Calls Try.prog 14 #[.string after, .bool more, .slice a len cap, .int .i64 cut, .string name] w fun e w' => SomeBool e ∧ w' = w := by
  obtain ⟨hm, hL⟩ := hL
  unfold maxLen at hm z1 z2
  by_cases h1 : (1048576 : Int) < after.size
  · clear hL
    go_enter Try.func14, Try.ntmps14
    go_wp2
    go_ret
    exact ⟨⟨_, rfl⟩, rfl⟩
  by_cases h2 : (1048576 : Int) < len
  · clear hL
    go_enter Try.func14, Try.ntmps14
    go_wp2
    go_ret
    exact ⟨⟨_, rfl⟩, rfl⟩
  by_cases h3 : (1048576 : Int) < after.size + len
  · clear hL
    go_enter Try.func14, Try.ntmps14
    go_wp2
    go_ret
    exact ⟨⟨_, rfl⟩, rfl⟩
  rcases hL with h0 | ⟨b, off, rfl, hb, hc⟩
  · subst h0
    go_enter Try.func14, Try.ntmps14
    go_wp2
    go_loop [11, 12] (fun z i => ∃ u : Int, 0 ≤ u ∧ u ≤ 1048576 ∧ z = .int .i64 u ∧ i = .int .i64 0) (fun _ _ => 0)
    case atStart => exact ⟨(after.size : Int), by omega, by omega, by simp, rfl⟩
    case round =>
      obtain ⟨u, hu0, hu1, rfl, rfl⟩ := hrel
      go_wp2
      all_goals
        go_ret
        exact ⟨⟨_, rfl⟩, rfl⟩
  · have hc1 : ∀ i, i < len → w.cell? ⟨b, off + i, none⟩ = some (.string (S i)) := fun i hi => (hc i hi).1
    have hc2 : ∀ i, i < len → ((S i).size : Int) ≤ 9223372036854775807 := fun i hi => by have := (hc i hi).2; unfold maxLen at this; omega
    clear hc
    go_enter Try.func14, Try.ntmps14
    go_wp2
    go_loop [11, 12] (fun z i => ∃ (u : Int) (k : Nat), 0 ≤ u ∧ u ≤ 1048576 ∧ k ≤ len ∧ z = .int .i64 u ∧ i = .int .i64 k) (fun _ i => len - (intOf i).toNat)
    case atStart => exact ⟨_, 0, by omega, by omega, by omega, rfl, rfl⟩
    case round =>
      obtain ⟨u, k, hu0, hu1, hk, rfl, rfl⟩ := hrel
      by_cases hlt : k < len
      · have g1 := hc1 k hlt
        have g2 := hc2 k hlt
        clear hc1 hc2
        by_cases g3 : (1048576 : Int) < (S k).size
        · go_wp2
          go_ret
          exact ⟨⟨_, rfl⟩, rfl⟩
        by_cases g4 : (1048576 : Int) < u + (S k).size
        · go_wp2
          go_ret
          exact ⟨⟨_, rfl⟩, rfl⟩
        go_wp2
        go_round
        case rel => exact ⟨u + (S k).size, k + 1, by omega, by omega, by omega, rfl, by go_num⟩
        case measure => simp [intOf]; omega
      · clear hc1 hc2
        go_wp2
        all_goals
          go_ret
          exact ⟨⟨_, rfl⟩, rfl⟩
end Go.Proofs.Qxb6619362a
