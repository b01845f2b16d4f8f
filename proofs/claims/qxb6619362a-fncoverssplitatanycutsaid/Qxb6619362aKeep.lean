/-
  What stays while Covers is called again and again: the part in its block, the names of the list.
-/
import Derived.Test.Qxb6619362aOrder
import Derived.Deep.Strs
import Derived.ChangeOld
import Derived.OpenShut
namespace Go.Proofs.Qxb6619362a
open Go.ChangeShapes Go.WideShapes Go.ChangeAt Go.RowKit

structure Keep (w wi : World) (B : Nat) (after : ByteArray) (more : Bool) : Prop where
  bel : Below w.heap.size w wi
  lt : B < wi.heap.size
  c0 : wi.cell? ⟨B, 0, none⟩ = some (.string after)
  c1 : wi.cell? ⟨B, 1, none⟩ = some (.bool more)

theorem keep_start (w : World) (after : ByteArray) (more : Bool) : Keep w (w.alloc (pO after more)) w.heap.size after more :=
  ⟨(Below.refl _ _).alloc (Nat.le_refl _) _, by simp, by simp [go_sem], by simp [go_sem]⟩

theorem Keep.step {w wi wj : World} {B : Nat} {after : ByteArray} {more : Bool} (K : Keep w wi B after more) (h : Below wi.heap.size wi wj) : Keep w wj B after more :=
  ⟨K.bel.trans (h.mono K.bel.size), Nat.lt_of_lt_of_le K.lt h.size, by rw [h.cell (p := ⟨B, 0, none⟩) K.lt]; exact K.c0, by rw [h.cell (p := ⟨B, 1, none⟩) K.lt]; exact K.c1⟩

/-- Covers at the slice's last name alone. -/
theorem covers_one (after name last : ByteArray) (more : Bool) (b off cap : Nat) (w : World) (hb : b < w.heap.size) (hc : w.cell? ⟨b, off, none⟩ = some (.string last)) :
    Calls Try.prog 13 #[.agg #[.string after, .bool more], .slice (some ⟨b, off, none⟩) 1 cap, .string name] w fun e w' => e = .returned (.bool (cov after more last name)) ∧ Below w.heap.size w w' :=
  covers_some after name last more b off 0 cap w hb (by decide) hc

/-- The list that came in, as the walks want it. -/
theorem lst_open {H : Type} {enc : TypeId × Value → H} {W : World} {a : Option Addr} {len cap : Nat} {d : DataW H} {p : List MemPlace}
    (h : DataW.Trod enc Try.prog W 0 (fun _ => true) true 29 (.slice a len cap) d p) : ∃ S, Lst W a len S ∧ len ≤ cap ∧ cap ≤ maxLen := by
  obtain ⟨fuel, hf⟩ := h
  rcases Go.Deep.open_strs Try.underlying29 Try.underlying9 (by kernel_rfl) hf with ⟨hcs, _⟩ | ⟨x, l, c, m, Sx, hcs, _, hl, hm, hmm, _, hcell⟩
  · simp [Value.cells] at hcs
    obtain ⟨rfl, rfl, rfl⟩ := hcs
    exact ⟨fun _ => ByteArray.empty, ⟨by decide, Or.inl rfl⟩, by decide, by decide⟩
  · simp [Value.cells] at hcs
    obtain ⟨rfl, rfl, rfl⟩ := hcs
    refine ⟨Sx, ⟨by omega, ?_⟩, hl, hm⟩
    by_cases h0 : len = 0
    · exact Or.inl h0
    · right
      have hm' : m = cap := by simpa using hmm
      subst hm'
      obtain ⟨b, off, spot⟩ := x
      have hspot : spot = none := by simpa [Addr.add] using World.cell?_spot (hcell 0 (by omega)).1
      subst hspot
      have hlt : b < W.heap.size := by
        have := (hcell 0 (by omega)).1
        by_cases hb : b < W.heap.size
        · exact hb
        · exfalso
          unfold World.cell? at this
          have hn : W.heap[b]? = none := Array.getElem?_eq_none (by omega)
          simp [Addr.add, hn] at this
      exact ⟨b, off, rfl, hlt, fun i hi => ⟨by rw [← add_plain]; exact (hcell i (by omega)).1, (hcell i (by omega)).2⟩⟩
end Go.Proofs.Qxb6619362a
