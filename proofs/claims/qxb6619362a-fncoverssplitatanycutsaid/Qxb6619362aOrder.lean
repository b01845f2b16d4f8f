/-
  Byte order on strings, and what it says of Covers: plain laws, no walk.
-/
import Derived.Test.Qxb6619362aBytes
namespace Go.Proofs.Qxb6619362a

theorem u8_tri (a b : UInt8) : a < b ∨ a = b ∨ b < a := by
  rcases Nat.lt_trichotomy a.toNat b.toNat with h | h | h
  · exact Or.inl (UInt8.lt_iff_toNat_lt.2 h)
  · exact Or.inr (Or.inl (UInt8.toNat_inj.1 h))
  · exact Or.inr (Or.inr (UInt8.lt_iff_toNat_lt.2 h))

theorem less_irrefl : ∀ a : List UInt8, Op.bytesLess a a = false
  | [] => rfl
  | x :: t => by
    have := less_irrefl t
    simp [Op.bytesLess, this]

theorem less_trans : ∀ a b c : List UInt8, Op.bytesLess a b = true → Op.bytesLess b c = true → Op.bytesLess a c = true
  | _, [], _, h, _ => by cases ‹List UInt8› <;> simp [Op.bytesLess] at h
  | _, _ :: _, [], _, h => by simp [Op.bytesLess] at h
  | [], _ :: _, _ :: _, _, _ => rfl
  | x :: a, y :: b, z :: c, h1, h2 => by
    simp only [Op.bytesLess, Bool.or_eq_true, decide_eq_true_eq, Bool.and_eq_true, beq_iff_eq] at h1 h2 ⊢
    rcases h1 with h1 | ⟨rfl, h1⟩
    · rcases h2 with h2 | ⟨rfl, h2⟩
      · left; rw [UInt8.lt_iff_toNat_lt] at *; omega
      · left; exact h1
    · rcases h2 with h2 | ⟨rfl, h2⟩
      · left; exact h2
      · right; exact ⟨rfl, less_trans a b c h1 h2⟩

theorem less_tri : ∀ a b : List UInt8, Op.bytesLess a b = true ∨ a = b ∨ Op.bytesLess b a = true
  | [], [] => Or.inr (Or.inl rfl)
  | [], _ :: _ => Or.inl rfl
  | _ :: _, [] => Or.inr (Or.inr rfl)
  | x :: a, y :: b => by
    simp only [Op.bytesLess, Bool.or_eq_true, decide_eq_true_eq, Bool.and_eq_true, beq_iff_eq, List.cons.injEq]
    rcases u8_tri x y with h | rfl | h
    · exact Or.inl (Or.inl h)
    · rcases less_tri a b with h | rfl | h
      · exact Or.inl (Or.inr ⟨rfl, h⟩)
      · exact Or.inr (Or.inl ⟨rfl, rfl⟩)
      · exact Or.inr (Or.inr (Or.inr ⟨rfl, h⟩))
    · exact Or.inr (Or.inr (Or.inl h))

theorem le_iff (a b : ByteArray) : le a b = true ↔ Op.bytesLess a.toList b.toList = true ∨ a.toList = b.toList := by
  unfold le; simp
theorem le_refl (a : ByteArray) : le a a = true := by rw [le_iff]; exact Or.inr rfl
theorem le_trans {a b c : ByteArray} (h1 : le a b = true) (h2 : le b c = true) : le a c = true := by
  rw [le_iff] at *
  rcases h1 with h1 | h1
  · rcases h2 with h2 | h2
    · exact Or.inl (less_trans _ _ _ h1 h2)
    · rw [← h2]; exact Or.inl h1
  · rw [h1]; exact h2
theorem le_total (a b : ByteArray) : le a b = true ∨ le b a = true := by
  rw [le_iff, le_iff]
  rcases less_tri a.toList b.toList with h | h | h
  · exact Or.inl (Or.inl h)
  · exact Or.inl (Or.inr h)
  · exact Or.inr (Or.inl h)
/-- 'b < a' is 'not a <= b'. -/
theorem not_le (a b : ByteArray) : le a b = !Op.bytesLess b.toList a.toList := by
  cases h : Op.bytesLess b.toList a.toList
  · rw [Bool.not_false, le_iff]
    rcases less_tri a.toList b.toList with h' | h' | h'
    · exact Or.inl h'
    · exact Or.inr h'
    · rw [h] at h'; cases h'
  · rw [Bool.not_true]
    cases h2 : le a b
    · rfl
    · rw [le_iff] at h2
      rcases h2 with h2 | h2
      · have := less_trans _ _ _ h h2; rw [less_irrefl] at this; cases this
      · rw [h2, less_irrefl] at h; cases h

/-! ### What is covered is an interval -/
theorem cov_mid {after last lo mid hi : ByteArray} {more : Bool} (h1 : le lo mid = true) (h2 : le mid hi = true) (hl : cov after more last lo = true) (hh : cov after more last hi = true) : cov after more last mid = true := by
  unfold cov at *
  simp only [Bool.and_eq_true, Bool.not_eq_true', Bool.or_eq_true] at *
  refine ⟨?_, ?_⟩
  · cases h : le mid after
    · rfl
    · have := le_trans h1 h; rw [hl.1] at this; cases this
  · rcases hh.2 with h | h
    · exact Or.inl h
    · exact Or.inr (le_trans h2 h)
theorem cov_last {after last : ByteArray} {more : Bool} (h : le last after = false) : cov after more last last = true := by
  unfold cov; rw [h, le_refl]; cases more <;> rfl
end Go.Proofs.Qxb6619362a
