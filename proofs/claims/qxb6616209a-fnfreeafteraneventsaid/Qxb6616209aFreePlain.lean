/-
  Plain facts for 'FnFreeAfterAnEvent': the model's order on strings; an increasing list has no string twice.
-/
import GoSem.Op.String
import Derived.WideShapes
namespace Go.Proofs.Qxb6616209a
open Go

theorem less_irrefl : ∀ x : List UInt8, Op.bytesLess x x = false
  | [] => rfl
  | a :: x => by simp [Op.bytesLess, less_irrefl x]

theorem less_trans : ∀ x y z : List UInt8, Op.bytesLess x y = true → Op.bytesLess y z = true → Op.bytesLess x z = true
  | _, [], _, h, _ => by simp [Op.bytesLess] at h
  | _, _ :: _, [], _, h => by simp [Op.bytesLess] at h
  | [], _ :: _, _ :: _, _, _ => by simp [Op.bytesLess]
  | a :: x, b :: y, c :: z, h1, h2 => by
    simp only [Op.bytesLess, Bool.or_eq_true, Bool.and_eq_true, decide_eq_true_eq, beq_iff_eq] at h1 h2 ⊢
    rcases h1 with h1 | ⟨rfl, h1⟩
    · rcases h2 with h2 | ⟨rfl, h2⟩
      · exact .inl (UInt8.lt_trans h1 h2)
      · exact .inl h1
    · rcases h2 with h2 | ⟨rfl, h2⟩
      · exact .inl h2
      · exact .inr ⟨rfl, less_trans x y z h1 h2⟩

theorem less_total : ∀ x y : List UInt8, Op.bytesLess x y = false → Op.bytesLess y x = false → x = y
  | [], [], _, _ => rfl
  | [], _ :: _, h, _ => by simp [Op.bytesLess] at h
  | _ :: _, [], _, h => by simp [Op.bytesLess] at h
  | a :: x, b :: y, h1, h2 => by
    simp only [Op.bytesLess, Bool.or_eq_false_iff, Bool.and_eq_false_iff, decide_eq_false_iff_not, beq_eq_false_iff_ne] at h1 h2
    have e : a = b := by
      apply UInt8.toNat_inj.1
      have k1 := h1.1
      have k2 := h2.1
      rw [UInt8.lt_iff_toNat_lt] at k1 k2
      omega
    subst e
    have := less_total x y (by rcases h1.2 with h | h; exact absurd rfl h; exact h) (by rcases h2.2 with h | h; exact absurd rfl h; exact h)
    rw [this]

/-- The first n strings of S stand in strictly increasing order. -/
def Incr (n : Nat) (S : Nat → ByteArray) : Prop := ∀ i, i + 1 < n → Op.bytesLess (S i).toList (S (i + 1)).toList = true

theorem incr_lt {n : Nat} {S : Nat → ByteArray} (h : Incr n S) : ∀ d i, i + d + 1 < n → Op.bytesLess (S i).toList (S (i + d + 1)).toList = true
  | 0, i, hi => h i hi
  | d + 1, i, hi => less_trans _ _ _ (incr_lt h d i (by omega)) (by have := h (i + d + 1) (by omega); simpa [Nat.add_assoc] using this)

theorem incr_less {n : Nat} {S : Nat → ByteArray} (h : Incr n S) {i j : Nat} (hij : i < j) (hj : j < n) : Op.bytesLess (S i).toList (S j).toList = true := by
  obtain ⟨d, rfl⟩ : ∃ d, j = i + d + 1 := ⟨j - i - 1, by omega⟩
  exact incr_lt h d i hj

theorem incr_ne {n : Nat} {S : Nat → ByteArray} (h : Incr n S) {i j : Nat} (hij : i ≠ j) (hi : i < n) (hj : j < n) : S i ≠ S j := by
  intro e
  rcases Nat.lt_or_gt_of_ne hij with k | k
  · have := incr_less h k hj; rw [e, less_irrefl] at this; cases this
  · have := incr_less h k hi; rw [e, less_irrefl] at this; cases this
end Go.Proofs.Qxb6616209a
