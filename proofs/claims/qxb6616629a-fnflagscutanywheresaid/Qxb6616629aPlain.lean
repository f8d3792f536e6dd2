/-
  The plain side of the two laws on packed flags: what a field at the head of a row of bytes is. No Go in sight.
-/
import GoSem.Core.World
namespace Go.Proofs.Qxb6616629a

/-- The first k seven-bit digits, the lowest first. -/
def val (Z : Nat → Nat) : Nat → Nat
  | 0 => 0
  | k + 1 => val Z k + Z k % 128 * 128 ^ k

/-- k digits from place t on, folded from the highest one down. -/
def hv (Z : Nat → Nat) : Nat → Nat → Nat
  | _, 0 => 0
  | t, k + 1 => Z t % 128 + 128 * hv Z (t + 1) k

theorem val_lt (Z : Nat → Nat) : ∀ k, val Z k < 128 ^ k
  | 0 => by simp [val]
  | k + 1 => by
    have h := val_lt Z k
    have hm : Z k % 128 ≤ 127 := by omega
    have h2 : Z k % 128 * 128 ^ k ≤ 127 * 128 ^ k := Nat.mul_le_mul_right _ hm
    show val Z k + Z k % 128 * 128 ^ k < 128 ^ (k + 1)
    rw [Nat.pow_succ]
    omega

theorem hv_lt (Z : Nat → Nat) : ∀ k t, hv Z t k < 128 ^ k
  | 0, t => by simp [hv]
  | k + 1, t => by
    have h := hv_lt Z k (t + 1)
    show Z t % 128 + 128 * hv Z (t + 1) k < 128 ^ (k + 1)
    rw [Nat.pow_succ]
    omega

/-- The same, where the highest digit is at most 1. -/
theorem hv_top (Z : Nat → Nat) : ∀ k t, Z (t + k) ≤ 1 → hv Z t (k + 1) < 2 * 128 ^ k
  | 0, t, h => by simp [hv]; simp at h; omega
  | k + 1, t, h => by
    have ih := hv_top Z k (t + 1) (by rw [show t + 1 + k = t + (k + 1) from by omega]; exact h)
    show Z t % 128 + 128 * hv Z (t + 1) (k + 1) < 2 * 128 ^ (k + 1)
    rw [Nat.pow_succ]
    omega

theorem hv_snoc (Z : Nat → Nat) : ∀ k t, hv Z t (k + 1) = hv Z t k + Z (t + k) % 128 * 128 ^ k
  | 0, t => by simp [hv]
  | k + 1, t => by
    have ih := hv_snoc Z k (t + 1)
    show Z t % 128 + 128 * hv Z (t + 1) (k + 1) = Z t % 128 + 128 * hv Z (t + 1) k + Z (t + (k + 1)) % 128 * 128 ^ (k + 1)
    rw [ih, show t + 1 + k = t + (k + 1) from by omega, Nat.pow_succ, Nat.mul_add]
    have : 128 * (Z (t + (k + 1)) % 128 * 128 ^ k) = Z (t + (k + 1)) % 128 * (128 ^ k * 128) := by
      rw [Nat.mul_comm 128, Nat.mul_assoc]
    omega

theorem hv_val (Z : Nat → Nat) : ∀ k, hv Z 0 k = val Z k
  | 0 => rfl
  | k + 1 => by rw [hv_snoc, hv_val Z k, Nat.zero_add]; rfl

/-- A varint of m + 1 bytes, of at most 64 bits, stands at the head of the n bytes Z; its value is v. -/
def IsVar (Z : Nat → Nat) (n v m : Nat) : Prop :=
  m ≤ 9 ∧ m < n ∧ (∀ i, i < m → 128 ≤ Z i) ∧ Z m < 128 ∧ (m = 9 → Z m ≤ 1) ∧ v = val Z (m + 1)

/-- A field: such a varint that is at most 1 << 62. -/
def IsField (Z : Nat → Nat) (n v m : Nat) : Prop := IsVar Z n v m ∧ v ≤ 4611686018427387904

def NoVar (Z : Nat → Nat) (n : Nat) : Prop := ∀ v m, ¬ IsVar Z n v m
def NoField (Z : Nat → Nat) (n : Nat) : Prop := ∀ v m, ¬ IsField Z n v m

theorem var_one {Z : Nat → Nat} {n v m v' m' : Nat} (h : IsVar Z n v m) (h' : IsVar Z n v' m') : v = v' ∧ m = m' := by
  obtain ⟨_, _, h1, h2, _, rfl⟩ := h
  obtain ⟨_, _, h1', h2', _, rfl⟩ := h'
  have : m = m' := by
    rcases Nat.lt_trichotomy m m' with h | h | h
    · have := h1' m h; omega
    · exact h
    · have := h1 m' h; omega
  subst this
  exact ⟨rfl, rfl⟩
theorem field_one {Z : Nat → Nat} {n v m v' m' : Nat} (h : IsField Z n v m) (h' : IsField Z n v' m') : v = v' ∧ m = m' := var_one h.1 h'.1

theorem noField_of_noVar {Z : Nat → Nat} {n : Nat} (h : NoVar Z n) : NoField Z n := fun v m hf => h v m hf.1
theorem noField_of_big {Z : Nat → Nat} {n v m : Nat} (h : IsVar Z n v m) (hb : ¬ v ≤ 4611686018427387904) : NoField Z n := fun v' m' hf => by
  obtain ⟨rfl, rfl⟩ := var_one h hf.1
  exact hb hf.2
theorem noField_zero (Z : Nat → Nat) : NoField Z 0 := fun v m h => by have := h.1.2.1; omega

/-- No byte ends it among the first k; they are all there are, or ten. -/
theorem noVar_end {Z : Nat → Nat} {n k : Nat} (h : ∀ i, i < k → 128 ≤ Z i) (hk : n ≤ k ∨ 10 ≤ k) : NoVar Z n := fun v m hv => by
  obtain ⟨h1, h2, _, h4, _, _⟩ := hv
  have := h m (by omega)
  omega
/-- The tenth is too large. -/
theorem noVar_nine {Z : Nat → Nat} {n : Nat} (h : ∀ i, i < 9 → 128 ≤ Z i) (h9 : 1 < Z 9) : NoVar Z n := fun v m hv => by
  obtain ⟨h1, h2, _, h4, h5, _⟩ := hv
  by_cases e : m = 9
  · have := h5 e; subst e; omega
  · have := h m (by omega); omega

/-- From place p on. -/
def shift (Z : Nat → Nat) (p i : Nat) : Nat := Z (p + i)
theorem shift_shift (Z : Nat → Nat) (p q : Nat) : shift (shift Z p) q = shift Z (p + q) := by
  funext i; simp [shift, Nat.add_assoc]
theorem shift_zero (Z : Nat → Nat) : shift Z 0 = Z := by funext i; simp [shift]

theorem val_u64 {Z : Nat → Nat} {n v m : Nat} (h : IsVar Z n v m) : v < 18446744073709551616 := by
  obtain ⟨h1, _, _, _, h5, rfl⟩ := h
  by_cases e : m = 9
  · subst e
    rw [← hv_val]
    have := hv_top Z 9 0 (by simpa using h5 rfl)
    simpa using this
  · have h := val_lt Z (m + 1)
    have h2 : 128 ^ (m + 1) ≤ 128 ^ 9 := Nat.pow_le_pow_right (by omega) (by omega)
    have h3 : (128 : Nat) ^ 9 < 18446744073709551616 := by decide
    omega
end Go.Proofs.Qxb6616629a
