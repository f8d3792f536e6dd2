/-
  The plain side of the law on cuts: reading field after field. No Go in sight.
-/
import Derived.Test.Qxb6616629aPlain
namespace Go.Proofs.Qxb6616629a

/-- From place p of the N bytes Z the fields' answers are fs, one behind the other; the next place is q. -/
def Reads (Z : Nat → Nat) (N : Nat) : List Bool → Nat → Nat → Prop
  | [], p, q => q = p
  | f :: fs, p, q => ∃ v m, IsField (shift Z p) (N - p) v m ∧ f = ((v : Int) == 1) ∧ Reads Z N fs (p + (m + 1)) q

theorem reads_snoc {Z : Nat → Nat} {N : Nat} : ∀ {fs : List Bool} {p q v m : Nat}, Reads Z N fs p q → IsField (shift Z q) (N - q) v m → Reads Z N (fs ++ [((v : Int) == 1)]) p (q + (m + 1))
  | [], p, q, v, m, h, hf => by
    obtain rfl : q = p := h
    exact ⟨v, m, hf, rfl, rfl⟩
  | f :: fs, p, q, v, m, h, hf => by
    obtain ⟨v', m', h1, h2, h3⟩ := h
    exact ⟨v', m', h1, h2, reads_snoc h3 hf⟩

theorem reads_len {Z : Nat → Nat} {N : Nat} : ∀ {fs : List Bool} {p q : Nat}, Reads Z N fs p q → p + fs.length ≤ q
  | [], p, q, h => by
    obtain rfl : q = p := h
    simp
  | f :: fs, p, q, h => by
    obtain ⟨v', m', h1, h2, h3⟩ := h
    have := reads_len h3
    simp
    omega

/-- Read to the end: all bytes are taken, or no field stands where the reading stopped. -/
def Full (Z : Nat → Nat) (N p : Nat) (fs : List Bool) (d f : Bool) : Prop :=
  ∃ q, Reads Z N fs p q ∧ ((q = N ∧ d = true ∧ f = false) ∨ (q < N ∧ NoField (shift Z q) (N - q) ∧ d = false ∧ f = true))

theorem full_nil {Z : Nat → Nat} {N p : Nat} {d f : Bool} (h : Full Z N p [] d f) : NoField (shift Z p) (N - p) ∧ ((p = N ∧ d = true ∧ f = false) ∨ (p < N ∧ d = false ∧ f = true)) := by
  obtain ⟨q, hq, h⟩ := h
  obtain rfl : q = p := hq
  rcases h with ⟨rfl, h1, h2⟩ | ⟨h0, h1, h2, h3⟩
  · refine ⟨?_, .inl ⟨rfl, h1, h2⟩⟩
    rw [Nat.sub_self]
    exact noField_zero _
  · exact ⟨h1, .inr ⟨h0, h2, h3⟩⟩
theorem full_cons {Z : Nat → Nat} {N p : Nat} {b d f : Bool} {fs : List Bool} (h : Full Z N p (b :: fs) d f) : ∃ v m, IsField (shift Z p) (N - p) v m ∧ b = ((v : Int) == 1) ∧ Full Z N (p + (m + 1)) fs d f := by
  obtain ⟨q, ⟨v, m, h1, h2, h3⟩, h⟩ := h
  exact ⟨v, m, h1, h2, q, h3, h⟩

/-- Nothing is left open. -/
theorem full_one {Z : Nat → Nat} {N : Nat} : ∀ {fs fs' : List Bool} {p : Nat} {d f d' f' : Bool}, Full Z N p fs d f → Full Z N p fs' d' f' → fs = fs' ∧ d = d' ∧ f = f'
  | [], [], p, d, f, d', f', h, h' => by
    obtain ⟨_, h⟩ := full_nil h
    obtain ⟨_, h'⟩ := full_nil h'
    rcases h with ⟨h0, rfl, rfl⟩ | ⟨h0, rfl, rfl⟩ <;> rcases h' with ⟨h0', rfl, rfl⟩ | ⟨h0', rfl, rfl⟩
    · exact ⟨rfl, rfl, rfl⟩
    · omega
    · omega
    · exact ⟨rfl, rfl, rfl⟩
  | [], b :: bs, p, d, f, d', f', h, h' => by
    obtain ⟨v, m, hf, _⟩ := full_cons h'
    exact absurd hf ((full_nil h).1 v m)
  | b :: bs, [], p, d, f, d', f', h, h' => by
    obtain ⟨v, m, hf, _⟩ := full_cons h
    exact absurd hf ((full_nil h').1 v m)
  | b :: bs, b' :: bs', p, d, f, d', f', h, h' => by
    obtain ⟨v, m, hf, rfl, h1⟩ := full_cons h
    obtain ⟨v', m', hf', rfl, h1'⟩ := full_cons h'
    obtain ⟨rfl, rfl⟩ := field_one hf hf'
    obtain ⟨rfl, h2, h3⟩ := full_one h1 h1'
    exact ⟨rfl, h2, h3⟩

/-- What is read first is a head of all that is read. -/
theorem full_head {Z : Nat → Nat} {N : Nat} : ∀ {fs fs' : List Bool} {p q : Nat} {d f : Bool}, Reads Z N fs p q → Full Z N p fs' d f → ∃ rest, fs' = fs ++ rest ∧ Full Z N q rest d f
  | [], fs', p, q, d, f, h, h' => by
    obtain rfl : q = p := h
    exact ⟨fs', rfl, h'⟩
  | b :: bs, [], p, q, d, f, h, h' => by
    obtain ⟨v, m, hf, _⟩ := h
    exact absurd hf ((full_nil h').1 v m)
  | b :: bs, b' :: bs', p, q, d, f, h, h' => by
    obtain ⟨v, m, hf, rfl, h1⟩ := h
    obtain ⟨v', m', hf', rfl, h1'⟩ := full_cons h'
    obtain ⟨rfl, rfl⟩ := field_one hf hf'
    obtain ⟨rest, rfl, h2⟩ := full_head h1 h1'
    exact ⟨rest, rfl, h2⟩

theorem field_less {Z : Nat → Nat} {n n' v m : Nat} (h : IsField Z n v m) (hm : m < n') : IsField Z n' v m :=
  ⟨⟨h.1.1, hm, h.1.2.2⟩, h.2⟩

theorem reads_cut {Z : Nat → Nat} {N k : Nat} : ∀ {fs : List Bool} {p q : Nat}, Reads Z N fs p q → q ≤ k → Reads Z k fs p q
  | [], p, q, h, _ => h
  | f :: fs, p, q, h, hk => by
    obtain ⟨v, m, h1, h2, h3⟩ := h
    have := reads_len h3
    exact ⟨v, m, field_less h1 (by omega), h2, reads_cut h3 hk⟩

/-- The head b[:k]. -/
theorem head_law {Z : Nat → Nat} {N k p : Nat} {fs fs' : List Bool} {d f : Bool} (hr : Reads Z N fs 0 p) (hpk : p ≤ k) (hkN : k ≤ N) (hstop : p < k → ∀ v m, IsField (shift Z p) (N - p) v m → k < p + (m + 1)) (h : Full Z k 0 fs' d f) :
    fs' = fs ∧ ((p = k ∧ d = true ∧ f = false) ∨ (p < k ∧ d = false ∧ f = true)) := by
  have hc := reads_cut hr hpk
  by_cases e : p = k
  · obtain ⟨h1, h2, h3⟩ := full_one h ⟨p, hc, .inl ⟨e, rfl, rfl⟩⟩
    exact ⟨h1, .inl ⟨e, h2, h3⟩⟩
  · have hlt : p < k := by omega
    have hno : NoField (shift Z p) (k - p) := fun v m hf => by
      have h1 := hf.1.2.1
      have := hstop hlt v m (field_less hf (by omega))
      omega
    obtain ⟨h1, h2, h3⟩ := full_one h ⟨p, hc, .inr ⟨hlt, hno, rfl, rfl⟩⟩
    exact ⟨h1, .inr ⟨hlt, h2, h3⟩⟩

theorem reads_shift {Z : Nat → Nat} {N k : Nat} : ∀ {fs : List Bool} {p q : Nat}, Reads (shift Z k) (N - k) fs p q → Reads Z N fs (k + p) (k + q)
  | [], p, q, h => by
    obtain rfl : q = p := h
    exact rfl
  | f :: fs, p, q, h => by
    obtain ⟨v, m, h1, h2, h3⟩ := h
    rw [shift_shift] at h1
    refine ⟨v, m, ?_, h2, ?_⟩
    · rw [show N - (k + p) = N - k - p from by omega]; exact h1
    · rw [show k + p + (m + 1) = k + (p + (m + 1)) from by omega]; exact reads_shift h3

/-- The tail b[k:]. -/
theorem tail_law {Z : Nat → Nat} {N k : Nat} {fs rest : List Bool} {d f d' f' : Bool} (hkN : k ≤ N) (h : Full (shift Z k) (N - k) 0 fs d f) (h' : Full Z N k rest d' f') : rest = fs ∧ d' = d ∧ f' = f := by
  refine full_one h' ?_
  obtain ⟨q, hr, hq⟩ := h
  refine ⟨k + q, reads_shift hr, ?_⟩
  rcases hq with ⟨h0, h1, h2⟩ | ⟨h0, h1, h2⟩
  · exact .inl ⟨by omega, h1, h2⟩
  · rw [shift_shift] at h1
    refine .inr ⟨by omega, ?_, h2⟩
    rw [show N - (k + q) = N - k - q from by omega]
    exact h1
end Go.Proofs.Qxb6616629a
