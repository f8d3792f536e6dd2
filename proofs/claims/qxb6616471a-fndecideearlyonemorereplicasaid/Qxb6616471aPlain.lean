/-
  The plain side of 'FnDecideEarlyOneMoreReplica': counting answers, putting one more in at place k, and what the decision then is. No Go in sight.
-/
import GoSem.Core.World
namespace Go.Proofs.Qxb6616471a

/-- One more put in at place k. -/
def ins {α : Type} (f : Nat → α) (k : Nat) (x : α) (i : Nat) : α := if i < k then f i else if i = k then x else f (i - 1)

theorem ins_lt {α : Type} (f : Nat → α) {k : Nat} (x : α) {i : Nat} (h : i < k) : ins f k x i = f i := by simp [ins, h]
theorem ins_at {α : Type} (f : Nat → α) (k : Nat) (x : α) : ins f k x k = x := by simp [ins]
theorem ins_gt {α : Type} (f : Nat → α) {k : Nat} (x : α) {i : Nat} (h : k ≤ i) : ins f k x (i + 1) = f i := by
  have h1 : ¬ i + 1 < k := by omega
  have h2 : ¬ i + 1 = k := by omega
  simp [ins, h1, h2]

/-- Of the first n pairs those that p picks. -/
def cnt (p : ByteArray → Bool → Bool) (A : Nat → ByteArray) (M : Nat → Bool) : Nat → Nat
  | 0 => 0
  | n + 1 => cnt p A M n + if p (A n) (M n) = true then 1 else 0

theorem cnt_le (p : ByteArray → Bool → Bool) (A : Nat → ByteArray) (M : Nat → Bool) : ∀ n, cnt p A M n ≤ n
  | 0 => Nat.le_refl _
  | n + 1 => by have := cnt_le p A M n; unfold cnt; split <;> omega

theorem cnt_yes {p : ByteArray → Bool → Bool} {A : Nat → ByteArray} {M : Nat → Bool} {n : Nat} (h : p (A n) (M n) = true) : cnt p A M (n + 1) = cnt p A M n + 1 := by simp [cnt, h]
theorem cnt_no {p : ByteArray → Bool → Bool} {A : Nat → ByteArray} {M : Nat → Bool} {n : Nat} (h : p (A n) (M n) = false) : cnt p A M (n + 1) = cnt p A M n := by simp [cnt, h]

theorem cnt_ins_lt (p : ByteArray → Bool → Bool) (A : Nat → ByteArray) (M : Nat → Bool) (k : Nat) (x : ByteArray) (b : Bool) : ∀ n, n ≤ k → cnt p (ins A k x) (ins M k b) n = cnt p A M n
  | 0, _ => rfl
  | n + 1, h => by
    simp only [cnt]
    rw [cnt_ins_lt p A M k x b n (by omega), ins_lt A x (by omega), ins_lt M b (by omega)]

theorem cnt_ins (p : ByteArray → Bool → Bool) (A : Nat → ByteArray) (M : Nat → Bool) (k : Nat) (x : ByteArray) (b : Bool) : ∀ d, cnt p (ins A k x) (ins M k b) (k + d + 1) = cnt p A M (k + d) + if p x b = true then 1 else 0
  | 0 => by
    show cnt p (ins A k x) (ins M k b) k + (if p (ins A k x k) (ins M k b k) = true then 1 else 0) = _
    rw [cnt_ins_lt p A M k x b k (Nat.le_refl _), ins_at, ins_at]
    rfl
  | d + 1 => by
    have ih := cnt_ins p A M k x b d
    show cnt p (ins A k x) (ins M k b) (k + d + 1) + (if p (ins A k x (k + d + 1)) (ins M k b (k + d + 1)) = true then 1 else 0) = cnt p A M (k + d) + (if p (A (k + d)) (M (k + d)) = true then 1 else 0) + _
    rw [ih, ins_gt A x (by omega), ins_gt M b (by omega)]
    omega

def comS : ByteArray := ⟨#[99, 111, 109, 109, 105, 116, 116, 101, 100]⟩
def aboS : ByteArray := ⟨#[97, 98, 111, 114, 116, 101, 100]⟩
def undS : ByteArray := ⟨#[117, 110, 100, 101, 99, 105, 100, 101, 100]⟩

/-- Who holds the change; who could. -/
def holdP (a : ByteArray) (m : Bool) : Bool := a.toList == undS.toList && m
def possP (a : ByteArray) (_ : Bool) : Bool := a.toList == undS.toList || a.toList == []
def isP (s : ByteArray) (a : ByteArray) (_ : Bool) : Bool := a.toList == s.toList

/-- The decision: 0: Committed, 1: Aborted, 2: open. -/
def kind (n : Nat) (A : Nat → ByteArray) (M : Nat → Bool) (q : Int) : Nat :=
  if 0 < cnt (isP comS) A M n ∨ q ≤ cnt holdP A M n then 0 else if 0 < cnt (isP aboS) A M n ∨ ¬ q ≤ cnt possP A M n then 1 else 2

theorem kind_lt (n : Nat) (A : Nat → ByteArray) (M : Nat → Bool) (q : Int) : kind n A M q = 0 ∨ kind n A M q = 1 ∨ kind n A M q = 2 := by
  unfold kind
  split
  · exact .inl rfl
  · split
    · exact .inr (.inl rfl)
    · exact .inr (.inr rfl)

theorem com_com : (comS.toList == comS.toList) = true := by simp
theorem com_ne_abo : (comS.toList == aboS.toList) = false := by decide +kernel
theorem com_ne_und : (comS.toList == undS.toList) = false := by decide +kernel
theorem com_ne_nil : (comS.toList == ([] : List UInt8)) = false := by decide +kernel
theorem abo_ne_com : (aboS.toList == comS.toList) = false := by decide +kernel
theorem abo_ne_und : (aboS.toList == undS.toList) = false := by decide +kernel
theorem abo_ne_nil : (aboS.toList == ([] : List UInt8)) = false := by decide +kernel
theorem und_ne_com : (undS.toList == comS.toList) = false := by decide +kernel
theorem und_ne_abo : (undS.toList == aboS.toList) = false := by decide +kernel

/-- A committed one more decides Committed. -/
theorem kind_com (n k : Nat) (A : Nat → ByteArray) (M : Nat → Bool) (q : Int) (b : Bool) (hk : k ≤ n) : kind (n + 1) (ins A k comS) (ins M k b) q = 0 := by
  obtain ⟨d, rfl⟩ : ∃ d, n = k + d := ⟨n - k, by omega⟩
  unfold kind
  rw [if_pos]
  left
  rw [cnt_ins, if_pos (by simp [isP])]
  omega

/-- An aborted one more decides Aborted unless the rest had decided Committed. -/
theorem kind_abo (n k : Nat) (A : Nat → ByteArray) (M : Nat → Bool) (q : Int) (b : Bool) (hk : k ≤ n) : kind (n + 1) (ins A k aboS) (ins M k b) q = if kind n A M q = 0 then 0 else 1 := by
  obtain ⟨d, rfl⟩ : ∃ d, n = k + d := ⟨n - k, by omega⟩
  unfold kind
  have e1 : isP comS aboS b = false := by simp [isP, abo_ne_com]
  have e2 : holdP aboS b = false := by simp [holdP, abo_ne_und]
  have e3 : isP aboS aboS b = true := by simp [isP]
  rw [cnt_ins, cnt_ins, cnt_ins, e1, e2, e3]
  by_cases h : 0 < cnt (isP comS) A M (k + d) ∨ q ≤ cnt holdP A M (k + d)
  · rw [if_pos (by simpa using h), if_pos h, if_pos rfl]
  · rw [if_neg (by simpa using h), if_neg h, if_pos (.inl (by rw [if_pos rfl]; omega))]
    split
    · rfl
    · rfl

/-- One that holds the change undecided acts as a quorum one smaller. -/
theorem kind_und (n k : Nat) (A : Nat → ByteArray) (M : Nat → Bool) (q : Int) (hk : k ≤ n) : kind (n + 1) (ins A k undS) (ins M k true) q = kind n A M (q - 1) := by
  obtain ⟨d, rfl⟩ : ∃ d, n = k + d := ⟨n - k, by omega⟩
  unfold kind
  have e1 : isP comS undS true = false := by simp [isP, und_ne_com]
  have e2 : holdP undS true = true := by simp [holdP]
  have e3 : isP aboS undS true = false := by simp [isP, und_ne_abo]
  have e4 : possP undS true = true := by simp [possP]
  rw [cnt_ins, cnt_ins, cnt_ins, cnt_ins, e1, e2, e3, e4]
  simp only [if_true, Bool.false_eq_true, if_false, Nat.add_zero]
  have h1 : q ≤ ((cnt holdP A M (k + d) + 1 : Nat) : Int) ↔ q - 1 ≤ (cnt holdP A M (k + d) : Int) := by omega
  have h2 : q ≤ ((cnt possP A M (k + d) + 1 : Nat) : Int) ↔ q - 1 ≤ (cnt possP A M (k + d) : Int) := by omega
  simp only [h1, h2]
end Go.Proofs.Qxb6616471a
