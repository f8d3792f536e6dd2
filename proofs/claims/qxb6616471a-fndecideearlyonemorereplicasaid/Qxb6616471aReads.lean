/-
  Contracts of the callees of 'FnDecideEarlyOneMoreReplica' that only read.
-/
import Derived.Test.Qxb6616471aRows
import Derived.Test.Qxb6616471aPlain
import Derived.WalkKit
import Derived.WalkSpells
import Derived.WalkLawsBesides
import Derived.Laws.NewBlocks
namespace Go.Proofs.Qxb6616471a
open Go.RowKit

/-- The slice's address is that of a row of n values V; of an empty slice nothing is known. -/
def IsRow (w : World) (a : Option Addr) (n : Nat) (V : Nat → Value) : Prop :=
  n = 0 ∨ ∃ b off, a = some ⟨b, off, none⟩ ∧ ∀ i, i < n → w.cell? ⟨b, off + i, none⟩ = some (V i)

def strV (S : Nat → ByteArray) (i : Nat) : Value := .string (S i)
def boolV (M : Nat → Bool) (i : Nat) : Value := .bool (M i)

def RetBool (e : Ending) : Prop := ∃ r, e = .returned (.bool r)
theorem RetBool.mk (r : Bool) : RetBool (.returned (.bool r)) := ⟨r, rfl⟩
def RetInt (e : Ending) : Prop := ∃ r, e = .returned (.int .i64 r)
theorem RetInt.mk (r : Int) : RetInt (.returned (.int .i64 r)) := ⟨r, rfl⟩

/-- b1Add: some number. -/
theorem add_any (x y : Int) (w : World) : Calls Try.prog 7 #[.int .i64 x, .int .i64 y] w fun e w' => RetInt e ∧ w' = w := by
  go_enter Try.func7, Try.ntmps7
  go_wp2
  all_goals (go_ret; exact ⟨RetInt.mk _, rfl⟩)

/-- b1StringsBytes: some number. -/
theorem stringsBytes_any (t : Int) (a : Option Addr) (n c : Nat) (S : Nat → ByteArray) (hn : n ≤ maxLen) (w : World) (h : IsRow w a n (strV S)) :
    Calls Try.prog 6 #[.int .i64 t, .slice a n c] w fun e w' => RetInt e ∧ w' = w := by
  unfold maxLen at hn
  rcases h with rfl | ⟨b, off, rfl, hc⟩
  · go_enter Try.func6, Try.ntmps6
    go_wp2
    refine wp_loop_rounds 1 ?_
    rw [rounds_succ]
    go_wp2
    go_ret
    exact ⟨RetInt.mk _, rfl⟩
  · replace hc : ∀ i, i < n → w.cell? ⟨b, off + i, none⟩ = some (.string (S i)) := hc
    go_enter Try.func6, Try.ntmps6
    go_wp2
    go_loop [0, 5] (fun t i => ∃ k : Nat, k ≤ n ∧ i = .int .i64 k ∧ ∃ r, t = .int .i64 r) (fun _ i => n - (intOf i).toNat)
    case atStart => exact ⟨0, Nat.zero_le _, rfl, _, rfl⟩
    case round =>
      obtain ⟨k, hk, rfl, r, rfl⟩ := hrel
      by_cases hlt : k < n
      · have hcell : w.cell? ⟨b, off + k, none⟩ = some (.string (S k)) := hc k hlt
        go_wp2_with (go_at_call 7; refine (add_any _ _ _).mono ?_; rintro e w' ⟨⟨r2, rfl⟩, rfl⟩)
        · go_ret
          exact ⟨RetInt.mk _, rfl⟩
        · go_round
          case rel => exact ⟨k + 1, by omega, by go_num, _, rfl⟩
          case measure => simp [intOf]; omega
      · go_wp2
        go_ret
        exact ⟨RetInt.mk _, rfl⟩

/-- zzBytes_..: some bool. -/
theorem zzBytes_any (a0 a1 a2 : Option Addr) (n0 c0 n1 c1 n2 c2 : Nat) (q k : Int) (x : ByteArray) (v : Bool) (S0 S1 : Nat → ByteArray) (h0 : n0 ≤ maxLen) (h1 : n1 ≤ maxLen) (w : World) (r0 : IsRow w a0 n0 (strV S0)) (r1 : IsRow w a1 n1 (strV S1)) :
    Calls Try.prog 5 #[.slice a0 n0 c0, .slice a1 n1 c1, .slice a2 n2 c2, .int .i64 q, .int .i64 k, .string x, .bool v] w fun e w' => RetBool e ∧ w' = w := by
  unfold maxLen at h0 h1
  go_enter Try.func5, Try.ntmps5
  go_wp2
  · go_ret
    exact ⟨RetBool.mk _, rfl⟩
  go_loop [15, 16] (fun t i => ∃ k : Nat, k ≤ n0 ∧ i = .int .i64 k ∧ ∃ r, t = .int .i64 r) (fun _ i => n0 - (intOf i).toNat)
  case atStart => exact ⟨0, Nat.zero_le _, rfl, _, rfl⟩
  case round =>
    obtain ⟨j, hk, rfl, r, rfl⟩ := hrel
    by_cases hlt : j < n0
    · rcases r0 with r0 | ⟨b, off, rfl, hc⟩
      · omega
      have hcell : w.cell? ⟨b, off + j, none⟩ = some (.string (S0 j)) := hc j hlt
      clear hc
      go_wp2
      · go_ret
        exact ⟨RetBool.mk _, rfl⟩
      · go_ret
        exact ⟨RetBool.mk _, rfl⟩
      · go_round
        case rel => exact ⟨j + 1, by omega, by go_num, _, rfl⟩
        case measure => simp [intOf]; omega
    · go_wp2
      · go_ret
        exact ⟨RetBool.mk _, rfl⟩
      · go_ret
        exact ⟨RetBool.mk _, rfl⟩
      go_loop [15, 17] (fun t i => ∃ k : Nat, k ≤ n1 ∧ i = .int .i64 k ∧ ∃ r, t = .int .i64 r) (fun _ i => n1 - (intOf i).toNat)
      case atStart => exact ⟨0, Nat.zero_le _, rfl, _, rfl⟩
      case round =>
        obtain ⟨j2, hk2, rfl, r2, rfl⟩ := hrel
        by_cases hlt2 : j2 < n1
        · rcases r1 with r1 | ⟨b, off, rfl, hc⟩
          · omega
          have hcell : w.cell? ⟨b, off + j2, none⟩ = some (.string (S1 j2)) := hc j2 hlt2
          clear hc
          go_wp2
          · go_ret
            exact ⟨RetBool.mk _, rfl⟩
          · go_ret
            exact ⟨RetBool.mk _, rfl⟩
          · go_round
            case rel => exact ⟨j2 + 1, by omega, by go_num, _, rfl⟩
            case measure => simp [intOf]; omega
        · go_wp2
          all_goals (go_ret; exact ⟨RetBool.mk _, rfl⟩)

theorem cnt_mono (p : ByteArray → Bool → Bool) (A : Nat → ByteArray) (M : Nat → Bool) : ∀ d n, cnt p A M n ≤ cnt p A M (n + d)
  | 0, _ => Nat.le_refl _
  | d + 1, n => Nat.le_trans (cnt_mono p A M d n) (by show _ ≤ cnt p A M (n + d) + _; omega)
theorem cnt_pos {p : ByteArray → Bool → Bool} {A : Nat → ByteArray} {M : Nat → Bool} {n k : Nat} (hk : k < n) (h : p (A k) (M k) = true) : 0 < cnt p A M n := by
  obtain ⟨d, rfl⟩ : ∃ d, n = k + 1 + d := ⟨n - k - 1, by omega⟩
  have := cnt_mono p A M d (k + 1)
  rw [cnt_yes h] at this
  omega

/-- slices.Index: the first place of s among the first n, or -1. -/
theorem index_any (a : Option Addr) (n c : Nat) (A : Nat → ByteArray) (M : Nat → Bool) (s : ByteArray) (hn : n ≤ maxLen) (w : World) (h : IsRow w a n (strV A)) :
    Calls Try.prog 29 #[.slice a n c, .string s] w fun e w' => (∃ r, e = .returned (.int .i64 r) ∧ (0 ≤ r ↔ 0 < cnt (isP s) A M n)) ∧ w' = w := by
  unfold maxLen at hn
  rcases h with rfl | ⟨b, off, rfl, hc⟩
  · go_enter Try.func29, Try.ntmps29
    go_wp2
    refine wp_loop_rounds 1 ?_
    rw [rounds_succ]
    go_wp2
    go_ret
    exact ⟨⟨_, rfl, by simp [cnt]⟩, rfl⟩
  · replace hc : ∀ i, i < n → w.cell? ⟨b, off + i, none⟩ = some (.string (A i)) := hc
    go_enter Try.func29, Try.ntmps29
    go_wp2
    go_loop [8] (fun i => ∃ k : Nat, k ≤ n ∧ i = .int .i64 k ∧ cnt (isP s) A M k = 0) (fun i => n - (intOf i).toNat)
    case atStart => exact ⟨0, Nat.zero_le _, rfl, rfl⟩
    case round =>
      obtain ⟨k, hk, rfl, hcnt⟩ := hrel
      have HC : Hid (cnt (isP s) A M k = 0) := hcnt
      clear hcnt
      by_cases hlt : k < n
      · have hcell := hc k hlt
        clear hc
        go_wp2
        · have hs : (s.toList == (A k).toList) = true := by assumption
          go_ret
          exact ⟨⟨_, rfl, iff_of_true (by omega) (cnt_pos hlt (by simpa [isP] using (beq_iff_eq.1 hs).symm))⟩, rfl⟩
        · have hs : (s.toList == (A k).toList) = false := by assumption
          go_round
          case rel => exact ⟨k + 1, by omega, by go_num, by rw [cnt_no]; exact HC.out; simpa [isP] using fun h => (beq_eq_false_iff_ne.1 hs) h.symm⟩
          case measure => simp [intOf]; omega
      · go_wp2
        go_ret
        obtain rfl : k = n := by omega
        exact ⟨⟨_, rfl, by have := HC.out; omega⟩, rfl⟩

/-- slices.Contains. -/
theorem contains_any (a : Option Addr) (n c : Nat) (A : Nat → ByteArray) (M : Nat → Bool) (s : ByteArray) (hn : n ≤ maxLen) (w : World) (h : IsRow w a n (strV A)) :
    Calls Try.prog 25 #[.slice a n c, .string s] w fun e w' => e = .returned (.bool (decide (0 < cnt (isP s) A M n))) ∧ w' = w := by
  go_enter Try.func25, Try.ntmps25
  go_wp2_with (go_at_call 29; refine (index_any a n c A M s hn _ h).mono ?_; rintro e w' ⟨⟨r, rfl, hr⟩, rfl⟩)
  go_ret
  exact ⟨rfl, rfl⟩

/-- The quorum that ZZdecideEarlyAtLeast hands over. -/
theorem quorum_any (a : Option Addr) (m c b : Nat) (q : Int) (w : World) (hq : w.cell? ⟨b, 0, none⟩ = some (.int .i64 q)) :
    Calls Try.prog 21 #[.slice a m c, .pointer (some ⟨b, 0, none⟩)] w fun e w' => e = .returned (.bool (decide (q ≤ m))) ∧ w' = w := by
  go_enter Try.func21, Try.ntmps21
  go_wp2
  go_ret
  exact ⟨rfl, rfl⟩
end Go.Proofs.Qxb6616471a
