/-
  Contracts: uvarint and the model's reading of a field.
-/
import Derived.Test.Qxb6616629aRows
import Derived.Test.Qxb6616629aPlain
import Derived.WalkKit
import Derived.WalkSpells
import Derived.WalkLawsBesides
import Derived.Laws.NewBlocks
import Derived.Laws.BitsAllLaws
namespace Go.Proofs.Qxb6616629a
open Go.RowKit

/-- The slice's address is that of n bytes Z; of an empty slice nothing is known. -/
def IsB (w : World) (a : Option Addr) (n : Nat) (Z : Nat → Nat) : Prop :=
  n = 0 ∨ ∃ b off, a = some ⟨b, off, none⟩ ∧ ∀ i, i < n → w.cell? ⟨b, off + i, none⟩ = some (.int .u8 (Z i : Int)) ∧ Z i ≤ 255

/-- What uvarint hands back. -/
def RetVar (Z : Nat → Nat) (n : Nat) (e : Ending) : Prop :=
  (∃ v m, IsVar Z n v m ∧ e = .returned (.tuple #[.int .u64 (v : Int), .int .i64 ((m + 1 : Nat) : Int)])) ∨ (NoVar Z n ∧ e = .returned (.tuple #[.int .u64 0, .int .i64 0]))

theorem mask127 (c : Nat) (h : c ≤ 255) : bits .and .u8 (c : Int) 127 = (c : Int) % 128 := by
  have := u8_and_nat c 127 (by omega) (by omega)
  rw [nat_mask7] at this
  simpa using this

theorem pow_int (k : Nat) : (2 : Int) ^ (7 * k) = ((128 ^ k : Nat) : Int) := by
  have e : (2 : Nat) ^ (7 * k) = 128 ^ k := by rw [Nat.pow_mul]
  rw [← e]
  simp

theorem or_join (V d k : Nat) (hV : V < 128 ^ k) (h1 : V < 18446744073709551616) (h2 : d * 128 ^ k < 18446744073709551616) : bits .or .u64 (V : Int) ((d * 128 ^ k : Nat) : Int) = ((V + d * 128 ^ k : Nat) : Int) := by
  rw [u64_or_nat V (d * 128 ^ k) h1 h2]
  have e : (128 : Nat) ^ k = 2 ^ (7 * k) := by rw [Nat.pow_mul]
  rw [Nat.or_comm, nat_join (7 * k) (d * 128 ^ k) V (by rw [e]; exact Nat.mul_mod_left _ _) (by rw [← e]; exact hV), Nat.add_comm]

theorem pow_le9 {k : Nat} (h : k ≤ 9) : (128 : Nat) ^ k ≤ 9223372036854775808 := by
  have : (128 : Nat) ^ k ≤ 128 ^ 9 := Nat.pow_le_pow_right (by omega) h
  have e : (128 : Nat) ^ 9 = 9223372036854775808 := by decide
  omega

theorem or_step (k V C : Nat) (hV : V < 128 ^ k) (hk : k ≤ 8) : bits .or .u64 (V : Int) (IntKind.u64.wrap ((C : Int) % 128 * 2 ^ (7 * k))) = ((V + C % 128 * 128 ^ k : Nat) : Int) := by
  have h1 := pow_le9 (show k ≤ 9 by omega)
  have h2 : C % 128 * 128 ^ k < 18446744073709551616 := by
    have a : C % 128 * 128 ^ k ≤ 127 * 128 ^ k := Nat.mul_le_mul_right _ (by omega)
    have b := pow_le9 (show k + 1 ≤ 9 by omega)
    rw [Nat.pow_succ] at b
    omega
  have e : (C : Int) % 128 * 2 ^ (7 * k) = ((C % 128 * 128 ^ k : Nat) : Int) := by rw [pow_int]; simp
  rw [e, IntWalk.u64_in _ ⟨by omega, by omega⟩]
  exact or_join V (C % 128) k hV (by omega) h2

theorem or_nine (V C : Nat) (hV : V < 128 ^ 9) (hC : C ≤ 1) : bits .or .u64 (V : Int) ((C : Int) % 128 * 9223372036854775808) = ((V + C % 128 * 128 ^ 9 : Nat) : Int) := by
  have e9 : (128 : Nat) ^ 9 = 9223372036854775808 := by decide
  have e : (C : Int) % 128 * 9223372036854775808 = ((C % 128 * 128 ^ 9 : Nat) : Int) := by rw [e9]; omega
  rw [e]
  exact or_join V (C % 128) 9 hV (by omega) (by rw [e9]; omega)

theorem ret_var {Z : Nat → Nat} {n k : Nat} {x : Int} (hk : k ≤ 9) (hlt : k < n) (hall : ∀ j, j < k → 128 ≤ Z j) (hc : Z k < 128) (h9 : k = 9 → Z k ≤ 1) (hx : x = ((val Z k + Z k % 128 * 128 ^ k : Nat) : Int)) :
    RetVar Z n (.returned (.tuple #[.int .u64 x, .int .i64 ((k : Int) + 1)])) := by
  refine .inl ⟨val Z (k + 1), k, ⟨hk, hlt, hall, hc, h9, rfl⟩, ?_⟩
  rw [hx]
  congr 4

set_option maxRecDepth 100000 in
/-- uvarint. -/
theorem uvarint_any (a : Option Addr) (n c : Nat) (Z : Nat → Nat) (hn : n ≤ maxLen) (w : World) (h : IsB w a n Z) :
    Calls Try.prog 15 #[.slice a n c] w fun e w' => RetVar Z n e ∧ w' = w := by
  unfold maxLen at hn
  rcases h with rfl | ⟨b, off, rfl, hc⟩
  · go_enter Try.func15, Try.ntmps15
    go_wp2
    refine wp_loop_rounds 1 ?_
    rw [rounds_succ]
    go_wp2
    go_ret2
    exact ⟨.inr ⟨noVar_end (k := 0) (fun i hi => by omega) (.inl (Nat.le_refl _)), rfl⟩, rfl⟩
  · go_enter Try.func15, Try.ntmps15
    go_wp2
    go_loop [4, 9] (fun v i => ∃ k : Nat, k ≤ n ∧ k ≤ 10 ∧ i = .int .i64 k ∧ v = .int .u64 (val Z k : Int) ∧ ∀ j, j < k → 128 ≤ Z j) (fun _ i => n - (intOf i).toNat)
    case atStart => exact ⟨0, Nat.zero_le _, by omega, rfl, rfl, fun j hj => by omega⟩
    case round =>
      obtain ⟨k, hk, hk10, rfl, rfl, hall⟩ := hrel
      have HALL : Hid (∀ j, j < k → 128 ≤ Z j) := hall
      clear hall
      by_cases hlt : k < n
      · obtain ⟨hcell, hz⟩ := hc k hlt
        clear hc
        obtain ⟨C, hC⟩ : ∃ C, C = Z k := ⟨_, rfl⟩
        obtain ⟨V, hV⟩ : ∃ V, V = val Z k := ⟨_, rfl⟩
        rw [← hC] at hcell hz
        rw [← hV]
        have HC : Hid (C = Z k) := hC
        have HV : Hid (V = val Z k) := hV
        clear hC hV
        have hmask := mask127 C hz
        by_cases h10 : k = 10
        · subst h10
          go_wp2
          go_ret2
          exact ⟨.inr ⟨noVar_end HALL.out (.inr (Nat.le_refl _)), rfl⟩, rfl⟩
        · have h10' : ((k : Int) == 10) = false := by rw [beq_eq_false_iff_ne]; omega
          by_cases h9 : k = 9
          · subst h9
            by_cases hC1 : 1 < C
            · go_wp2
              go_ret2
              exact ⟨.inr ⟨noVar_nine HALL.out (by rw [← HC.out]; exact hC1), rfl⟩, rfl⟩
            · have hor := or_nine V C (by rw [HV.out]; exact val_lt Z 9) (by omega)
              have HOR : Hid (bits .or .u64 (V : Int) ((C : Int) % 128 * 9223372036854775808) = ((V + C % 128 * 128 ^ 9 : Nat) : Int)) := hor
              clear hor
              go_wp2
              go_ret2
              exact ⟨ret_var (k := 9) (by omega) hlt HALL.out (by rw [← HC.out]; omega) (fun _ => by rw [← HC.out]; omega) (by rw [← HC.out, ← HV.out]; exact HOR.out), rfl⟩
          · have h9' : ((k : Int) == 9) = false := by rw [beq_eq_false_iff_ne]; omega
            have hor := or_step k V C (by rw [HV.out]; exact val_lt Z k) (by omega)
            have HOR : Hid (bits .or .u64 (V : Int) (IntKind.u64.wrap ((C : Int) % 128 * 2 ^ (7 * k))) = ((V + C % 128 * 128 ^ k : Nat) : Int)) := hor
            clear hor
            by_cases hC128 : C < 128
            · go_wp2
              go_ret2
              exact ⟨ret_var (by omega) hlt HALL.out (by rw [← HC.out]; omega) (fun h => absurd h h9) (by rw [← HC.out, ← HV.out]; exact HOR.out), rfl⟩
            · go_wp2
              go_round
              case rel =>
                refine ⟨k + 1, by omega, by omega, by go_num, ?_, fun j hj => ?_⟩
                · show Value.int .u64 _ = Value.int .u64 ((val Z k + Z k % 128 * 128 ^ k : Nat) : Int)
                  rw [← HC.out, ← HV.out]
                  exact congrArg _ HOR.out
                · by_cases e : j = k
                  · subst e; rw [← HC.out]; omega
                  · exact HALL.out j (by omega)
              case measure => simp [intOf]; omega
      · go_wp2
        go_ret2
        exact ⟨.inr ⟨noVar_end HALL.out (by omega), rfl⟩, rfl⟩
end Go.Proofs.Qxb6616629a
