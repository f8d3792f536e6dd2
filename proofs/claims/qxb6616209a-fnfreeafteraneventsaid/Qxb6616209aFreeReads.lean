/-
  Contracts of the callees of 'FnFreeAfterAnEvent' that only read the tokens.
-/
import Derived.Test.Qxb6616209aRows
import Derived.Test.Qxb6616209aFreePlain
import Derived.WalkKit
import Derived.WalkSpells
import Derived.Laws.NewBlocks
import Derived.Deep.QuietTactic
import Derived.BigQuiet
namespace Go.Proofs.Qxb6616209a
open Go.RowKit

/-- The slice's address is that of a row of n strings S; of an empty slice nothing is known. -/
def IsStrs (w : World) (a : Option Addr) (n : Nat) (S : Nat → ByteArray) : Prop :=
  n = 0 ∨ ∃ b off, a = some ⟨b, off, none⟩ ∧ ∀ i, i < n → w.cell? ⟨b, off + i, none⟩ = some (.string (S i))

/-- zzAddBytes: some number comes back. -/
theorem addBytes_any (t : Int) (a : Option Addr) (n c : Nat) (S : Nat → ByteArray) (hn : n ≤ maxLen) (w : World) (h : IsStrs w a n S) :
    Calls Try.prog 8 #[.int .i64 t, .slice a n c] w fun e w' => (∃ r, e = .returned (.int .i64 r)) ∧ w' = w := by
  unfold maxLen at hn
  rcases h with rfl | ⟨b, off, rfl, hc⟩
  · go_enter Try.func8, Try.ntmps8
    go_wp2
    refine wp_loop_rounds 1 ?_
    rw [rounds_succ]
    go_wp2
    go_ret
    exact ⟨⟨_, rfl⟩, rfl⟩
  · go_enter Try.func8, Try.ntmps8
    go_wp2
    go_loop [0, 5] (fun t i => ∃ k : Nat, k ≤ n ∧ i = .int .i64 k ∧ ∃ r, t = .int .i64 r) (fun _ i => n - (intOf i).toNat)
    case atStart => exact ⟨0, Nat.zero_le _, rfl, _, rfl⟩
    case round =>
      obtain ⟨k, hk, rfl, r, rfl⟩ := hrel
      by_cases hlt : k < n
      · have hcell := hc k hlt
        go_wp2
        · go_ret
          exact ⟨⟨_, rfl⟩, rfl⟩
        · go_round
          case rel => exact ⟨k + 1, by omega, by go_num, _, rfl⟩
          case measure => simp [intOf]; omega
      · go_wp2
        go_ret
        exact ⟨⟨_, rfl⟩, rfl⟩

/-- Some bool comes back. -/
def RetBool (e : Ending) : Prop := ∃ r, e = .returned (.bool r)
theorem RetBool.mk (r : Bool) : RetBool (.returned (.bool r)) := ⟨r, rfl⟩

/-- A bool comes back that says yes only where the strings are in order. -/
def RetIncr (n : Nat) (S : Nat → ByteArray) (e : Ending) : Prop := ∃ r, e = .returned (.bool r) ∧ (r = true → Incr n S)
theorem RetIncr.no (n : Nat) (S : Nat → ByteArray) : RetIncr n S (.returned (.bool false)) := ⟨false, rfl, fun h => by cases h⟩
theorem RetIncr.yes {n : Nat} {S : Nat → ByteArray} (h : Incr n S) : RetIncr n S (.returned (.bool true)) := ⟨true, rfl, fun _ => h⟩
theorem incr_step {k : Nat} {S : Nat → ByteArray} (h : Incr (k + 1) S) (hl : Op.bytesLess (S k).toList (S (k + 1)).toList = true) : Incr (k + 2) S := by
  intro i hi
  by_cases e : i = k
  · subst e; exact hl
  · exact h i (by omega)

/-- zzBytes_..: some bool comes back. -/
theorem zzBytes_any (x y : Int) (a : Option Addr) (n c : Nat) (S : Nat → ByteArray) (s : ByteArray) (v : Bool) (hn : n ≤ maxLen) (w : World) (h : IsStrs w a n S) :
    Calls Try.prog 7 #[.int .i64 x, .slice a n c, .int .i64 y, .string s, .bool v] w fun e w' => RetBool e ∧ w' = w := by
  unfold maxLen at hn
  by_cases hbig : 1048576 < n
  · clear h
    go_enter Try.func7, Try.ntmps7
    go_wp2
    go_ret
    exact ⟨RetBool.mk _, rfl⟩
  rcases h with rfl | ⟨b, off, rfl, hc⟩
  · go_enter Try.func7, Try.ntmps7
    go_wp2
    refine wp_loop_rounds 1 ?_
    rw [rounds_succ]
    go_wp2
    all_goals (go_ret; exact ⟨RetBool.mk _, rfl⟩)
  · go_enter Try.func7, Try.ntmps7
    go_wp2
    go_loop [11, 12] (fun t i => ∃ k : Nat, k ≤ n ∧ i = .int .i64 k ∧ ∃ r, t = .int .i64 r) (fun _ i => n - (intOf i).toNat)
    case atStart => exact ⟨0, Nat.zero_le _, rfl, _, rfl⟩
    case round =>
      obtain ⟨k, hk, rfl, r, rfl⟩ := hrel
      by_cases hlt : k < n
      · have hcell := hc k hlt
        go_wp2
        · go_ret
          exact ⟨RetBool.mk _, rfl⟩
        · go_ret
          exact ⟨RetBool.mk _, rfl⟩
        · go_round
          case rel => exact ⟨k + 1, by omega, by go_num, _, rfl⟩
          case measure => simp [intOf]; omega
      · go_wp2
        all_goals (go_ret; exact ⟨RetBool.mk _, rfl⟩)

/-- zzIncreasing: where it says yes, the tokens are in strictly increasing order. -/
theorem increasing_any (a : Option Addr) (n c : Nat) (S : Nat → ByteArray) (hn : n ≤ maxLen) (w : World) (h : IsStrs w a n S) :
    Calls Try.prog 9 #[.slice a n c] w fun e w' => RetIncr n S e ∧ ∃ q, w' = w.drewN q := by
  unfold maxLen at hn
  rcases h with rfl | ⟨b, off, rfl, hc⟩
  · go_enter Try.func9, Try.ntmps9
    go_wp2
    refine wp_loop_rounds 1 ?_
    rw [rounds_succ]
    go_wp2
    go_ret
    exact ⟨RetIncr.yes (fun i hi => by omega), 0, rfl⟩
  · go_enter Try.func9, Try.ntmps9
    go_wp2
    go_loopw [3] (fun i wr => ∃ k : Nat, 1 ≤ k ∧ (k ≤ n ∨ k = 1) ∧ i = .int .i64 k ∧ Incr k S ∧ ∃ q, wr = w.drewN q) (fun i _ => n - (intOf i).toNat)
    case atStart => exact ⟨1, Nat.le_refl _, .inr rfl, rfl, fun i hi => by omega, 0, rfl⟩
    case round =>
      obtain ⟨k, hk1, hk, rfl, hinc, q, rfl⟩ := hrel
      by_cases hlt : k < n
      · obtain ⟨j, rfl⟩ : ∃ j, k = j + 1 := ⟨k - 1, by omega⟩
        have hcell0 := hc j (by omega)
        have hcell1 := hc (j + 1) hlt
        have hb0 : (j : Int) < n := by omega
        have hb1 : (j : Int) + 1 < n := by omega
        go_wp2
        go_quiet (fail)
        go_wp2
        · go_ret
          exact ⟨RetIncr.no _ _, q + nq, World.drewN_drewN _ _ _⟩
        · have hl : Op.bytesLess (S j).toList (S (j + 1)).toList = true := by
            have : (!Op.bytesLess (S j).toList (S (j + 1)).toList) = false := by assumption
            simpa using this
          go_roundw
          case rel => exact ⟨j + 2, by omega, by omega, by go_num, incr_step hinc hl, _, rfl⟩
          case measure => simp [intOf]; omega
      · go_wp2
        go_ret
        exact ⟨RetIncr.yes (fun i hi => hinc i (by omega)), q, rfl⟩

/-- Where t stands among the first n strings: at pos, or nowhere. -/
def Found (n : Nat) (S : Nat → ByteArray) (t : ByteArray) (pos : Int) : Prop :=
  (∃ j : Nat, j < n ∧ S j = t ∧ pos = j) ∨ (pos = -1 ∧ ∀ j, j < n → S j ≠ t)

theorem same_of_toList {a b : ByteArray} (h : (a.toList == b.toList) = true) : a = b := by
  have h1 : a.toList = b.toList := by simpa using h
  rw [ByteArray.toList_eq, ByteArray.toList_eq] at h1
  exact WideShapes.bytes_inj h1

theorem found_yes {n k : Nat} {S : Nat → ByteArray} {t : ByteArray} (hk : k < n) (h : ((S k).toList == t.toList) = true) : Found n S t k :=
  .inl ⟨k, hk, same_of_toList h, rfl⟩

theorem found_no {n k : Nat} {S : Nat → ByteArray} {t : ByteArray} (hi : Incr n S) (hlo : ∀ j, j < k → Op.bytesLess (S j).toList t.toList = true) (hhi : ∀ j, k ≤ j → j < n → Op.bytesLess (S j).toList t.toList = false)
    (h : k < n → ((S k).toList == t.toList) = false) : Found n S t (-1) := by
  refine .inr ⟨rfl, fun j hj e => ?_⟩
  rcases Nat.lt_trichotomy j k with hk | hk | hk
  · have := hlo j hk
    rw [e, less_irrefl] at this
    cases this
  · subst hk
    have := h hj
    rw [e] at this
    simp at this
  · have h1 := incr_less hi hk hj
    have h2 := hhi k (Nat.le_refl _) (by omega)
    rw [e] at h1
    rw [h1] at h2
    cases h2

def RetFound (n : Nat) (S : Nat → ByteArray) (t : ByteArray) (e : Ending) : Prop := ∃ pos, e = .returned (.int .i64 pos) ∧ Found n S t pos
theorem RetFound.mk {n : Nat} {S : Nat → ByteArray} {t : ByteArray} {pos : Int} (h : Found n S t pos) : RetFound n S t (.returned (.int .i64 pos)) := ⟨pos, rfl, h⟩

/-- The state of the search: everything before lo is less than t, nothing from hi on is. -/
def Mid (n : Nat) (S : Nat → ByteArray) (t : ByteArray) (lo hi : Nat) : Prop :=
  lo ≤ hi ∧ hi ≤ n ∧ (∀ j, j < lo → Op.bytesLess (S j).toList t.toList = true) ∧ ∀ j, hi ≤ j → j < n → Op.bytesLess (S j).toList t.toList = false

theorem mid_up {n lo hi m : Nat} {S : Nat → ByteArray} {t : ByteArray} (hinc : Incr n S) (h : Mid n S t lo hi) (h2 : m < hi) (hm : Op.bytesLess (S m).toList t.toList = true) : Mid n S t (m + 1) hi := by
  obtain ⟨a, b, c, d⟩ := h
  refine ⟨by omega, b, fun j hj => ?_, d⟩
  by_cases e : j = m
  · subst e; exact hm
  · exact less_trans _ _ _ (incr_less hinc (show j < m by omega) (by omega)) hm

theorem mid_down {n lo hi m : Nat} {S : Nat → ByteArray} {t : ByteArray} (hinc : Incr n S) (h : Mid n S t lo hi) (h1 : lo ≤ m) (h2 : m < hi) (hm : Op.bytesLess (S m).toList t.toList = false) : Mid n S t lo m := by
  obtain ⟨a, b, c, d⟩ := h
  refine ⟨h1, by omega, c, fun j hj hjn => ?_⟩
  cases k : Op.bytesLess (S j).toList t.toList
  · rfl
  · exfalso
    by_cases e : m = j
    · subst e; rw [k] at hm; cases hm
    · have := less_trans _ _ _ (incr_less hinc (show m < j by omega) hjn) k
      rw [this] at hm
      cases hm

/-- zzFind. -/
theorem find_any (a : Option Addr) (n c : Nat) (S : Nat → ByteArray) (t : ByteArray) (hn : n ≤ maxLen) (w : World) (h : IsStrs w a n S) (hinc : Incr n S) :
    Calls Try.prog 13 #[.slice a n c, .string t] w fun e w' => RetFound n S t e ∧ w' = w := by
  unfold maxLen at hn
  rcases h with rfl | ⟨b, off, rfl, hc⟩
  · go_enter Try.func13, Try.ntmps13
    go_wp2
    refine wp_loop_rounds 1 ?_
    rw [rounds_succ]
    go_wp2
    go_ret
    exact ⟨RetFound.mk (.inr ⟨rfl, fun j hj => by omega⟩), rfl⟩
  · go_enter Try.func13, Try.ntmps13
    go_wp2
    go_loop [5, 6] (fun l h => ∃ lo hi : Nat, Mid n S t lo hi ∧ l = .int .i64 lo ∧ h = .int .i64 hi) (fun l h => (intOf h).toNat - (intOf l).toNat)
    case atStart => exact ⟨0, n, ⟨Nat.zero_le _, Nat.le_refl _, fun j hj => by omega, fun j hj hjn => by omega⟩, rfl, rfl⟩
    case round =>
      obtain ⟨lo, hi, hmid, rfl, rfl⟩ := hrel
      have hlh := hmid.1
      have hhn := hmid.2.1
      have HM : Hid (Mid n S t lo hi) := hmid
      have HI : Hid (Incr n S) := hinc
      clear hmid hinc
      by_cases hlt : lo < hi
      · have hcell := hc (lo + (hi - lo) / 2) (by omega)
        have e1 : ((lo : Int) + ((hi : Int) - lo) / 2) = ((lo + (hi - lo) / 2 : Nat) : Int) := by omega
        go_wp2
        · have hl : Op.bytesLess (S (lo + (hi - lo) / 2)).toList t.toList = true := by assumption
          go_round
          case rel => exact ⟨lo + (hi - lo) / 2 + 1, hi, mid_up HI.out HM.out (by omega) hl, by go_num, rfl⟩
          case measure => simp [intOf]; omega
        · have hl : Op.bytesLess (S (lo + (hi - lo) / 2)).toList t.toList = false := by assumption
          go_round
          case rel => exact ⟨lo, lo + (hi - lo) / 2, mid_down HI.out HM.out (by omega) (by omega) hl, rfl, by go_num⟩
          case measure => simp [intOf]; omega
      · obtain rfl : lo = hi := by omega
        by_cases hln : lo < n
        · have hcell := hc lo hln
          have hlz : (lo : Int) < n := by omega
          go_wp2
          · have hl : ((S lo).toList == t.toList) = true := by assumption
            go_ret
            exact ⟨RetFound.mk (found_yes hln hl), rfl⟩
          · have hl : ((S lo).toList == t.toList) = false := by assumption
            go_ret
            exact ⟨RetFound.mk (found_no HI.out HM.out.2.2.1 HM.out.2.2.2 (fun _ => hl)), rfl⟩
        · go_wp2
          go_ret
          exact ⟨RetFound.mk (found_no HI.out HM.out.2.2.1 HM.out.2.2.2 (fun h => absurd h hln)), rfl⟩
end Go.Proofs.Qxb6616209a
