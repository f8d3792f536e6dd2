/-
  Contract: zzModelField.
-/
import Derived.Test.Qxb6616629aReads
namespace Go.Proofs.Qxb6616629a
open Go.RowKit

/-- What the model's reading hands back. -/
def RetField (Z : Nat → Nat) (n : Nat) (e : Ending) : Prop :=
  (∃ v m, IsField Z n v m ∧ e = .returned (.tuple #[.int .u64 (v : Int), .int .i64 ((m : Int) + 1), .bool true])) ∨ (NoField Z n ∧ e = .returned (.tuple #[.int .u64 0, .int .i64 0, .bool false]))

theorem retField_no {Z : Nat → Nat} {n : Nat} (h : NoField Z n) : RetField Z n (.returned (.tuple #[.int .u64 0, .int .i64 0, .bool false])) := .inr ⟨h, rfl⟩

/-- The search's state: the first i bytes go on. -/
def AtByte (Z : Nat → Nat) (N p : Nat) (l j : Value) : Prop := ∃ i : Nat, p + i ≤ N ∧ i ≤ 10 ∧ l = .int .i64 (-1) ∧ j = .int .i64 ((p + i : Nat) : Int) ∧ ∀ t, t < i → 128 ≤ Z (p + t)
theorem AtByte.mk {Z : Nat → Nat} {N p i : Nat} {l j : Value} (h1 : p + i ≤ N) (h2 : i ≤ 10) (h3 : l = .int .i64 (-1)) (h4 : j = .int .i64 ((p + i : Nat) : Int)) (h5 : ∀ t, t < i → 128 ≤ Z (p + t)) : AtByte Z N p l j := ⟨i, h1, h2, h3, h4, h5⟩
theorem all_step {Z : Nat → Nat} {p i C : Nat} (h : ∀ t, t < i → 128 ≤ Z (p + t)) (hC : C = Z (p + i)) (hc : ¬ C < 128) : ∀ t, t < i + 1 → 128 ≤ Z (p + t) := fun t ht => by
  by_cases e : t = i
  · subst e; omega
  · exact h t (by omega)

/-- The fold's state: the digits from t on are folded. -/
def AtFold (Z : Nat → Nat) (p m : Nat) (v i : Value) : Prop := ∃ t : Nat, t ≤ m + 1 ∧ i = .int .i64 ((p : Int) + t - 1) ∧ v = .int .u64 (hv (shift Z p) t (m + 1 - t) : Int)
theorem AtFold.mk {Z : Nat → Nat} {p m t : Nat} {v i : Value} (h1 : t ≤ m + 1) (h2 : i = .int .i64 ((p : Int) + t - 1)) (h3 : v = .int .u64 (hv (shift Z p) t (m + 1 - t) : Int)) : AtFold Z p m v i := ⟨t, h1, h2, h3⟩

theorem or_up (V D : Nat) (h : V < 144115188075855872) : bits .or .u64 ((V : Int) * 128) ((D : Int) % 128) = ((V * 128 + D % 128 : Nat) : Int) := by
  have e1 : (V : Int) * 128 = ((V * 128 : Nat) : Int) := by omega
  have e2 : (D : Int) % 128 = ((D % 128 : Nat) : Int) := by omega
  have e3 : (2 : Nat) ^ 7 = 128 := by decide
  rw [e1, e2, u64_or_nat _ _ (by omega) (by omega), nat_join 7 (V * 128) (D % 128) (by rw [e3]; exact Nat.mul_mod_left _ _) (by rw [e3]; omega)]
theorem fold_step {Z : Nat → Nat} {p i s V D : Nat} {x : Int} (hV : V = hv (shift Z p) (s + 1) (i + 1 - (s + 1))) (hD : D = Z (p + s)) (hx : x = ((V * 128 + D % 128 : Nat) : Int)) (hs : s + 1 ≤ i + 1) :
    Value.int .u64 x = .int .u64 (hv (shift Z p) s (i + 1 - s) : Int) := by
  have e : i + 1 - s = (i + 1 - (s + 1)) + 1 := by omega
  rw [hx, e]
  show _ = Value.int .u64 ((shift Z p s % 128 + 128 * hv (shift Z p) (s + 1) (i + 1 - (s + 1)) : Nat) : Int)
  rw [← hV, hD]
  show _ = Value.int .u64 ((Z (p + s) % 128 + 128 * V : Nat) : Int)
  rw [show V * 128 + Z (p + s) % 128 = Z (p + s) % 128 + 128 * V from by omega]
theorem ret3_eq {x v : Value} {a b : Int} (h : a = b) : Ending.returned (.tuple #[v, .int .i64 a, x]) = .returned (.tuple #[v, .int .i64 b, x]) := by rw [h]

theorem fold_bd {Z : Nat → Nat} {m s : Nat} (hs : s + 1 ≤ m + 1) (hm : m ≤ 9) (h9 : m = 9 → Z m ≤ 1) : hv Z (s + 1) (m + 1 - (s + 1)) < 144115188075855872 := by
  by_cases e : s = m
  · subst e
    rw [Nat.sub_self]
    show 0 < _
    decide
  · obtain ⟨k, hk⟩ : ∃ k, m + 1 - (s + 1) = k + 1 := ⟨m - s - 1, by omega⟩
    rw [hk]
    by_cases e9 : m = 9
    · have h := hv_top Z k (s + 1) (by rw [show s + 1 + k = m from by omega]; exact h9 e9)
      have h2 : (128 : Nat) ^ k ≤ 128 ^ 8 := Nat.pow_le_pow_right (by omega) (by omega)
      have h3 : (128 : Nat) ^ 8 = 72057594037927936 := by decide
      omega
    · have h := hv_lt Z (k + 1) (s + 1)
      have h2 : (128 : Nat) ^ (k + 1) ≤ 128 ^ 8 := Nat.pow_le_pow_right (by omega) (by omega)
      have h3 : (128 : Nat) ^ 8 = 72057594037927936 := by decide
      omega

set_option maxRecDepth 100000 in
set_option maxHeartbeats 2000000 in
theorem model_any (a : Option Addr) (N c p : Nat) (Z : Nat → Nat) (hn : N ≤ 1048576) (hp : p ≤ N) (w : World) (h : IsB w a N Z) :
    Calls Try.prog 8 #[.slice a N c, .int .i64 p] w fun e w' => RetField (shift Z p) (N - p) e ∧ w' = w := by
  by_cases hpN : p = N
  · subst hpN
    go_enter Try.func8, Try.ntmps8
    go_wp2
    go_ret3
    exact ⟨retField_no (by rw [Nat.sub_self]; exact noField_zero _), rfl⟩
  have hlt0 : p < N := by omega
  rcases h with rfl | ⟨b, off, rfl, hc⟩
  · omega
  go_enter Try.func8, Try.ntmps8
  go_wp2
  go_loop [7, 8] (fun l j => AtByte Z N p l j) (fun _ j => N - (intOf j).toNat)
  case atStart => exact ⟨0, by omega, by omega, rfl, rfl, fun t ht => by omega⟩
  case round =>
    obtain ⟨i, hi, hi10, rfl, rfl, hall⟩ := hrel
    have HALL : Hid (∀ t, t < i → 128 ≤ Z (p + t)) := hall
    clear hall
    by_cases hend : p + i < N ∧ i < 10
    · obtain ⟨hlt, hlt10⟩ := hend
      obtain ⟨hcell, hz⟩ := hc (p + i) hlt
      obtain ⟨C, hC⟩ : ∃ C, C = Z (p + i) := ⟨_, rfl⟩
      rw [← hC] at hcell hz
      have HC : Hid (C = Z (p + i)) := hC
      clear hC
      by_cases hC128 : C < 128
      · have HCELLS : Hid (∀ i, i < N → w.cell? ⟨b, off + i, none⟩ = some (.int .u8 (Z i : Int)) ∧ Z i ≤ 255) := hc
        clear hc
        by_cases hbad : i = 9 ∧ 1 < C
        · obtain ⟨rfl, hC1⟩ := hbad
          go_wp2
          go_ret3
          exact ⟨retField_no (noField_of_noVar (noVar_nine HALL.out (by show 1 < Z (p + 9); rw [← HC.out]; exact hC1))), rfl⟩
        · have HVAR : Hid (IsVar (shift Z p) (N - p) (val (shift Z p) (i + 1)) i) := ⟨by omega, by omega, HALL.out, by show Z (p + i) < 128; rw [← HC.out]; exact hC128, fun e => by show Z (p + i) ≤ 1; rw [← HC.out]; omega, rfl⟩
          have HBOUND : Hid (i = 9 → Z (p + i) ≤ 1) := fun e => by rw [← HC.out]; omega
          go_wp2
          all_goals
            go_loop [9, 10] (fun v i' => AtFold Z p i v i') (fun _ i' => (intOf i' + 1 - p).toNat)
            case atStart => exact AtFold.mk (t := i + 1) (Nat.le_refl _) (by go_num) (by rw [Nat.sub_self]; rfl)
            case round =>
              obtain ⟨t, ht, rfl, rfl⟩ := hrel
              by_cases ht0 : t = 0
              · subst ht0
                rw [show ((p : Int) + ((0 : Nat) : Int) - 1) = (p : Int) - 1 from by omega]
                obtain ⟨V, hV⟩ : ∃ V, V = hv (shift Z p) 0 (i + 1 - 0) := ⟨_, rfl⟩
                rw [← hV]
                have HV : Hid (V = val (shift Z p) (i + 1)) := by rw [hV]; exact hv_val _ _
                clear hV
                by_cases hmax : V ≤ 4611686018427387904
                · go_wp2
                  go_ret3
                  exact ⟨.inl ⟨V, i, ⟨by rw [HV.out]; exact HVAR.out, hmax⟩, ret3_eq (by omega)⟩, rfl⟩
                · go_wp2
                  go_ret3
                  exact ⟨retField_no (noField_of_big HVAR.out (by rw [← HV.out]; exact hmax)), rfl⟩
              · obtain ⟨s, rfl⟩ : ∃ s, t = s + 1 := ⟨t - 1, by omega⟩
                rw [show ((p : Int) + ((s + 1 : Nat) : Int) - 1) = ((p + s : Nat) : Int) from by omega]
                obtain ⟨hcell2, hz2⟩ := HCELLS.out (p + s) (by omega)
                obtain ⟨D, hD⟩ : ∃ D, D = Z (p + s) := ⟨_, rfl⟩
                rw [← hD] at hcell2 hz2
                have HD : Hid (D = Z (p + s)) := hD
                clear hD
                have hmask := mask127 D hz2
                obtain ⟨V, hV⟩ : ∃ V, V = hv (shift Z p) (s + 1) (i + 1 - (s + 1)) := ⟨_, rfl⟩
                have hVb : V < 144115188075855872 := by rw [hV]; exact fold_bd (Z := shift Z p) (by omega) (by omega) HBOUND.out
                rw [← hV]
                have HV : Hid (V = hv (shift Z p) (s + 1) (i + 1 - (s + 1))) := hV
                clear hV
                have HOR : Hid (bits .or .u64 ((V : Int) * 128) ((D : Int) % 128) = ((V * 128 + D % 128 : Nat) : Int)) := or_up V D hVb
                go_wp2
                go_round
                case rel => exact AtFold.mk (t := s) (by omega) (by go_num) (fold_step HV.out HD.out HOR.out (by omega))
                case measure => simp [intOf]; omega
      · clear hc
        go_wp2
        go_round
        case rel => exact AtByte.mk (i := i + 1) (by omega) (by omega) rfl (by go_num) (all_step HALL.out HC.out hC128)
        case measure => simp [intOf]; omega
    · clear hc
      go_wp2
      all_goals
        go_ret3
        exact ⟨retField_no (noField_of_noVar (noVar_end (k := i) HALL.out (by omega))), rfl⟩
end Go.Proofs.Qxb6616629a
