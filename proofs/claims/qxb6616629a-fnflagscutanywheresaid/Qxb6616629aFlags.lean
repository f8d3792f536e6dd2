/-
  zzClone, NewReader, and the walk of 'FnFlagsReadAgainstModel'.
-/
import Derived.Test.Qxb6616629aReader
import Derived.Deep.QuietTactic
import Derived.BigQuiet
namespace Go.Proofs.Qxb6616629a
open Go.RowKit

def RetBool (e : Ending) : Prop := ∃ r, e = .returned (.bool r)
theorem RetBool.mk (r : Bool) : RetBool (.returned (.bool r)) := ⟨r, rfl⟩

theorem zzBytes3_any (a : Option Addr) (n c : Nat) (hn : n ≤ maxLen) (w : World) : Calls Try.prog 5 #[.slice a n c] w fun e w' => RetBool e ∧ w' = w := by
  unfold maxLen at hn
  go_enter Try.func5, Try.ntmps5
  go_wp2
  all_goals (go_ret; exact ⟨RetBool.mk _, rfl⟩)

theorem Try.info5 : (Try.prog.info? 5).map (fun i => (i.zero, i.size, i.bytes)) = some (some (.int .u8 0), 1, 1) := by kernel_rfl
theorem cell_lt {w : World} {b o : Nat} {v : Value} (h : w.cell? ⟨b, o, none⟩ = some v) : b < w.heap.size := World.block_lt_of_cell? w _ h
theorem isB_below {w w1 : World} {a : Option Addr} {n : Nat} {Z : Nat → Nat} (h : IsB w a n Z) (hb : Below w.heap.size w w1) : IsB w1 a n Z := by
  rcases h with rfl | ⟨b, off, rfl, hc⟩
  · exact .inl rfl
  · exact .inr ⟨b, off, rfl, fun i hi => ⟨(hb.cell (p := ⟨b, off + i, none⟩) (cell_lt (hc i hi).1)).trans (hc i hi).1, (hc i hi).2⟩⟩

set_option maxHeartbeats 1000000 in
theorem clone_some (x : Addr) (n c : Nat) (Z : Nat → Nat) (hn : n ≤ 1048576) (w : World) (h : IsB w (some x) n Z) :
    Calls Try.prog 6 #[.slice (some x) n c] w fun e w' => e = .returned (.slice (some ⟨w.heap.size, 0, none⟩) n n) ∧ IsB w' (some ⟨w.heap.size, 0, none⟩) n Z ∧ Below w.heap.size w w' := by
  obtain ⟨i0, hi, hz0, hz1, hz2⟩ := info_parts Try.info5
  have heq := fun w => Lib.run_eql_slice_nil (P := Try.prog) w 22 5 (some x) n c 0 0 Try.underlying22
  go_enter Try.func6, Try.ntmps6
  go_wp2_with (at_make; refine wpList_make_full _ rfl _ _ 22 rfl w.heap.size 5 i0 (.int .u8 0) 1 Try.underlying22 hi hz0 hz1 .i64 .i64 _ _ n rfl rfl (by omega) (by omega) (by rw [hz2]; omega) (by unfold maxLen; omega) (Nat.le_refl _) ?_; intro w1 hown hgrow)
  have hbel : Below w.heap.size w w1 := (Below.refl _ _).grown hgrow (Nat.le_refl _) (fun k hk => by cases hk)
  clear hgrow
  have hany : ∀ t, t < n → ∃ v, w1.cell? ⟨w.heap.size, t, none⟩ = some v := fun t ht => by
    rw [hown.cellAt t (by omega)]
    have : t < (madeCells (Value.int .u8 0).cells (n * 1)).toList.length := by simp [madeCells]; omega
    exact ⟨_, List.getElem?_eq_getElem this⟩
  have hfz : ∀ t, w1.frozen? ⟨w.heap.size, t, none⟩ = false := fun t => hown.frozenAt t
  clear hown
  go_loopw [4] (fun i wr => ∃ j : Nat, j ≤ n ∧ i = .int .i64 j ∧ (∀ t, t < j → wr.cell? ⟨w.heap.size, t, none⟩ = some (.int .u8 (Z t : Int))) ∧ (∀ t, t < n → ∃ v, wr.cell? ⟨w.heap.size, t, none⟩ = some v) ∧ (∀ t, wr.frozen? ⟨w.heap.size, t, none⟩ = false) ∧ Below w.heap.size w wr) (fun i _ => n - (intOf i).toNat)
  case atStart => exact ⟨0, Nat.zero_le _, rfl, fun t ht => by omega, hany, hfz, hbel⟩
  case round =>
    obtain ⟨j, hj, rfl, hdone, hany, hfz, hbel⟩ := hrel
    have HB : Hid (Below w.heap.size w wr) := hbel
    have HD : Hid (∀ t, t < j → wr.cell? ⟨w.heap.size, t, none⟩ = some (.int .u8 (Z t : Int))) := hdone
    have HA : Hid (∀ t, t < n → ∃ v, wr.cell? ⟨w.heap.size, t, none⟩ = some v) := hany
    have HF : Hid (∀ t, wr.frozen? ⟨w.heap.size, t, none⟩ = false) := hfz
    clear hbel hdone hany hfz
    by_cases hlt : j < n
    · rcases h with h | ⟨b, off, hx, hc⟩
      · omega
      cases hx
      have hcell : wr.cell? ⟨b, off + j, none⟩ = some (.int .u8 (Z j : Int)) := (HB.out.cell (p := ⟨b, off + j, none⟩) (cell_lt (hc j (by omega)).1)).trans (hc j (by omega)).1
      clear hc
      obtain ⟨v, hv⟩ := HA.out j hlt
      have hf := HF.out j
      go_wp2
      go_roundw
      case rel =>
        refine ⟨j + 1, by omega, by go_num, fun t ht => ?_, fun t ht => ?_, fun t => ?_, HB.out.setCell (Nat.le_refl _) _⟩
        · by_cases e : t = j
          · subst e; exact World.cell?_setCell_same _ _ _ hv
          · rw [World.cell?_setCell_other _ ⟨w.heap.size, j, none⟩ ⟨w.heap.size, t, none⟩ _ (fun h => e (by cases h; rfl))]; exact HD.out t (by omega)
        · by_cases e : t = j
          · subst e; exact ⟨_, World.cell?_setCell_same _ _ _ hv⟩
          · rw [World.cell?_setCell_other _ ⟨w.heap.size, j, none⟩ ⟨w.heap.size, t, none⟩ _ (fun h => e (by cases h; rfl))]; exact HA.out t ht
        · rw [World.frozen?_setCell]; exact HF.out t
      case measure => simp [intOf]; omega
    · obtain rfl : j = n := by omega
      go_wp2
      go_ret
      refine ⟨rfl, ?_, HB.out⟩
      rcases h with h | ⟨b, off, hx, hc⟩
      · exact .inl h
      · refine .inr ⟨w.heap.size, 0, rfl, fun t ht => ⟨?_, (hc t ht).2⟩⟩
        rw [Nat.zero_add]
        exact HD.out t ht

theorem clone_nil (n c : Nat) (w : World) : Calls Try.prog 6 #[.slice none n c] w fun e w' => e = .returned (.slice none 0 0) ∧ w' = w := by
  have heq := fun w => Lib.run_eql_slice_nil (P := Try.prog) w 22 5 none n c 0 0 Try.underlying22
  go_enter Try.func6, Try.ntmps6
  go_wp2
  go_ret
  exact ⟨rfl, rfl⟩

/-- zzClone. -/
theorem clone_any (a : Option Addr) (n c : Nat) (Z : Nat → Nat) (hn : n ≤ 1048576) (ha : a = none → n = 0) (w : World) (h : IsB w a n Z) :
    Calls Try.prog 6 #[.slice a n c] w fun e w' => ∃ a', e = .returned (.slice a' n n) ∧ (a' = none → n = 0) ∧ IsB w' a' n Z ∧ Below w.heap.size w w' := by
  cases a with
  | none =>
    obtain rfl := ha rfl
    refine (clone_nil 0 c w).mono ?_
    rintro e w' ⟨rfl, rfl⟩
    exact ⟨none, rfl, fun _ => rfl, .inl rfl, Below.refl _ _⟩
  | some x =>
    refine (clone_some x n c Z hn w h).mono ?_
    rintro e w' ⟨rfl, h1, h2⟩
    exact ⟨_, rfl, fun h => by (cases h), h1, h2⟩

/-- NewReader. -/
theorem newReader_any (a : Option Addr) (n c : Nat) (w : World) :
    Calls Try.prog 7 #[.slice a n c] w fun e w' => e = .returned (.agg #[.slice a n c, .bool true]) ∧ w' = w.alloc (.cells #[.slice a n c, .bool true] 26) := by
  go_enter Try.func7, Try.ntmps7
  go_wp2
  exact bodyPost_ret (v := .agg #[.slice a n c, .bool true]) (by simp [results, Try.results7, go_sem]) rfl ⟨rfl, rfl⟩
end Go.Proofs.Qxb6616629a
