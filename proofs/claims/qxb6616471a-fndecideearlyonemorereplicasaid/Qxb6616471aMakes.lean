/-
  Contracts of the callees of 'FnDecideEarlyOneMoreReplica' that make new slices.
-/
import Derived.Test.Qxb6616471aReads
import Derived.Maps.AppendAt
import Derived.Laws.OwnMore
import Derived.Lib.SliceRun
namespace Go.Proofs.Qxb6616471a
open Go.RowKit

theorem cell_lt {w : World} {b o : Nat} {v : Value} (h : w.cell? ⟨b, o, none⟩ = some v) : b < w.heap.size := World.block_lt_of_cell? w _ h
theorem isRow_below {w w1 : World} {a : Option Addr} {n : Nat} {V : Nat → Value} (h : IsRow w a n V) (hb : Below w.heap.size w w1) : IsRow w1 a n V := by
  rcases h with rfl | ⟨b, off, rfl, hc⟩
  · exact .inl rfl
  · exact .inr ⟨b, off, rfl, fun i hi => (hb.cell (p := ⟨b, off + i, none⟩) (cell_lt (hc i hi))).trans (hc i hi)⟩

/-- The first m values. -/
def vals (V : Nat → Value) (m : Nat) : List Value := (List.range m).map V
theorem vals_succ (V : Nat → Value) (m : Nat) : vals V (m + 1) = vals V m ++ [V m] := by simp [vals, List.range_succ]
theorem vals_at (V : Nat → Value) (m i : Nat) (h : i < m) : (vals V m)[i]? = some (V i) := by simp [vals, h]

theorem Try.info9 : (Try.prog.info? 9).map (fun i => (i.zero, i.size, i.bytes)) = some (some (.string ⟨#[]⟩), 1, 16) := by kernel_rfl
theorem Try.info4 : (Try.prog.info? 4).map (fun i => (i.zero, i.size, i.bytes)) = some (some (.bool false), 1, 1) := by kernel_rfl
theorem Try.info28 : (Try.prog.info? 28).map (fun i => (i.zero, i.size, i.bytes)) = some (some (.string ⟨#[]⟩), 1, 16) := by kernel_rfl

theorem isRow_own {w : World} {B e g n cap : Nat} {V : Nat → Value} (h : w.ownsRow B e 1 (.slice (some ⟨g, 0, none⟩) n cap) n (vals V n)) : IsRow w (some ⟨g, 0, none⟩) n V := by
  right
  refine ⟨g, 0, rfl, fun i hi => ?_⟩
  rw [Nat.zero_add, h.cellAt i (by omega), vals_at V n i hi]

theorem one_str (s : ByteArray) : ∀ u ∈ [Value.string s], u.oneCell' = true := by intro u hu; simp at hu; subst hu; rfl
theorem one_bool (s : Bool) : ∀ u ∈ [Value.bool s], u.oneCell' = true := by intro u hu; simp at hu; subst hu; rfl

set_option maxHeartbeats 1000000 in
/-- b1InsertStrings. -/
theorem insertStrings_any (a : Option Addr) (n c k : Nat) (S : Nat → ByteArray) (x : ByteArray) (hn : n ≤ 65536) (hk : k ≤ n) (w : World) (h : IsRow w a n (strV S)) :
    Calls Try.prog 8 #[.slice a n c, .int .i64 k, .string x] w fun e w' => e = .returned (.slice (some ⟨w.heap.size, 0, none⟩) (n + 1) (n + 1)) ∧ IsRow w' (some ⟨w.heap.size, 0, none⟩) (n + 1) (strV (ins S k x)) ∧ Below w.heap.size w w' := by
  obtain ⟨i0, hi, hz0, hz1, hz2⟩ := info_parts Try.info9
  go_enter Try.func8, Try.ntmps8
  go_wp2_with (at_make; refine wpList_make_own _ rfl _ _ 22 rfl w.heap.size 9 i0 (.string ⟨#[]⟩) 1 Try.underlying22 hi hz0 hz1 .i64 .i64 _ (n + 1) rfl rfl (by omega) (by rw [hz2]; omega) (by unfold maxLen; omega) (Nat.le_refl _) ?_; intro w1 hown hgrow)
  have hbel : Below w.heap.size w w1 := (Below.refl _ _).grown hgrow (Nat.le_refl _) (fun k hk => by cases hk)
  clear hgrow
  go_loopw [7, 8] (fun v i wr => ∃ j : Nat, j ≤ k ∧ i = .int .i64 j ∧ v = .slice (some ⟨w.heap.size, 0, none⟩) j (n + 1) ∧ wr.ownsRow w.heap.size 9 1 (.slice (some ⟨w.heap.size, 0, none⟩) j (n + 1)) j (vals (strV (ins S k x)) j) ∧ Below w.heap.size w wr) (fun _ i _ => k - (intOf i).toNat)
  case atStart => exact ⟨0, Nat.zero_le _, rfl, rfl, hown, hbel⟩
  case round =>
    obtain ⟨j, hj, rfl, rfl, hown, hbel⟩ := hrel
    have hsz := hbel.size
    have HB : Hid (Below w.heap.size w wr) := hbel
    have HO : Hid (wr.ownsRow w.heap.size 9 1 (.slice (some ⟨w.heap.size, 0, none⟩) j (n + 1)) j (vals (strV (ins S k x)) j)) := hown
    clear hbel hown
    by_cases hlt : j < k
    · rcases h with h | ⟨b, off, rfl, hc⟩
      · omega
      have hcell : wr.cell? ⟨b, off + j, none⟩ = some (.string (S j)) := (HB.out.cell (p := ⟨b, off + j, none⟩) (cell_lt (hc j (by omega)))).trans (hc j (by omega))
      clear hc
      go_wp2_with (at_builtin; refine wpList_append_fits _ rfl _ _ 22 rfl w.heap.size 9 i0 1 Try.underlying22 hi hz1 w.heap.size j (n + 1) _ rfl (HO.out.alloc _) ⟨wr.heap.size, 0, none⟩ 1 1 [.string (S j)] rfl rfl (cell_one_new _ _ _) (one_str _) (by omega) ?_; intro w2 hown2 hgrow2)
      have hb2 : Below w.heap.size w w2 := (HB.out.alloc hsz _).grown hgrow2 (by simp; omega) (fun k hk => by cases hk; exact Nat.le_refl _)
      have ho2 : w2.ownsRow w.heap.size 9 1 (.slice (some ⟨w.heap.size, 0, none⟩) (j + 1) (n + 1)) (j + 1) (vals (strV (ins S k x)) (j + 1)) := by
        rw [vals_succ]; unfold strV; rw [ins_lt S x hlt]; exact hown2
      clear hown2 hgrow2
      go_wp2
      go_roundw
      case rel => exact ⟨j + 1, by omega, by go_num, rfl, ho2, hb2⟩
      case measure => simp [intOf]; omega
    · obtain rfl : j = k := by omega
      go_wp2_with (at_builtin; refine wpList_append_fits _ rfl (.tmp 26) (.tmp 28) 22 rfl w.heap.size 9 i0 1 Try.underlying22 hi hz1 w.heap.size j (n + 1) _ rfl (HO.out.alloc _) ⟨wr.heap.size, 0, none⟩ 1 1 [.string x] rfl rfl (cell_one_new _ _ _) (one_str _) (by omega) ?_; intro w2 hown2 hgrow2)
      have hb2 : Below w.heap.size w w2 := (HB.out.alloc hsz _).grown hgrow2 (by simp; omega) (fun k hk => by cases hk; exact Nat.le_refl _)
      have ho2 : w2.ownsRow w.heap.size 9 1 (.slice (some ⟨w.heap.size, 0, none⟩) (j + 1) (n + 1)) (j + 1) (vals (strV (ins S j x)) (j + 1)) := by
        rw [vals_succ]; unfold strV; rw [ins_at S j x]; exact hown2
      clear hown2 hgrow2 HB HO
      go_loopw [7, 9] (fun v i wr => ∃ m : Nat, j ≤ m ∧ m ≤ n ∧ i = .int .i64 m ∧ v = .slice (some ⟨w.heap.size, 0, none⟩) (m + 1) (n + 1) ∧ wr.ownsRow w.heap.size 9 1 (.slice (some ⟨w.heap.size, 0, none⟩) (m + 1) (n + 1)) (m + 1) (vals (strV (ins S j x)) (m + 1)) ∧ Below w.heap.size w wr) (fun _ i _ => n - (intOf i).toNat)
      case atStart => exact ⟨j, Nat.le_refl _, hk, rfl, rfl, ho2, hb2⟩
      case round =>
        obtain ⟨m, hjm, hmn, rfl, rfl, hown, hbel⟩ := hrel
        have hsz := hbel.size
        have HB : Hid (Below w.heap.size w wr) := hbel
        have HO : Hid (wr.ownsRow w.heap.size 9 1 (.slice (some ⟨w.heap.size, 0, none⟩) (m + 1) (n + 1)) (m + 1) (vals (strV (ins S j x)) (m + 1))) := hown
        clear hbel hown hb2 ho2
        by_cases hlt2 : m < n
        · rcases h with h | ⟨b, off, rfl, hc⟩
          · omega
          have hcell : wr.cell? ⟨b, off + m, none⟩ = some (.string (S m)) := (HB.out.cell (p := ⟨b, off + m, none⟩) (cell_lt (hc m (by omega)))).trans (hc m (by omega))
          clear hc
          go_wp2_with (at_builtin; refine wpList_append_fits _ rfl _ _ 22 rfl w.heap.size 9 i0 1 Try.underlying22 hi hz1 w.heap.size (m + 1) (n + 1) _ rfl (HO.out.alloc _) ⟨wr.heap.size, 0, none⟩ 1 1 [.string (S m)] rfl rfl (cell_one_new _ _ _) (one_str _) (by omega) ?_; intro w3 hown2 hgrow2)
          have hb3 : Below w.heap.size w w3 := (HB.out.alloc hsz _).grown hgrow2 (by simp; omega) (fun k hk => by cases hk; exact Nat.le_refl _)
          have ho3 : w3.ownsRow w.heap.size 9 1 (.slice (some ⟨w.heap.size, 0, none⟩) (m + 1 + 1) (n + 1)) (m + 1 + 1) (vals (strV (ins S j x)) (m + 1 + 1)) := by
            rw [vals_succ _ (m + 1)]; unfold strV; rw [ins_gt S x hjm]; exact hown2
          clear hown2 hgrow2
          go_wp2
          go_roundw
          case rel => exact ⟨m + 1, by omega, by omega, by go_num, rfl, ho3, hb3⟩
          case measure => simp [intOf]; omega
        · obtain rfl : m = n := by omega
          go_wp2
          go_ret
          exact ⟨rfl, isRow_own HO.out, HB.out⟩
set_option maxHeartbeats 1000000 in
/-- b1InsertBools. -/
theorem insertBools_any (a : Option Addr) (n c k : Nat) (S : Nat → Bool) (x : Bool) (hn : n ≤ 65536) (hk : k ≤ n) (w : World) (h : IsRow w a n (boolV S)) :
    Calls Try.prog 11 #[.slice a n c, .int .i64 k, .bool x] w fun e w' => e = .returned (.slice (some ⟨w.heap.size, 0, none⟩) (n + 1) (n + 1)) ∧ IsRow w' (some ⟨w.heap.size, 0, none⟩) (n + 1) (boolV (ins S k x)) ∧ Below w.heap.size w w' := by
  obtain ⟨i0, hi, hz0, hz1, hz2⟩ := info_parts Try.info4
  go_enter Try.func11, Try.ntmps11
  go_wp2_with (at_make; refine wpList_make_own _ rfl _ _ 23 rfl w.heap.size 4 i0 (.bool false) 1 Try.underlying23 hi hz0 hz1 .i64 .i64 _ (n + 1) rfl rfl (by omega) (by rw [hz2]; omega) (by unfold maxLen; omega) (Nat.le_refl _) ?_; intro w1 hown hgrow)
  have hbel : Below w.heap.size w w1 := (Below.refl _ _).grown hgrow (Nat.le_refl _) (fun k hk => by cases hk)
  clear hgrow
  go_loopw [7, 8] (fun v i wr => ∃ j : Nat, j ≤ k ∧ i = .int .i64 j ∧ v = .slice (some ⟨w.heap.size, 0, none⟩) j (n + 1) ∧ wr.ownsRow w.heap.size 4 1 (.slice (some ⟨w.heap.size, 0, none⟩) j (n + 1)) j (vals (boolV (ins S k x)) j) ∧ Below w.heap.size w wr) (fun _ i _ => k - (intOf i).toNat)
  case atStart => exact ⟨0, Nat.zero_le _, rfl, rfl, hown, hbel⟩
  case round =>
    obtain ⟨j, hj, rfl, rfl, hown, hbel⟩ := hrel
    have hsz := hbel.size
    have HB : Hid (Below w.heap.size w wr) := hbel
    have HO : Hid (wr.ownsRow w.heap.size 4 1 (.slice (some ⟨w.heap.size, 0, none⟩) j (n + 1)) j (vals (boolV (ins S k x)) j)) := hown
    clear hbel hown
    by_cases hlt : j < k
    · rcases h with h | ⟨b, off, rfl, hc⟩
      · omega
      have hcell : wr.cell? ⟨b, off + j, none⟩ = some (.bool (S j)) := (HB.out.cell (p := ⟨b, off + j, none⟩) (cell_lt (hc j (by omega)))).trans (hc j (by omega))
      clear hc
      go_wp2_with (at_builtin; refine wpList_append_fits _ rfl _ _ 23 rfl w.heap.size 4 i0 1 Try.underlying23 hi hz1 w.heap.size j (n + 1) _ rfl (HO.out.alloc _) ⟨wr.heap.size, 0, none⟩ 1 1 [.bool (S j)] rfl rfl (cell_one_new _ _ _) (one_bool _) (by omega) ?_; intro w2 hown2 hgrow2)
      have hb2 : Below w.heap.size w w2 := (HB.out.alloc hsz _).grown hgrow2 (by simp; omega) (fun k hk => by cases hk; exact Nat.le_refl _)
      have ho2 : w2.ownsRow w.heap.size 4 1 (.slice (some ⟨w.heap.size, 0, none⟩) (j + 1) (n + 1)) (j + 1) (vals (boolV (ins S k x)) (j + 1)) := by
        rw [vals_succ]; unfold boolV; rw [ins_lt S x hlt]; exact hown2
      clear hown2 hgrow2
      go_wp2
      go_roundw
      case rel => exact ⟨j + 1, by omega, by go_num, rfl, ho2, hb2⟩
      case measure => simp [intOf]; omega
    · obtain rfl : j = k := by omega
      go_wp2_with (at_builtin; refine wpList_append_fits _ rfl (.tmp 26) (.tmp 28) 23 rfl w.heap.size 4 i0 1 Try.underlying23 hi hz1 w.heap.size j (n + 1) _ rfl (HO.out.alloc _) ⟨wr.heap.size, 0, none⟩ 1 1 [.bool x] rfl rfl (cell_one_new _ _ _) (one_bool _) (by omega) ?_; intro w2 hown2 hgrow2)
      have hb2 : Below w.heap.size w w2 := (HB.out.alloc hsz _).grown hgrow2 (by simp; omega) (fun k hk => by cases hk; exact Nat.le_refl _)
      have ho2 : w2.ownsRow w.heap.size 4 1 (.slice (some ⟨w.heap.size, 0, none⟩) (j + 1) (n + 1)) (j + 1) (vals (boolV (ins S j x)) (j + 1)) := by
        rw [vals_succ]; unfold boolV; rw [ins_at S j x]; exact hown2
      clear hown2 hgrow2 HB HO
      go_loopw [7, 9] (fun v i wr => ∃ m : Nat, j ≤ m ∧ m ≤ n ∧ i = .int .i64 m ∧ v = .slice (some ⟨w.heap.size, 0, none⟩) (m + 1) (n + 1) ∧ wr.ownsRow w.heap.size 4 1 (.slice (some ⟨w.heap.size, 0, none⟩) (m + 1) (n + 1)) (m + 1) (vals (boolV (ins S j x)) (m + 1)) ∧ Below w.heap.size w wr) (fun _ i _ => n - (intOf i).toNat)
      case atStart => exact ⟨j, Nat.le_refl _, hk, rfl, rfl, ho2, hb2⟩
      case round =>
        obtain ⟨m, hjm, hmn, rfl, rfl, hown, hbel⟩ := hrel
        have hsz := hbel.size
        have HB : Hid (Below w.heap.size w wr) := hbel
        have HO : Hid (wr.ownsRow w.heap.size 4 1 (.slice (some ⟨w.heap.size, 0, none⟩) (m + 1) (n + 1)) (m + 1) (vals (boolV (ins S j x)) (m + 1))) := hown
        clear hbel hown hb2 ho2
        by_cases hlt2 : m < n
        · rcases h with h | ⟨b, off, rfl, hc⟩
          · omega
          have hcell : wr.cell? ⟨b, off + m, none⟩ = some (.bool (S m)) := (HB.out.cell (p := ⟨b, off + m, none⟩) (cell_lt (hc m (by omega)))).trans (hc m (by omega))
          clear hc
          go_wp2_with (at_builtin; refine wpList_append_fits _ rfl _ _ 23 rfl w.heap.size 4 i0 1 Try.underlying23 hi hz1 w.heap.size (m + 1) (n + 1) _ rfl (HO.out.alloc _) ⟨wr.heap.size, 0, none⟩ 1 1 [.bool (S m)] rfl rfl (cell_one_new _ _ _) (one_bool _) (by omega) ?_; intro w3 hown2 hgrow2)
          have hb3 : Below w.heap.size w w3 := (HB.out.alloc hsz _).grown hgrow2 (by simp; omega) (fun k hk => by cases hk; exact Nat.le_refl _)
          have ho3 : w3.ownsRow w.heap.size 4 1 (.slice (some ⟨w.heap.size, 0, none⟩) (m + 1 + 1) (n + 1)) (m + 1 + 1) (vals (boolV (ins S j x)) (m + 1 + 1)) := by
            rw [vals_succ _ (m + 1)]; unfold boolV; rw [ins_gt S x hjm]; exact hown2
          clear hown2 hgrow2
          go_wp2
          go_roundw
          case rel => exact ⟨m + 1, by omega, by omega, by go_num, rfl, ho3, hb3⟩
          case measure => simp [intOf]; omega
        · obtain rfl : m = n := by omega
          go_wp2
          go_ret
          exact ⟨rfl, isRow_own HO.out, HB.out⟩

set_option maxHeartbeats 1000000 in
/-- b1Outcomes: the same strings, in a new slice (nil where nil came in). -/
theorem outcomes_some (x : Addr) (n c : Nat) (S : Nat → ByteArray) (hn : n ≤ 65537) (w : World) (h : IsRow w (some x) n (strV S)) :
    Calls Try.prog 10 #[.slice (some x) n c] w fun e w' => e = .returned (.slice (some ⟨w.heap.size, 0, none⟩) n n) ∧ IsRow w' (some ⟨w.heap.size, 0, none⟩) n (strV S) ∧ Below w.heap.size w w' := by
  obtain ⟨i0, hi, hz0, hz1, hz2⟩ := info_parts Try.info28
  have heq := fun w => Lib.run_eql_slice_nil (P := Try.prog) w 22 9 (some x) n c 0 0 Try.underlying22
  go_enter Try.func10, Try.ntmps10
  go_wp2_with (at_make; refine wpList_make_full _ rfl _ _ 31 rfl w.heap.size 28 i0 (.string ⟨#[]⟩) 1 Try.underlying31 hi hz0 hz1 .i64 .i64 _ _ n rfl rfl (by omega) (by omega) (by rw [hz2]; omega) (by unfold maxLen; omega) (Nat.le_refl _) ?_; intro w1 hown hgrow)
  have hbel : Below w.heap.size w w1 := (Below.refl _ _).grown hgrow (Nat.le_refl _) (fun k hk => by cases hk)
  clear hgrow
  have hany : ∀ t, t < n → ∃ v, w1.cell? ⟨w.heap.size, t, none⟩ = some v := fun t ht => by
    rw [hown.cellAt t (by omega)]
    have : t < (madeCells (Value.string ⟨#[]⟩).cells (n * 1)).toList.length := by simp [madeCells]; omega
    exact ⟨_, List.getElem?_eq_getElem this⟩
  have hfz : ∀ t, w1.frozen? ⟨w.heap.size, t, none⟩ = false := fun t => hown.frozenAt t
  clear hown
  go_loopw [4] (fun i wr => ∃ j : Nat, j ≤ n ∧ i = .int .i64 j ∧ (∀ t, t < j → wr.cell? ⟨w.heap.size, t, none⟩ = some (.string (S t))) ∧ (∀ t, t < n → ∃ v, wr.cell? ⟨w.heap.size, t, none⟩ = some v) ∧ (∀ t, wr.frozen? ⟨w.heap.size, t, none⟩ = false) ∧ Below w.heap.size w wr) (fun i _ => n - (intOf i).toNat)
  case atStart => exact ⟨0, Nat.zero_le _, rfl, fun t ht => by omega, hany, hfz, hbel⟩
  case round =>
    obtain ⟨j, hj, rfl, hdone, hany, hfz, hbel⟩ := hrel
    have HB : Hid (Below w.heap.size w wr) := hbel
    have HD : Hid (∀ t, t < j → wr.cell? ⟨w.heap.size, t, none⟩ = some (.string (S t))) := hdone
    have HA : Hid (∀ t, t < n → ∃ v, wr.cell? ⟨w.heap.size, t, none⟩ = some v) := hany
    have HF : Hid (∀ t, wr.frozen? ⟨w.heap.size, t, none⟩ = false) := hfz
    clear hbel hdone hany hfz
    by_cases hlt : j < n
    · rcases h with h | ⟨b, off, hx, hc⟩
      · omega
      cases hx
      have hcell : wr.cell? ⟨b, off + j, none⟩ = some (.string (S j)) := (HB.out.cell (p := ⟨b, off + j, none⟩) (cell_lt (hc j (by omega)))).trans (hc j (by omega))
      clear hc
      obtain ⟨v, hv⟩ := HA.out j hlt
      have hf := HF.out j
      go_wp2
      go_roundw
      case rel =>
        refine ⟨j + 1, by omega, by go_num, fun t ht => ?_, fun t ht => ?_, fun t => ?_, HB.out.setCell (Nat.le_refl _) _⟩
        · by_cases e : t = j
          · subst e; exact World.cell?_setCell_same _ _ _ hv
          · rw [World.cell?_setCell_other _ ⟨w.heap.size, j, none⟩ ⟨w.heap.size, t, none⟩ _ (fun h => e (by cases h; rfl))]; exact HD.out t (by omega)
        · by_cases e : t = j
          · subst e; exact ⟨_, World.cell?_setCell_same _ _ _ hv⟩
          · rw [World.cell?_setCell_other _ ⟨w.heap.size, j, none⟩ ⟨w.heap.size, t, none⟩ _ (fun h => e (by cases h; rfl))]; exact HA.out t ht
        · rw [World.frozen?_setCell]; exact HF.out t
      case measure => simp [intOf]; omega
    · obtain rfl : j = n := by omega
      go_wp2
      go_ret
      refine ⟨rfl, .inr ⟨w.heap.size, 0, rfl, fun t ht => ?_⟩, HB.out⟩
      rw [Nat.zero_add]
      exact HD.out t ht

/-- .. of nil: nil. -/
theorem outcomes_nil (n c : Nat) (w : World) : Calls Try.prog 10 #[.slice none n c] w fun e w' => e = .returned (.slice none 0 0) ∧ w' = w := by
  have heq := fun w => Lib.run_eql_slice_nil (P := Try.prog) w 22 9 none n c 0 0 Try.underlying22
  go_enter Try.func10, Try.ntmps10
  go_wp2
  go_ret
  exact ⟨rfl, rfl⟩

/-- Both in one. -/
theorem outcomes_any (a : Option Addr) (n c : Nat) (S : Nat → ByteArray) (hn : n ≤ 65537) (ha : a = none → n = 0) (w : World) (h : IsRow w a n (strV S)) :
    Calls Try.prog 10 #[.slice a n c] w fun e w' => ∃ a' c', e = .returned (.slice a' n c') ∧ IsRow w' a' n (strV S) ∧ Below w.heap.size w w' := by
  cases a with
  | none =>
    obtain rfl := ha rfl
    refine (outcomes_nil 0 c w).mono ?_
    rintro e w' ⟨rfl, rfl⟩
    exact ⟨none, 0, rfl, .inl rfl, Below.refl _ _⟩
  | some x =>
    refine (outcomes_some x n c S hn w h).mono ?_
    rintro e w' ⟨rfl, h1, h2⟩
    exact ⟨_, _, rfl, h1, h2⟩
end Go.Proofs.Qxb6616471a
