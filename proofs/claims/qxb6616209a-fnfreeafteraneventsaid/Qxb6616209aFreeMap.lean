/-
  The map of claims, written out: which entries it holds after k tokens were added, and what a store, a look-up and a delete do to it.
-/
import Derived.Test.Qxb6616209aFreeReads
import Derived.Maps.OwnSet
import Derived.Laws.LoneSync
namespace Go.Proofs.Qxb6616209a
open Go.RowKit Go.ChangeMaps Go.MapKept
open Go.Maps (Keyed)

theorem law : Keyed Try.prog 9 := Maps.string_keyed Try.underlying9
theorem zero47 (w : World) : (zeroValue 47).run Try.prog w = .ok (.pointer none) w := by kernel_rfl

/-- The entry of token i: its claim lies in block B + 3 + i. -/
def ent (B : Nat) (S : Nat → ByteArray) (i : Nat) : MapEntry := ⟨.string (S i), .pointer (some ⟨B + 3 + i, 0, none⟩), i⟩
def ents (B : Nat) (S : Nat → ByteArray) (k : Nat) : Array MapEntry := ((List.range k).map (ent B S)).toArray

theorem ents_size (B : Nat) (S : Nat → ByteArray) (k : Nat) : (ents B S k).size = k := by simp [ents]
theorem ents_zero (B : Nat) (S : Nat → ByteArray) : ents B S 0 = #[] := rfl
theorem ents_succ (B : Nat) (S : Nat → ByteArray) (k : Nat) : ents B S (k + 1) = (ents B S k).push (ent B S k) := by
  simp [ents, List.range_succ]
theorem ents_mem {B k : Nat} {S : Nat → ByteArray} {e : MapEntry} (h : e ∈ (ents B S k).toList) : ∃ i, i < k ∧ e = ent B S i := by
  simp [ents] at h
  obtain ⟨i, hi, rfl⟩ := h
  exact ⟨i, hi, rfl⟩
theorem ents_keys {B k : Nat} {S : Nat → ByteArray} (hs : ∀ i, i < k → (S i).size ≤ maxLen) : ∀ e ∈ (ents B S k).toList, ∃ l, keyOf Try.prog 9 e.key = some l := by
  intro e he
  obtain ⟨i, hi, rfl⟩ := ents_mem he
  exact ⟨_, WideMaps.keyOf_string_mk Try.underlying9 (hs i hi)⟩

theorem ents_at {B k j : Nat} {S : Nat → ByteArray} {e : MapEntry} (h : (ents B S k).toList[j]? = some e) : j < k ∧ e = ent B S j := by
  simp [ents, List.getElem?_eq_some_iff] at h
  obtain ⟨_, ⟨hj, rfl⟩, rfl⟩ := h
  exact ⟨hj, rfl⟩

/-- 'm[S k] = v', S k new. -/
theorem run_add {w : World} {B k : Nat} {S : Nat → ByteArray} (hb : w.heap[B]? = some (.map (ents B S k) k)) (hs : ∀ i, i < k → (S i).size ≤ maxLen) (hk : (S k).size ≤ maxLen) (hne : ∀ i, i < k → S i ≠ S k) :
    (Instr.mapUpdate 41 (.map (some B)) (.string (S k)) (.pointer (some ⟨B + 3 + k, 0, none⟩))).run Try.prog w = .ok () (setBlock w B (.map (ents B S (k + 1)) (k + 1))) := by
  have hkey := WideMaps.keyOf_string_mk Try.underlying9 hk
  rcases law.find w hkey (ents B S k).toList (ents_keys hs) with ⟨h1, _⟩ | ⟨j, e0, _, h2, h3⟩
  · rw [ents_succ]
    simp [Instr.mapUpdate, run_underlying Try.underlying41, MapKept.run_getObj_map hb, law.check w false hkey, h1, MapKept.run_setObj_map _ hb, Result.andThen, setBlock, ent]
  · obtain ⟨hj, rfl⟩ := ents_at h2
    simp [ent] at h3
    exact absurd h3 (hne j hj)

/-- 'c, ok := m[S j]'. -/
theorem run_hit {w : World} {B k j : Nat} {S : Nat → ByteArray} (hb : w.heap[B]? = some (.map (ents B S k) k)) (hs : ∀ i, i < k → (S i).size ≤ maxLen) (hj : j < k) (hne : ∀ i i', i < k → i' < k → i ≠ i' → S i ≠ S i') :
    (Instr.lookup 41 (.map (some B)) (.string (S j)) true).run Try.prog w = .ok (.tuple #[.pointer (some ⟨B + 3 + j, 0, none⟩), .bool true]) w := by
  have hkey := WideMaps.keyOf_string_mk Try.underlying9 (hs j hj)
  rcases law.find w hkey (ents B S k).toList (ents_keys hs) with ⟨_, h1⟩ | ⟨i, e0, h1, h2, h3⟩
  · exact absurd rfl (h1 (ent B S j) (by simp [ents]; exact ⟨j, hj, rfl⟩))
  · obtain ⟨hi, rfl⟩ := ents_at h2
    have : i = j := by
      by_cases e : i = j
      · exact e
      · simp [ent] at h3
        exact absurd h3 (hne i j hi hj e)
    subst this
    simp [Instr.lookup, run_underlying Try.underlying41, MapKept.run_getObj_map hb, law.check w _ hkey, h1, Result.andThen, ent]

/-- 'c, ok := m[t]', t no token. -/
theorem run_miss {w : World} {B k : Nat} {S : Nat → ByteArray} {t : ByteArray} (hb : w.heap[B]? = some (.map (ents B S k) k)) (hs : ∀ i, i < k → (S i).size ≤ maxLen) (ht : t.size ≤ maxLen) (hne : ∀ i, i < k → S i ≠ t) :
    (Instr.lookup 41 (.map (some B)) (.string t) true).run Try.prog w = .ok (.tuple #[.pointer none, .bool false]) w := by
  have hkey := WideMaps.keyOf_string_mk Try.underlying9 ht
  rcases law.find w hkey (ents B S k).toList (ents_keys hs) with ⟨h1, _⟩ | ⟨i, e0, _, h2, h3⟩
  · simp [Instr.lookup, run_underlying Try.underlying41, MapKept.run_getObj_map hb, law.check w _ hkey, h1, zero47 w, Result.andThen]
  · obtain ⟨hi, rfl⟩ := ents_at h2
    simp [ent] at h3
    exact absurd h3 (hne i hi)

/-- 'delete(m, S j)': one entry less. -/
theorem run_del {w : World} {B k j : Nat} {S : Nat → ByteArray} (ty : TypeId) (hb : w.heap[B]? = some (.map (ents B S k) k)) (hs : ∀ i, i < k → (S i).size ≤ maxLen) (hj : j < k) (hne : ∀ i i', i < k → i' < k → i ≠ i' → S i ≠ S i') :
    (Builtin.delete_ #[41, 9] ty #[.map (some B), .string (S j)]).run Try.prog w = .ok (.tuple #[]) (setBlock w B (.map ((ents B S k).eraseIdxIfInBounds j) k)) := by
  have hkey := WideMaps.keyOf_string_mk Try.underlying9 (hs j hj)
  rcases law.find w hkey (ents B S k).toList (ents_keys hs) with ⟨_, h1⟩ | ⟨i, e0, h1, h2, h3⟩
  · exact absurd rfl (h1 (ent B S j) (by simp [ents]; exact ⟨j, hj, rfl⟩))
  · obtain ⟨hi, rfl⟩ := ents_at h2
    have : i = j := by
      by_cases e : i = j
      · exact e
      · simp [ent] at h3
        exact absurd h3 (hne i j hi hj e)
    subst this
    simp [Builtin.delete_, run_underlying Try.underlying41, MapKept.run_getObj_map hb, law.check w _ hkey, h1, MapKept.run_setObj_map _ hb, Result.andThen, setBlock]

theorem erase_size {B k j : Nat} {S : Nat → ByteArray} (hj : j < k) : ((ents B S k).eraseIdxIfInBounds j).size = k - 1 := by
  unfold Array.eraseIdxIfInBounds
  rw [dif_pos (by rw [ents_size]; exact hj)]
  simp [ents_size]

/-- 'len(m)'. -/
theorem run_len {w : World} {B clock : Nat} {es : Array MapEntry} (hb : w.heap[B]? = some (.map es clock)) (ty : TypeId) : (Builtin.len_ #[41] ty #[.map (some B)]).run Try.prog w = .ok (.int .i64 es.size) w := by
  simp [Builtin.len_, run_underlying Try.underlying41, MapKept.run_getObj_map hb, goInt, Result.andThen]

theorem run_chan0 (w : World) : (Instr.makeChan 42 (.int .i64 0)).run Try.prog w = .ok (.chan (some w.heap.size)) (w.alloc (.chan 0 #[] false 0 0 false)) := by kernel_rfl

/-- ZZnewRunning. -/
theorem new_any (h : Int) (w : World) :
    Calls Try.prog 16 #[.int .i64 h, .int .i64 0] w fun e w' => e = .returned (.pointer (some ⟨w.heap.size + 2, 0, none⟩)) ∧
      w' = ((w.alloc (.map #[] 0)).alloc (.chan 0 #[] false 0 0 false)).alloc (.cells #[.map (some w.heap.size), .int .i64 h, .chan (some (w.heap.size + 1)), .chan none, .chan none] 46) := by
  have hmm := @run_makeMap Try.prog
  have hch := run_chan0
  go_enter Try.func16, Try.ntmps16
  go_wp2
  go_ret
  exact ⟨rfl, rfl⟩

/-- ZZaddClaim. -/
theorem add_any (B k : Nat) (S : Nat → ByteArray) (r : Bool) (w : World) (hb : w.heap[B]? = some (.map (ents B S k) k)) (hs : ∀ i, i < k → (S i).size ≤ maxLen) (hk : (S k).size ≤ maxLen) (hne : ∀ i, i < k → S i ≠ S k)
    (hsz : w.heap.size = B + 3 + k) (c0 : w.cell? ⟨B + 2, 0, none⟩ = some (.map (some B))) :
    Calls Try.prog 17 #[.pointer (some ⟨B + 2, 0, none⟩), .string (S k), .bool r] w fun e w' => e = .returned (.tuple #[]) ∧
      ∃ cs : Array Value, cs[12]? = some (.bool r) ∧ w' = setBlock (w.alloc (.cells cs 65)) B (.map (ents B S (k + 1)) (k + 1)) := by
  have hrun : ∀ cs : Array Value, (Instr.mapUpdate 41 (.map (some B)) (.string (S k)) (.pointer (some ⟨w.heap.size, 0, none⟩))).run Try.prog (w.alloc (.cells cs 65)) = .ok () (setBlock (w.alloc (.cells cs 65)) B (.map (ents B S (k + 1)) (k + 1))) := by
    intro cs
    rw [hsz]
    refine run_add ?_ hs hk hne
    rw [Below.heap_alloc _ _ _ (by omega)]
    exact hb
  clear hb hsz hs hk hne
  go_enter Try.func17, Try.ntmps17
  go_wp2
  go_end0
  exact ⟨rfl, _, rfl, rfl⟩

/-- The running holds the first k tokens: its map, its two cells, each claim's mark. r: how many claims have seen their handler return. -/
structure Held (w0 wr : World) (B : Nat) (S : Nat → ByteArray) (h r : Int) (k : Nat) : Prop where
  map : wr.heap[B]? = some (.map (ents B S k) k)
  c0 : wr.cell? ⟨B + 2, 0, none⟩ = some (.map (some B))
  c1 : wr.cell? ⟨B + 2, 1, none⟩ = some (.int .i64 h)
  f1 : wr.frozen? ⟨B + 2, 1, none⟩ = false
  size : wr.heap.size = B + 3 + k
  mark : ∀ i, i < k → wr.cell? ⟨B + 3 + i, 12, none⟩ = some (.bool (decide ((i : Int) < r)))
  free : ∀ i, i < k → wr.frozen? ⟨B + 3 + i, 12, none⟩ = false
  below : Below B w0 wr

theorem heap_of_held {w0 wr : World} {B k : Nat} {S : Nat → ByteArray} {h r : Int} (H : Held w0 wr B S h r k) : B + 2 < wr.heap.size := by have := H.size; omega

theorem held_start (w : World) (S : Nat → ByteArray) (h r : Int) :
    Held w (((w.alloc (.map #[] 0)).alloc (.chan 0 #[] false 0 0 false)).alloc (.cells #[.map (some w.heap.size), .int .i64 h, .chan (some (w.heap.size + 1)), .chan none, .chan none] 46)) w.heap.size S h r 0 where
  map := by
    rw [Below.heap_alloc _ _ _ (by simp; omega), Below.heap_alloc _ _ _ (by simp)]
    exact (MapKept.heap_alloc w _).1
  c0 := by simp [go_sem]
  c1 := by simp [go_sem]
  f1 := by simp [go_sem]
  size := by simp
  mark := fun i hi => by omega
  free := fun i hi => by omega
  below := (((Below.refl _ _).alloc (Nat.le_refl _) _).alloc (by simp) _).alloc (by simp; omega) _

/-- A cell, a mark, a block of another number: as they were behind the map's turn. -/
theorem cell_setBlock {w : World} {B : Nat} {es : Array MapEntry} {c : Nat} (hb : w.heap[B]? = some (.map es c)) (o : Obj) {a : Addr} (ha : a.block ≠ B) : (setBlock w B o).cell? a = w.cell? a :=
  World.cell?_of_block (w := w) (heap_setBlock_other hb _ ha)
theorem frozen_setBlock {w : World} {B : Nat} {es : Array MapEntry} {c : Nat} (hb : w.heap[B]? = some (.map es c)) (o : Obj) {a : Addr} (ha : a.block ≠ B) : (setBlock w B o).frozen? a = w.frozen? a :=
  World.frozen?_of_block (w := w) (heap_setBlock_other hb _ ha)
theorem below_setBlock {W w : World} {B : Nat} (h : Below B W w) (o : Obj) : Below B W (setBlock w B o) :=
  ⟨h.os, h.tape, h.output, by simpa [setBlock] using h.size, fun k hk => by
    have : (setBlock w B o).heap[k]? = w.heap[k]? := by
      unfold setBlock
      exact Array.getElem?_setIfInBounds_ne (by omega)
    rw [this]; exact h.block k hk⟩

theorem held_step {w0 wr : World} {B k : Nat} {S : Nat → ByteArray} {h r : Int} (H : Held w0 wr B S h r k) {cs : Array Value} (hcs : cs[12]? = some (.bool (decide ((k : Int) < r)))) :
    Held w0 (setBlock (wr.alloc (.cells cs 65)) B (.map (ents B S (k + 1)) (k + 1))) B S h r (k + 1) := by
  have hB : B < wr.heap.size := by have := H.size; omega
  have hm : (wr.alloc (.cells cs 65)).heap[B]? = some (.map (ents B S k) k) := by rw [Below.heap_alloc _ _ _ hB]; exact H.map
  have old : ∀ a : Addr, a.block < wr.heap.size → a.block ≠ B → (setBlock (wr.alloc (.cells cs 65)) B (.map (ents B S (k + 1)) (k + 1))).cell? a = wr.cell? a := fun a ha hne => by
    rw [cell_setBlock hm _ hne]; exact World.cell?_of_block (w := wr) (Below.heap_alloc _ _ _ ha)
  have oldf : ∀ a : Addr, a.block < wr.heap.size → a.block ≠ B → (setBlock (wr.alloc (.cells cs 65)) B (.map (ents B S (k + 1)) (k + 1))).frozen? a = wr.frozen? a := fun a ha hne => by
    rw [frozen_setBlock hm _ hne]; exact World.frozen?_of_block (w := wr) (Below.heap_alloc _ _ _ ha)
  have hsz := H.size
  refine ⟨heap_setBlock_same hm _, ?_, ?_, ?_, ?_, ?_, ?_, ?_⟩
  · rw [old _ (by simp; omega) (by simp)]; exact H.c0
  · rw [old _ (by simp; omega) (by simp)]; exact H.c1
  · rw [oldf _ (by simp; omega) (by simp)]; exact H.f1
  · simp [setBlock]; omega
  · intro i hi
    by_cases e : i = k
    · subst e
      rw [cell_setBlock hm _ (by simp; omega), ← hsz]
      simp [go_sem, hcs]
    · rw [old _ (by simp; omega) (by simp; omega)]; exact H.mark i (by omega)
  · intro i hi
    by_cases e : i = k
    · subst e
      rw [frozen_setBlock hm _ (by simp; omega), ← hsz]
      simp [go_sem]
    · rw [oldf _ (by simp; omega) (by simp; omega)]; exact H.free i (by omega)
  · exact below_setBlock (H.below.alloc (by omega) _) _

theorem cell_lt {w : World} {b o : Nat} {v : Value} (h : w.cell? ⟨b, o, none⟩ = some v) : b < w.heap.size := by
  obtain ⟨e, n, h1, _, _⟩ := World.shape?_of_cell? h
  cases hb : w.heap[b]? with
  | none => simp [World.shape?, hb] at h1
  | some o => exact (Array.getElem?_eq_some_iff.1 hb).1

/-- zzRunningWith. -/
theorem runningWith_any (a : Option Addr) (n c : Nat) (S : Nat → ByteArray) (h : Int) (hn : n ≤ maxLen) (h0 : 0 ≤ h) (hh : h ≤ n) (w : World) (hst : IsStrs w a n S) (hs : ∀ i, i < n → (S i).size ≤ maxLen) (hinc : Incr n S) :
    Calls Try.prog 10 #[.slice a n c, .int .i64 h, .int .i64 0] w fun e w' => e = .returned (.pointer (some ⟨w.heap.size + 2, 0, none⟩)) ∧ Held w w' w.heap.size S h (n - h) n := by
  unfold maxLen at hn
  rcases hst with rfl | ⟨b, off, rfl, hc⟩
  · go_enter Try.func10, Try.ntmps10
    go_wp2_with (go_at_call 16; refine (new_any h _).mono ?_; rintro e w' ⟨rfl, rfl⟩)
    refine wp_loop_rounds 1 ?_
    rw [rounds_succ]
    go_wp2
    go_ret
    exact ⟨rfl, held_start w S h _⟩
  · go_enter Try.func10, Try.ntmps10
    go_wp2_with (go_at_call 16; refine (new_any h _).mono ?_; rintro e w' ⟨rfl, rfl⟩)
    go_loopw [8] (fun i wr => ∃ k : Nat, k ≤ n ∧ i = .int .i64 k ∧ Held w wr w.heap.size S h (n - h) k) (fun i _ => n - (intOf i).toNat)
    case atStart => exact ⟨0, Nat.zero_le _, rfl, held_start w S h _⟩
    case round =>
      obtain ⟨k, hk, rfl, H⟩ := hrel
      have HI : Hid (Incr n S) := hinc
      have HS : Hid (∀ i, i < n → (S i).size ≤ maxLen) := hs
      clear hinc hs
      by_cases hlt : k < n
      · have hcell : wr.cell? ⟨b, off + k, none⟩ = some (.string (S k)) := (H.below.cell (cell_lt (hc k hlt))).trans (hc k hlt)
        have HH : Hid (Held w wr w.heap.size S h (n - h) k) := H
        clear H
        go_wp2_with fail
        refine (add_any w.heap.size k S (decide ((k : Int) < n - h)) _ HH.out.map (fun i hi => HS.out i (by omega)) (HS.out k hlt) (fun i hi => incr_ne HI.out (by omega) (by omega) hlt) HH.out.size HH.out.c0).mono ?_
        rintro e w1 ⟨rfl, cs, hcs, hw1⟩
        have H2 : Held w w1 w.heap.size S h (n - h) (k + 1) := by rw [hw1]; exact held_step HH.out hcs
        clear hw1 hcs
        have HH2 : Hid (Held w w1 w.heap.size S h (n - h) (k + 1)) := H2
        clear H2
        go_wp2
        go_roundw
        case rel => exact ⟨k + 1, by omega, by go_num, HH2.out⟩
        case measure => simp [intOf]; omega
      · obtain rfl : k = n := by omega
        have HH : Hid (Held w wr w.heap.size S h (k - h) k) := H
        clear H
        go_wp2
        go_ret
        exact ⟨rfl, HH.out⟩
end Go.Proofs.Qxb6616209a
