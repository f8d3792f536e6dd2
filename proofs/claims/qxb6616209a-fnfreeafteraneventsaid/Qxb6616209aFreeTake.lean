/-
  Contracts: free, take, the two readings of a running.
-/
import Derived.Test.Qxb6616209aFreeMap
import Derived.RegionTactic
import Derived.Deep.RegionLaw
import Derived.WalkLawsBesides
namespace Go.Proofs.Qxb6616209a
open Go.RowKit Go.ChangeMaps Go.MapKept

/-- A running in block B + 2: its map in block B holds m entries; h handlers. -/
structure Runs (w : World) (B : Nat) (h : Int) (m : Nat) : Prop where
  map : ∃ es c, w.heap[B]? = some (.map es c) ∧ es.size = m
  c0 : w.cell? ⟨B + 2, 0, none⟩ = some (.map (some B))
  c1 : w.cell? ⟨B + 2, 1, none⟩ = some (.int .i64 h)

theorem handlers_any (B m : Nat) (h : Int) (w : World) (H : Runs w B h m) :
    Calls Try.prog 14 #[.pointer (some ⟨B + 2, 0, none⟩)] w fun e w' => e = .returned (.int .i64 h) ∧ w' = w := by
  have c1 := H.c1
  clear H
  go_enter Try.func14, Try.ntmps14
  go_wp2
  go_ret
  exact ⟨rfl, rfl⟩

theorem count_any (B m : Nat) (h : Int) (w : World) (H : Runs w B h m) :
    Calls Try.prog 15 #[.pointer (some ⟨B + 2, 0, none⟩)] w fun e w' => e = .returned (.int .i64 m) ∧ w' = w := by
  have c0 := H.c0
  obtain ⟨es, c, hb, rfl⟩ := H.map
  clear H
  have hlen := fun ty => run_len hb ty
  go_enter Try.func15, Try.ntmps15
  go_wp2
  go_ret
  exact ⟨rfl, rfl⟩

theorem ret_int {k : IntKind} {a b : Int} (h : a = b) : Ending.returned (.int k a) = .returned (.int k b) := by rw [h]
def freeOf (c h : Int) (m : Nat) : Int := min (c - h) (4 * c - m)

/-- free. -/
theorem free_any (B m : Nat) (h c : Int) (w : World) (H : Runs w B h m) (hc1 : 1 ≤ c) (hc2 : c ≤ 268435456) (h0 : 0 ≤ h) (hh : h ≤ c) (hm : m ≤ 4096) :
    Calls Try.prog 18 #[.pointer (some ⟨B + 2, 0, none⟩), .int .i64 c] w fun e w' => e = .returned (.int .i64 (freeOf c h m)) ∧ ∃ q, w' = w.drewN q := by
  have c0 := H.c0
  have c1 := H.c1
  obtain ⟨es, k, hb, rfl⟩ := H.map
  clear H
  have hlen := fun ty n => run_len (w := w.drewN n) hb ty
  go_enter Try.func18, Try.ntmps18
  go_wp2
  go_quiet (fail)
  go_wp2
  all_goals
    go_ret
    exact ⟨ret_int (by unfold freeOf; omega), nq, rfl⟩

theorem zzfree_any (B m : Nat) (h c : Int) (w : World) (H : Runs w B h m) (hc1 : 1 ≤ c) (hc2 : c ≤ 268435456) (h0 : 0 ≤ h) (hh : h ≤ c) (hm : m ≤ 4096) :
    Calls Try.prog 11 #[.pointer (some ⟨B + 2, 0, none⟩), .int .i64 c] w fun e w' => e = .returned (.int .i64 (freeOf c h m)) ∧ ∃ q, w' = w.drewN q := by
  go_enter Try.func11, Try.ntmps11
  go_wp2_with (go_at_call 18; refine (free_any B m h c _ H hc1 hc2 h0 hh hm).mono ?_; rintro e w' ⟨rfl, q, rfl⟩)
  go_ret
  exact ⟨rfl, q, rfl⟩

theorem held_runs {w0 wr : World} {B k : Nat} {S : Nat → ByteArray} {h r : Int} (H : Held w0 wr B S h r k) : Runs wr B h k := ⟨⟨_, _, H.map, ents_size _ _ _⟩, H.c0, H.c1⟩

theorem runs_same {w w' : World} {B m : Nat} {h : Int} (H : Runs w B h m) (h1 : w'.heap[B]? = w.heap[B]?) (h2 : w'.heap[B + 2]? = w.heap[B + 2]?) : Runs w' B h m := by
  obtain ⟨es, c, hb, hm⟩ := H.map
  exact ⟨⟨es, c, h1.trans hb, hm⟩, (World.cell?_of_block (w := w) h2).trans H.c0, (World.cell?_of_block (w := w) h2).trans H.c1⟩
theorem runs_alloc {w : World} {B m : Nat} {h : Int} (H : Runs w B h m) (hB : B + 2 < w.heap.size) (o : Obj) (q : Nat) : Runs ((w.alloc o).drewN q) B h m :=
  runs_same H (Below.heap_alloc w o B (by omega)) (Below.heap_alloc w o (B + 2) hB)
theorem below_drew (B : Nat) (w : World) (n : Nat) : Below B w (w.drewN n) := ⟨rfl, rfl, rfl, Nat.le_refl _, fun _ _ => rfl⟩

theorem runs_dec {w : World} {B m : Nat} {h : Int} (H : Runs w B h m) (hB : B + 2 < w.heap.size) (o : Obj) (q j : Nat) (l : Nat) (v : Value) (h' : Int) :
    Runs ((((w.alloc o).drewN q).setCell ⟨B + 3 + j, l, none⟩ v).setCell ⟨B + 2, 1, none⟩ (.int .i64 h')) B h' m := by
  have R := runs_alloc H hB o q
  have e1 : ∀ b, b ≠ B + 3 + j → (((w.alloc o).drewN q).setCell ⟨B + 3 + j, l, none⟩ v).heap[b]? = ((w.alloc o).drewN q).heap[b]? := fun b hb => Below.heap_setCell _ _ _ _ hb
  have R1 := runs_same (w' := ((w.alloc o).drewN q).setCell ⟨B + 3 + j, l, none⟩ v) R (e1 B (by omega)) (e1 (B + 2) (by omega))
  generalize ((w.alloc o).drewN q).setCell ⟨B + 3 + j, l, none⟩ v = w2 at R1
  obtain ⟨es, c, hb, hm⟩ := R1.map
  exact ⟨⟨es, c, (Below.heap_setCell _ _ _ _ (by simp)).trans hb, hm⟩, (World.cell?_setCell_other _ ⟨B + 2, 1, none⟩ ⟨B + 2, 0, none⟩ _ (by simp)).trans R1.c0, World.cell?_setCell_same _ _ _ R1.c1⟩

theorem runs_del {w : World} {B m j k c : Nat} {S : Nat → ByteArray} {h : Int} (H : Runs w B h m) (hj : j < k) : Runs (setBlock w B (.map ((ents B S k).eraseIdxIfInBounds j) c)) B h (k - 1) := by
  obtain ⟨es, c', hb, _⟩ := H.map
  exact ⟨⟨_, _, heap_setBlock_same hb _, erase_size hj⟩, (cell_setBlock hb _ (by simp)).trans H.c0, (cell_setBlock hb _ (by simp)).trans H.c1⟩

/-- take, an unknown token. -/
theorem take_miss (w0 w : World) (B k : Nat) (S : Nat → ByteArray) (h r : Int) (t : ByteArray) (over : Bool) (H : Held w0 w B S h r k) (hs : ∀ i, i < k → (S i).size ≤ maxLen) (ht : t.size ≤ maxLen) (hne : ∀ i, i < k → S i ≠ t) :
    Calls Try.prog 19 #[.pointer (some ⟨B + 2, 0, none⟩), .agg #[.string t, .bool over]] w fun e w' => e = .returned (.tuple #[]) ∧ Runs w' B h k ∧ Below B w w' := by
  have hB : B + 2 < w.heap.size := heap_of_held H
  have c0 := H.c0
  have hb : ∀ o, (w.alloc o).heap[B]? = some (.map (ents B S k) k) := fun o => by rw [Below.heap_alloc _ _ _ (by omega)]; exact H.map
  have hlook : ∀ o n, (Instr.lookup 41 (.map (some B)) (.string t) true).run Try.prog ((w.alloc o).drewN n) = .ok (.tuple #[.pointer none, .bool false]) ((w.alloc o).drewN n) := fun o n => run_miss (hb o) hs ht hne
  have HH : Hid (Held w0 w B S h r k) := H
  clear H hs ht hne hb
  go_enter Try.func19, Try.ntmps19
  go_wp2
  go_quiet (fail)
  go_wp2
  refine bodyPost_ret (results_none rfl _ _ _) rfl ?_
  exact ⟨rfl, runs_alloc (held_runs HH.out) hB _ _, ((Below.refl _ _).alloc (by omega) _).trans (below_drew _ _ _)⟩

/-- take, a token whose handler has returned, not over: nothing turns. -/
theorem take_A (w0 w : World) (B k j : Nat) (S : Nat → ByteArray) (h r : Int) (hj : j < k) (hr : (j : Int) < r) (H : Held w0 w B S h r k) (hs : ∀ i, i < k → (S i).size ≤ maxLen) (hne : ∀ i i', i < k → i' < k → i ≠ i' → S i ≠ S i') :
    Calls Try.prog 19 #[.pointer (some ⟨B + 2, 0, none⟩), .agg #[.string (S j), .bool false]] w fun e w' => e = .returned (.tuple #[]) ∧ Runs w' B h k ∧ Below B w w' := by
  have hB : B + 2 < w.heap.size := heap_of_held H
  have c0 := H.c0
  have cm : w.cell? ⟨B + 3 + j, 12, none⟩ = some (.bool true) := by rw [H.mark j hj, decide_eq_true hr]
  have hjs : B + 3 + j < w.heap.size := by have := H.size; omega
  have hb : ∀ o, (w.alloc o).heap[B]? = some (.map (ents B S k) k) := fun o => by rw [Below.heap_alloc _ _ _ (by omega)]; exact H.map
  have hlook : ∀ o n, (Instr.lookup 41 (.map (some B)) (.string (S j)) true).run Try.prog ((w.alloc o).drewN n) = .ok (.tuple #[.pointer (some ⟨B + 3 + j, 0, none⟩), .bool true]) ((w.alloc o).drewN n) := fun o n => run_hit (hb o) hs hj hne
  have HH : Hid (Held w0 w B S h r k) := H
  clear H hs hne hb
  go_enter Try.func19, Try.ntmps19
  go_wp2
  go_quiet (fail)
  go_wp2
  go_end0
  exact ⟨rfl, runs_alloc (held_runs HH.out) hB _ _, ((Below.refl _ _).alloc (by omega) _).trans (below_drew _ _ _)⟩

/-- take, a token whose handler has not returned, not over. -/
theorem take_C (w0 w : World) (B k j : Nat) (S : Nat → ByteArray) (h r : Int) (hj : j < k) (hr : ¬ (j : Int) < r) (h1 : 1 ≤ h) (h2 : h ≤ 4096) (H : Held w0 w B S h r k) (hs : ∀ i, i < k → (S i).size ≤ maxLen) (hne : ∀ i i', i < k → i' < k → i ≠ i' → S i ≠ S i') :
    Calls Try.prog 19 #[.pointer (some ⟨B + 2, 0, none⟩), .agg #[.string (S j), .bool false]] w fun e w' => e = .returned (.tuple #[]) ∧ Runs w' B (h - 1) k ∧ Below B w w' := by
  have hB : B + 2 < w.heap.size := heap_of_held H
  have c0 := H.c0
  have c1 := H.c1
  have f1 := H.f1
  have cm : w.cell? ⟨B + 3 + j, 12, none⟩ = some (.bool false) := by rw [H.mark j hj, decide_eq_false hr]
  have fm := H.free j hj
  have hjs : B + 3 + j < w.heap.size := by have := H.size; omega
  have hb : ∀ o, (w.alloc o).heap[B]? = some (.map (ents B S k) k) := fun o => by rw [Below.heap_alloc _ _ _ (by omega)]; exact H.map
  have hlook : ∀ o n, (Instr.lookup 41 (.map (some B)) (.string (S j)) true).run Try.prog ((w.alloc o).drewN n) = .ok (.tuple #[.pointer (some ⟨B + 3 + j, 0, none⟩), .bool true]) ((w.alloc o).drewN n) := fun o n => run_hit (hb o) hs hj hne
  have HH : Hid (Held w0 w B S h r k) := H
  clear H hs hne hb
  go_enter Try.func19, Try.ntmps19
  go_wp2
  go_quiet (fail)
  go_wp2
  go_end0
  exact ⟨rfl, runs_dec (held_runs HH.out) hB _ _ _ _ _ _, ((((Below.refl _ _).alloc (by omega) _).trans (below_drew _ _ _)).setCell (by simp; omega) _).setCell (by simp) _⟩

/-- take, a token whose handler has returned, over: its claim is struck. -/
theorem take_B (w0 w : World) (B k j : Nat) (S : Nat → ByteArray) (h r : Int) (hj : j < k) (hr : (j : Int) < r) (H : Held w0 w B S h r k) (hs : ∀ i, i < k → (S i).size ≤ maxLen) (hne : ∀ i i', i < k → i' < k → i ≠ i' → S i ≠ S i') :
    Calls Try.prog 19 #[.pointer (some ⟨B + 2, 0, none⟩), .agg #[.string (S j), .bool true]] w fun e w' => e = .returned (.tuple #[]) ∧ Runs w' B h (k - 1) ∧ Below B w w' := by
  have hB : B + 2 < w.heap.size := heap_of_held H
  have c0 := H.c0
  have cm : w.cell? ⟨B + 3 + j, 12, none⟩ = some (.bool true) := by rw [H.mark j hj, decide_eq_true hr]
  have hjs : B + 3 + j < w.heap.size := by have := H.size; omega
  have hb : ∀ o, (w.alloc o).heap[B]? = some (.map (ents B S k) k) := fun o => by rw [Below.heap_alloc _ _ _ (by omega)]; exact H.map
  have hlook : ∀ o n, (Instr.lookup 41 (.map (some B)) (.string (S j)) true).run Try.prog ((w.alloc o).drewN n) = .ok (.tuple #[.pointer (some ⟨B + 3 + j, 0, none⟩), .bool true]) ((w.alloc o).drewN n) := fun o n => run_hit (hb o) hs hj hne
  have hdel : ∀ ty o n, (Builtin.delete_ #[41, 9] ty #[.map (some B), .string (S j)]).run Try.prog ((w.alloc o).drewN n) = .ok (.tuple #[]) (setBlock ((w.alloc o).drewN n) B (.map ((ents B S k).eraseIdxIfInBounds j) k)) := fun ty o n => run_del ty (hb o) hs hj hne
  have HH : Hid (Held w0 w B S h r k) := H
  clear H hs hne hb
  go_enter Try.func19, Try.ntmps19
  go_wp2
  go_quiet (fail)
  go_wp2
  go_region
  go_end0
  exact ⟨rfl, runs_del (runs_alloc (held_runs HH.out) hB _ _) hj, below_setBlock (((Below.refl _ _).alloc (by omega) _).trans (below_drew _ _ _)) _⟩

/-- take, a token whose handler has not returned, over. -/
theorem take_D (w0 w : World) (B k j : Nat) (S : Nat → ByteArray) (h r : Int) (hj : j < k) (hr : ¬ (j : Int) < r) (h1 : 1 ≤ h) (h2 : h ≤ 4096) (H : Held w0 w B S h r k) (hs : ∀ i, i < k → (S i).size ≤ maxLen) (hne : ∀ i i', i < k → i' < k → i ≠ i' → S i ≠ S i') :
    Calls Try.prog 19 #[.pointer (some ⟨B + 2, 0, none⟩), .agg #[.string (S j), .bool true]] w fun e w' => e = .returned (.tuple #[]) ∧ Runs w' B (h - 1) (k - 1) ∧ Below B w w' := by
  have hB : B + 2 < w.heap.size := heap_of_held H
  have c0 := H.c0
  have c1 := H.c1
  have f1 := H.f1
  have cm : w.cell? ⟨B + 3 + j, 12, none⟩ = some (.bool false) := by rw [H.mark j hj, decide_eq_false hr]
  have fm := H.free j hj
  have hjs : B + 3 + j < w.heap.size := by have := H.size; omega
  have hb : ∀ o, (w.alloc o).heap[B]? = some (.map (ents B S k) k) := fun o => by rw [Below.heap_alloc _ _ _ (by omega)]; exact H.map
  have hlook : ∀ o n, (Instr.lookup 41 (.map (some B)) (.string (S j)) true).run Try.prog ((w.alloc o).drewN n) = .ok (.tuple #[.pointer (some ⟨B + 3 + j, 0, none⟩), .bool true]) ((w.alloc o).drewN n) := fun o n => run_hit (hb o) hs hj hne
  have hb2 : ∀ o n v v', (((((w.alloc o).drewN n).setCell ⟨B + 3 + j, 12, none⟩ v).setCell ⟨B + 2, 1, none⟩ v').drew).heap[B]? = some (.map (ents B S k) k) := fun o n v v' => by
    refine (Below.heap_setCell _ _ _ _ (by simp)).trans ?_
    refine (Below.heap_setCell _ _ _ _ (by simp; omega)).trans ?_
    exact hb o
  have hdel : ∀ ty o n v v', (Builtin.delete_ #[41, 9] ty #[.map (some B), .string (S j)]).run Try.prog ((((w.alloc o).drewN n).setCell ⟨B + 3 + j, 12, none⟩ v).setCell ⟨B + 2, 1, none⟩ v').drew =
      .ok (.tuple #[]) (setBlock ((((w.alloc o).drewN n).setCell ⟨B + 3 + j, 12, none⟩ v).setCell ⟨B + 2, 1, none⟩ v').drew B (.map ((ents B S k).eraseIdxIfInBounds j) k)) := fun ty o n v v' => run_del ty (hb2 o n v v') hs hj hne
  have HH : Hid (Held w0 w B S h r k) := H
  clear H hs hne hb hb2
  go_enter Try.func19, Try.ntmps19
  go_wp2
  go_quiet (fail)
  go_wp2
  go_region
  go_end0
  exact ⟨rfl, runs_del (runs_same (runs_dec (held_runs HH.out) hB _ _ _ _ _ _) rfl rfl) hj, below_setBlock (((((Below.refl _ _).alloc (by omega) _).trans (below_drew _ _ _)).setCell (by simp; omega) _).setCell (by simp) _).drew _⟩

/-- ZZtake hands its words on to take. -/
theorem zztake_of (B : Nat) (t : ByteArray) (over : Bool) (w : World) (Q : World → Prop) (h : Calls Try.prog 19 #[.pointer (some ⟨B, 0, none⟩), .agg #[.string t, .bool over]] w fun e w' => e = .returned (.tuple #[]) ∧ Q w') :
    Calls Try.prog 12 #[.pointer (some ⟨B, 0, none⟩), .string t, .bool over] w fun e w' => e = .returned (.tuple #[]) ∧ Q w' := by
  have HH : Hid (Calls Try.prog 19 #[.pointer (some ⟨B, 0, none⟩), .agg #[.string t, .bool over]] w fun e w' => e = .returned (.tuple #[]) ∧ Q w') := h
  clear h
  go_enter Try.func12, Try.ntmps12
  go_wp2_with fail
  refine HH.out.mono ?_
  rintro e w' ⟨rfl, hq⟩
  go_wp2
  go_end0
  exact ⟨rfl, hq⟩
end Go.Proofs.Qxb6616209a
