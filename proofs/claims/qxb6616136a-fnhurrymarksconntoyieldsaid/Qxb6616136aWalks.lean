/-
  Contracts of the callees of 'FnHurryMarksConnToYield': atomic.Bool's Store and Load, the making of a connection, the reading of its flag, hurry.
-/
import Derived.Test.Qxb6616136aRows
import Derived.WalkKit
import Derived.WalkSpells
import Derived.Laws.LoneSync
import Derived.Laws.Pointers
import Derived.Laws.NewBlocks
import Derived.RegionTactic
import Derived.RegionCalls
namespace Go.Proofs.Qxb6616136a
open Go.RowKit

/-- What atomic.Bool keeps of a bool. -/
def bit (b : Bool) : Int := if b then 1 else 0

theorem store_true (a : Addr) (x : Value) (w : World) (hc : w.cell? a = some x) (hz : w.frozen? a = false) :
    Calls Try.prog 7 #[.pointer (some a), .bool true] w fun e w' => e = .returned (.tuple #[]) ∧ w' = (w.setCell a (.int .u32 1)).drew := by
  have hc' : w.drew.cell? a = some x := by go_simp
  have hz' : w.drew.frozen? a = false := by go_simp
  have hst := run_call_store (P := Try.prog) Try.func10 (by kernel_rfl) (by kernel_rfl) (by kernel_rfl) (by kernel_rfl) (k := .u32) (y := 1) hc' hz'
  go_enter Try.func7, Try.ntmps7
  go_wp2
  go_region_calls
  all_goals (go_end0; exact ⟨rfl, rfl⟩)

theorem store_false (a : Addr) (x : Value) (w : World) (hc : w.cell? a = some x) (hz : w.frozen? a = false) :
    Calls Try.prog 7 #[.pointer (some a), .bool false] w fun e w' => e = .returned (.tuple #[]) ∧ w' = (w.setCell a (.int .u32 0)).drew := by
  have hc' : w.drew.cell? a = some x := by go_simp
  have hz' : w.drew.frozen? a = false := by go_simp
  have hst := run_call_store (P := Try.prog) Try.func10 (by kernel_rfl) (by kernel_rfl) (by kernel_rfl) (by kernel_rfl) (k := .u32) (y := 0) hc' hz'
  go_enter Try.func7, Try.ntmps7
  go_wp2
  go_region_calls
  all_goals (go_end0; exact ⟨rfl, rfl⟩)

theorem store_any (a : Addr) (x : Value) (b : Bool) (w : World) (hc : w.cell? a = some x) (hz : w.frozen? a = false) :
    Calls Try.prog 7 #[.pointer (some a), .bool b] w fun e w' => e = .returned (.tuple #[]) ∧ w' = (w.setCell a (.int .u32 (bit b))).drew := by
  cases b
  · exact store_false a x w hc hz
  · exact store_true a x w hc hz

theorem load_any (a : Addr) (b : Bool) (w : World) (hc : w.cell? a = some (.int .u32 (bit b))) :
    Calls Try.prog 9 #[.pointer (some a)] w fun e w' => e = .returned (.bool b) ∧ w' = w := by
  cases b
  · have hc0 : w.cell? a = some (.int .u32 0) := hc
    have hl := run_call_load (P := Try.prog) Try.func12 (by kernel_rfl) (by kernel_rfl) (by kernel_rfl) .u32 (by kernel_rfl) hc0
    go_enter Try.func9, Try.ntmps9
    go_wp2
    go_ret
    exact ⟨rfl, rfl⟩
  · have hc0 : w.cell? a = some (.int .u32 1) := hc
    have hl := run_call_load (P := Try.prog) Try.func12 (by kernel_rfl) (by kernel_rfl) (by kernel_rfl) .u32 (by kernel_rfl) hc0
    go_enter Try.func9, Try.ntmps9
    go_wp2
    go_ret
    exact ⟨rfl, rfl⟩

/-- ZZupstreamConnYield. -/
theorem yield_any (s : Nat) (b : Bool) (w : World) (hc : w.cell? ⟨s, 1, none⟩ = some (.int .u32 (bit b))) :
    Calls Try.prog 6 #[.pointer (some ⟨s, 0, none⟩)] w fun e w' => e = .returned (.bool b) ∧ w' = w := by
  go_enter Try.func6, Try.ntmps6
  go_wp2_with (go_at_call 9; refine (load_any ⟨s, 1, none⟩ b _ hc).mono ?_; rintro e w' ⟨rfl, rfl⟩)
  go_ret
  exact ⟨rfl, rfl⟩

/-- ZZnewUpstreamConn. -/
theorem new_any (b : Bool) (w : World) :
    Calls Try.prog 4 #[.bool b] w fun e w' => e = .returned (.pointer (some ⟨w.heap.size, 0, none⟩)) ∧ w' = (w.alloc (.cells #[.nilIface, .int .u32 (bit b)] 35)).drew := by
  go_enter Try.func4, Try.ntmps4
  go_wp2_with (go_at_call 7; refine (store_any ⟨w.heap.size, 1, none⟩ (.int .u32 0) b _ (by simp) (by simp)).mono ?_; rintro e w' ⟨rfl, rfl⟩)
  go_ret
  refine ⟨rfl, ?_⟩
  simp

theorem assert_conn (a : Addr) (w : World) : (Instr.typeAssert (.iface 22 (.pointer (some a))) 28 22 true).run Try.prog w = .ok (.tuple #[.pointer (some a), .bool true]) w := by kernel_rfl

/-- hurry, handed a connection of ours: its flag is set. -/
theorem hurry_any (s : Nat) (b c : Bool) (n : Int) (x : Value) (w : World) (hs : s < w.heap.size) (hc : w.cell? ⟨s, 1, none⟩ = some x) (hz : w.frozen? ⟨s, 1, none⟩ = false) :
    Calls Try.prog 8 #[.agg #[.iface 22 (.pointer (some ⟨s, 0, none⟩)), .bool b, .bool c, .int .i64 n]] w fun e w' => e = .returned (.tuple #[]) ∧ ∃ o, w' = ((w.setCell ⟨s, 1, none⟩ (.int .u32 1)).alloc (.cells o 40)).drew := by
  have ha := assert_conn
  go_enter Try.func8, Try.ntmps8
  go_wp2_with (go_at_call 7; refine (store_true ⟨s, 1, none⟩ x _ (by rw [World.cell?_alloc_past _ _ _ hs]; exact hc) (by rw [World.frozen?_alloc_past _ _ _ hs]; exact hz)).mono ?_; rintro e w' ⟨rfl, rfl⟩)
  go_end0
  exact ⟨rfl, _, rfl⟩

/-- ZZhurry. -/
theorem zzhurry_any (s : Nat) (b c : Bool) (n : Int) (x : Value) (w : World) (hs : s < w.heap.size) (hc : w.cell? ⟨s, 1, none⟩ = some x) (hz : w.frozen? ⟨s, 1, none⟩ = false) :
    Calls Try.prog 5 #[.pointer (some ⟨s, 0, none⟩), .bool b, .bool c, .int .i64 n] w fun e w' => e = .returned (.tuple #[]) ∧ ∃ o, w' = ((w.setCell ⟨s, 1, none⟩ (.int .u32 1)).alloc (.cells o 40)).drew := by
  go_enter Try.func5, Try.ntmps5
  go_wp2_with (go_at_call 8; refine (hurry_any s b c n x _ hs hc hz).mono ?_; rintro e w' ⟨rfl, o, rfl⟩)
  go_end0
  exact ⟨rfl, _, rfl⟩

/-- The law's walk. -/
theorem law_any (b c d : Bool) (n : Int) (w : World) :
    Calls Try.prog 3 #[.bool b, .bool c, .bool d, .int .i64 n] w fun e w' => e = .returned (.bool true) ∧ Grown w w' := by
  go_enter Try.func3, Try.ntmps3
  go_wp2_with fail
  refine (new_any b _).mono ?_
  rintro e w' ⟨rfl, rfl⟩
  go_wp2_with fail
  refine (new_any b _).mono ?_
  rintro e w' ⟨rfl, rfl⟩
  go_wp2_with fail
  refine (zzhurry_any w.heap.size c d n (.int .u32 (bit b)) _ (by simp; omega) (by simp [go_sem]) (by simp [go_sem])).mono ?_
  rintro e w' ⟨rfl, o1, rfl⟩
  go_wp2_with fail
  refine (yield_any w.heap.size true _ (by simp [go_sem, bit])).mono ?_
  rintro e w' ⟨rfl, rfl⟩
  go_wp2_with fail
  refine (zzhurry_any w.heap.size c d n (.int .u32 1) _ (by simp; omega) (by simp [go_sem]) (by simp [go_sem])).mono ?_
  rintro e w' ⟨rfl, o2, rfl⟩
  go_wp2_with fail
  refine (yield_any w.heap.size true _ (by simp [go_sem, bit])).mono ?_
  rintro e w' ⟨rfl, rfl⟩
  go_wp2_with fail
  refine (yield_any (w.heap.size + 1) b _ (by simp [go_sem])).mono ?_
  rintro e w' ⟨rfl, rfl⟩
  go_wp2
  go_ret
  exact ⟨by simp, by repeat (first | exact Grown.refl _ | apply Grown.drew | apply Grown.alloc)⟩
end Go.Proofs.Qxb6616136a
