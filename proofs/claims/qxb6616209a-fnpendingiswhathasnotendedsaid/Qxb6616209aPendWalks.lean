/-
  The walk of 'FnPendingIsWhatHasNotEnded' and of its two callees.
-/
import Derived.Test.Qxb6616209aRows
import Derived.WalkKit
import Derived.WalkSpells
import Derived.Laws.NewBlocks
namespace Go.Proofs.Qxb6616209a
open Go.RowKit

/-! ### the plain arithmetic -/
theorem p_got (T C F X H I : Int) (h : T = wrap64 (wrap64 (wrap64 (wrap64 (C + F) + X) + H) + I)) :
    wrap64 (H + I) = wrap64 (wrap64 (wrap64 (T - C) - F) - X) := by
  subst h; unfold wrap64; omega
theorem p_start (H I : Int) : wrap64 (wrap64 (H - 1) + wrap64 (I + 1)) = wrap64 (H + I) := by unfold wrap64; omega
theorem p_done (H I : Int) : wrap64 (H + wrap64 (I - 1)) = wrap64 (wrap64 (H + I) - 1) := by unfold wrap64; omega
theorem p_cancel (H I : Int) : wrap64 (wrap64 (H - 1) + I) = wrap64 (wrap64 (H + I) - 1) := by unfold wrap64; omega

/-- Pending. -/
theorem pending_any (s0 s1 s2 s3 s4 s5 s6 s7 s8 : Value) (h i : Int) (w : World) :
    Calls Try.prog 6 #[.agg #[s0, s1, s2, s3, s4, s5, s6, s7, s8, .int .i64 h, .int .i64 i]] w fun e w' => e = .returned (.int .i64 (wrap64 (h + i))) ∧ ∃ o, w' = w.alloc (.cells o 24) := by
  go_enter Try.func6, Try.ntmps6
  go_wp2
  go_ret
  exact ⟨rfl, _, rfl⟩

theorem zzb_yes (a0 : ByteArray) (a1 : Int) (a2 : ByteArray) (a3 a4 a5 a6 a7 a8 a9 a10 : Int) (h : a0.size + a2.size ≤ 1048576) (w : World) :
    Calls Try.prog 5 #[.string a0, .int .i64 a1, .string a2, .int .i64 a3, .int .i64 a4, .int .i64 a5, .int .i64 a6, .int .i64 a7, .int .i64 a8, .int .i64 a9, .int .i64 a10] w fun e w' => e = .returned (.bool true) ∧ w' = w := by
  go_enter Try.func5, Try.ntmps5
  go_wp2
  go_ret
  exact ⟨rfl, rfl⟩

theorem zzb_no (a0 : ByteArray) (a1 : Int) (a2 : ByteArray) (a3 a4 a5 a6 a7 a8 a9 a10 : Int) (w0 : a0.size ≤ maxLen) (w2 : a2.size ≤ maxLen) (h : ¬ a0.size + a2.size ≤ 1048576) (w : World) :
    Calls Try.prog 5 #[.string a0, .int .i64 a1, .string a2, .int .i64 a3, .int .i64 a4, .int .i64 a5, .int .i64 a6, .int .i64 a7, .int .i64 a8, .int .i64 a9, .int .i64 a10] w fun e w' => e = .returned (.bool false) ∧ w' = w := by
  unfold maxLen at w0 w2
  by_cases h0 : 1048576 < a0.size
  · go_enter Try.func5, Try.ntmps5
    go_wp2
    go_ret
    exact ⟨rfl, rfl⟩
  · by_cases h2 : 1048576 < a2.size
    · go_enter Try.func5, Try.ntmps5
      go_wp2
      go_ret
      exact ⟨rfl, rfl⟩
    · go_enter Try.func5, Try.ntmps5
      go_wp2
      go_ret
      exact ⟨rfl, rfl⟩

theorem law_out (a0 : ByteArray) (a1 : Int) (a2 : ByteArray) (a3 a4 a5 a6 a7 a8 a9 a10 : Int) (w0 : a0.size ≤ maxLen) (w2 : a2.size ≤ maxLen) (h : ¬ a0.size + a2.size ≤ 1048576) (w : World) :
    Calls Try.prog 3 #[.string a0, .int .i64 a1, .string a2, .int .i64 a3, .int .i64 a4, .int .i64 a5, .int .i64 a6, .int .i64 a7, .int .i64 a8, .int .i64 a9, .int .i64 a10] w fun e w' => e = .returned (.bool true) ∧ Grown w w' := by
  go_enter Try.func3, Try.ntmps3
  go_wp2_with (go_at_call 5; refine (zzb_no a0 a1 a2 a3 a4 a5 a6 a7 a8 a9 a10 w0 w2 h _).mono ?_; rintro e w' ⟨rfl, rfl⟩)
  go_ret
  exact ⟨rfl, Grown.refl _⟩

theorem law_long (a0 : ByteArray) (a1 : Int) (a2 : ByteArray) (a3 a4 a5 a6 a7 a8 a9 a10 : Int) (h : a0.size + a2.size ≤ 1048576) (hl : 65536 < a0.size ∨ 65536 < a2.size) (w : World) :
    Calls Try.prog 3 #[.string a0, .int .i64 a1, .string a2, .int .i64 a3, .int .i64 a4, .int .i64 a5, .int .i64 a6, .int .i64 a7, .int .i64 a8, .int .i64 a9, .int .i64 a10] w fun e w' => e = .returned (.bool true) ∧ Grown w w' := by
  by_cases h0 : 65536 < a0.size
  · clear hl
    go_enter Try.func3, Try.ntmps3
    go_wp2_with (go_at_call 5; refine (zzb_yes a0 a1 a2 a3 a4 a5 a6 a7 a8 a9 a10 h _).mono ?_; rintro e w' ⟨rfl, rfl⟩)
    go_ret
    exact ⟨rfl, Grown.refl _⟩
  · have h2 : 65536 < a2.size := by omega
    clear hl
    go_enter Try.func3, Try.ntmps3
    go_wp2_with (go_at_call 5; refine (zzb_yes a0 a1 a2 a3 a4 a5 a6 a7 a8 a9 a10 h _).mono ?_; rintro e w' ⟨rfl, rfl⟩)
    go_ret
    exact ⟨rfl, Grown.refl _⟩

theorem law_other (a0 : ByteArray) (a1 : Int) (a2 : ByteArray) (a3 a4 a5 a6 a7 a8 a9 a10 : Int) (h : a0.size + a2.size ≤ 1048576) (h0 : ¬ 65536 < a0.size) (h2 : ¬ 65536 < a2.size)
    (hs : (a5 != wrap64 (wrap64 (wrap64 (wrap64 (a6 + a7) + a8) + a9) + a10)) = true) (w : World) :
    Calls Try.prog 3 #[.string a0, .int .i64 a1, .string a2, .int .i64 a3, .int .i64 a4, .int .i64 a5, .int .i64 a6, .int .i64 a7, .int .i64 a8, .int .i64 a9, .int .i64 a10] w fun e w' => e = .returned (.bool true) ∧ Grown w w' := by
  go_enter Try.func3, Try.ntmps3
  go_wp2_with (go_at_call 5; refine (zzb_yes a0 a1 a2 a3 a4 a5 a6 a7 a8 a9 a10 h _).mono ?_; rintro e w' ⟨rfl, rfl⟩)
  go_ret
  exact ⟨rfl, Grown.refl _⟩

set_option maxHeartbeats 800000 in
theorem law_main (a0 : ByteArray) (a1 : Int) (a2 : ByteArray) (a3 a4 a5 a6 a7 a8 a9 a10 : Int) (h : a0.size + a2.size ≤ 1048576) (h0 : ¬ 65536 < a0.size) (h2 : ¬ 65536 < a2.size)
    (hs : (a5 != wrap64 (wrap64 (wrap64 (wrap64 (a6 + a7) + a8) + a9) + a10)) = false) (w : World) :
    Calls Try.prog 3 #[.string a0, .int .i64 a1, .string a2, .int .i64 a3, .int .i64 a4, .int .i64 a5, .int .i64 a6, .int .i64 a7, .int .i64 a8, .int .i64 a9, .int .i64 a10] w fun e w' => e = .returned (.bool true) ∧ Grown w w' := by
  have e1 : (wrap64 (a9 + a10) != wrap64 (wrap64 (wrap64 (a5 - a6) - a7) - a8)) = false := by
    rw [p_got a5 a6 a7 a8 a9 a10 (by simpa using hs)]; simp
  have e2 : (wrap64 (wrap64 (a9 - 1) + wrap64 (a10 + 1)) != wrap64 (a9 + a10)) = false := by rw [p_start]; simp
  have e3 : (wrap64 (a9 + wrap64 (a10 - 1)) != wrap64 (wrap64 (a9 + a10) - 1)) = false := by rw [p_done]; simp
  have e4 : (wrap64 (wrap64 (a9 - 1) + a10) == wrap64 (wrap64 (a9 + a10) - 1)) = true := by rw [p_cancel]; simp
  go_enter Try.func3, Try.ntmps3
  go_wp2_with (go_at_call 5; refine (zzb_yes a0 a1 a2 a3 a4 a5 a6 a7 a8 a9 a10 h _).mono ?_; rintro e w' ⟨rfl, rfl⟩)
  refine (pending_any _ _ _ _ _ _ _ _ _ a9 a10 _).mono ?_
  rintro e w1 ⟨rfl, o1, rfl⟩
  go_wp2_with fail
  refine (pending_any _ _ _ _ _ _ _ _ _ (wrap64 (a9 - 1)) (wrap64 (a10 + 1)) _).mono ?_
  rintro e w1 ⟨rfl, o2, rfl⟩
  go_wp2_with fail
  refine (pending_any _ _ _ _ _ _ _ _ _ a9 (wrap64 (a10 - 1)) _).mono ?_
  rintro e w1 ⟨rfl, o3, rfl⟩
  go_wp2_with fail
  refine (pending_any _ _ _ _ _ _ _ _ _ (wrap64 (a9 - 1)) a10 _).mono ?_
  rintro e w1 ⟨rfl, o4, rfl⟩
  go_wp2
  go_ret
  exact ⟨rfl, (((((((((Grown.refl _).alloc _ _).alloc _ _).alloc _ _).alloc _ _).alloc _ _).alloc _ _).alloc _ _).alloc _ _)⟩

theorem law_any (a0 : ByteArray) (a1 : Int) (a2 : ByteArray) (a3 a4 a5 a6 a7 a8 a9 a10 : Int) (w0 : a0.size ≤ maxLen) (w2 : a2.size ≤ maxLen) (w : World) :
    Calls Try.prog 3 #[.string a0, .int .i64 a1, .string a2, .int .i64 a3, .int .i64 a4, .int .i64 a5, .int .i64 a6, .int .i64 a7, .int .i64 a8, .int .i64 a9, .int .i64 a10] w fun e w' => e = .returned (.bool true) ∧ Grown w w' := by
  by_cases h : a0.size + a2.size ≤ 1048576
  · by_cases h0 : 65536 < a0.size
    · exact law_long _ _ _ _ _ _ _ _ _ _ _ h (.inl h0) w
    · by_cases h2 : 65536 < a2.size
      · exact law_long _ _ _ _ _ _ _ _ _ _ _ h (.inr h2) w
      · cases hs : (a5 != wrap64 (wrap64 (wrap64 (wrap64 (a6 + a7) + a8) + a9) + a10))
        · exact law_main _ _ _ _ _ _ _ _ _ _ _ h h0 h2 hs w
        · exact law_other _ _ _ _ _ _ _ _ _ _ _ h h0 h2 hs w
  · exact law_out _ _ _ _ _ _ _ _ _ _ _ w0 w2 h w
end Go.Proofs.Qxb6616209a
