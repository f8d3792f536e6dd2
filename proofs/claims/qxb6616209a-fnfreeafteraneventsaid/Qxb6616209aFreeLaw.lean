/-
  The walk of 'FnFreeAfterAnEvent'.
-/
import Derived.Test.Qxb6616209aFreeTake
namespace Go.Proofs.Qxb6616209a
open Go.RowKit Go.ChangeMaps Go.MapKept

theorem isStrs_below {w w1 : World} {a : Option Addr} {n : Nat} {S : Nat → ByteArray} (h : IsStrs w a n S) (hb : Below w.heap.size w w1) : IsStrs w1 a n S := by
  rcases h with rfl | ⟨b, off, rfl, hc⟩
  · exact .inl rfl
  · exact .inr ⟨b, off, rfl, fun i hi => (hb.cell (p := ⟨b, off + i, none⟩) (cell_lt (hc i hi))).trans (hc i hi)⟩

set_option maxHeartbeats 1600000 in
/-- The guards say no: true at once. -/
theorem law_guard (c ret : Int) (a : Option Addr) (n cp : Nat) (S : Nat → ByteArray) (t : ByteArray) (over : Bool) (hn : n ≤ maxLen) (w : World) (hst : IsStrs w a n S)
    (hret : -9223372036854775808 ≤ ret ∧ ret ≤ 9223372036854775807)
    (hg : 4096 < n ∨ 65536 < t.size ∨ c < 1 ∨ 268435456 < c ∨ ret < 0 ∨ (n : Int) < ret ∨ c < n - ret ∨ 4 * c < n) :
    Calls Try.prog 4 #[.int .i64 c, .slice a n cp, .int .i64 ret, .string t, .bool over] w fun e w' => e = .returned (.bool true) ∧ Below w.heap.size w w' := by
  by_cases g1 : 4096 < n
  · clear hg
    go_enter Try.func4, Try.ntmps4
    go_wp2_with (go_at_call 7; refine (zzBytes_any c ret a n cp S t over hn _ hst).mono ?_; rintro e w' ⟨⟨r, rfl⟩, rfl⟩)
    all_goals (go_ret; exact ⟨rfl, Below.refl _ _⟩)
  by_cases g2 : 65536 < t.size
  · clear hg
    go_enter Try.func4, Try.ntmps4
    go_wp2_with (first | (go_at_call 7; refine (zzBytes_any c ret a n cp S t over hn _ hst).mono ?_; rintro e w' ⟨⟨r, rfl⟩, rfl⟩) | (go_at_call 8; refine (addBytes_any _ a n cp S hn _ hst).mono ?_; rintro e w' ⟨⟨r8, rfl⟩, rfl⟩))
    all_goals (go_ret; exact ⟨rfl, Below.refl _ _⟩)
  by_cases g3 : c < 1
  · clear hg
    go_enter Try.func4, Try.ntmps4
    go_wp2_with (first | (go_at_call 7; refine (zzBytes_any c ret a n cp S t over hn _ hst).mono ?_; rintro e w' ⟨⟨r, rfl⟩, rfl⟩) | (go_at_call 8; refine (addBytes_any _ a n cp S hn _ hst).mono ?_; rintro e w' ⟨⟨r8, rfl⟩, rfl⟩))
    all_goals (go_ret; exact ⟨rfl, Below.refl _ _⟩)
  by_cases g4 : 268435456 < c
  · clear hg
    go_enter Try.func4, Try.ntmps4
    go_wp2_with (first | (go_at_call 7; refine (zzBytes_any c ret a n cp S t over hn _ hst).mono ?_; rintro e w' ⟨⟨r, rfl⟩, rfl⟩) | (go_at_call 8; refine (addBytes_any _ a n cp S hn _ hst).mono ?_; rintro e w' ⟨⟨r8, rfl⟩, rfl⟩))
    all_goals (go_ret; exact ⟨rfl, Below.refl _ _⟩)
  by_cases g5 : ret < 0
  · clear hg
    go_enter Try.func4, Try.ntmps4
    go_wp2_with (first | (go_at_call 7; refine (zzBytes_any c ret a n cp S t over hn _ hst).mono ?_; rintro e w' ⟨⟨r, rfl⟩, rfl⟩) | (go_at_call 8; refine (addBytes_any _ a n cp S hn _ hst).mono ?_; rintro e w' ⟨⟨r8, rfl⟩, rfl⟩))
    all_goals (go_ret; exact ⟨rfl, Below.refl _ _⟩)
  by_cases g6 : (n : Int) < ret
  · clear hg
    go_enter Try.func4, Try.ntmps4
    go_wp2_with (first | (go_at_call 7; refine (zzBytes_any c ret a n cp S t over hn _ hst).mono ?_; rintro e w' ⟨⟨r, rfl⟩, rfl⟩) | (go_at_call 8; refine (addBytes_any _ a n cp S hn _ hst).mono ?_; rintro e w' ⟨⟨r8, rfl⟩, rfl⟩))
    all_goals (go_ret; exact ⟨rfl, Below.refl _ _⟩)
  by_cases g7 : c < n - ret
  · clear hg
    go_enter Try.func4, Try.ntmps4
    go_wp2_with (first | (go_at_call 7; refine (zzBytes_any c ret a n cp S t over hn _ hst).mono ?_; rintro e w' ⟨⟨r, rfl⟩, rfl⟩) | (go_at_call 8; refine (addBytes_any _ a n cp S hn _ hst).mono ?_; rintro e w' ⟨⟨r8, rfl⟩, rfl⟩))
    all_goals (go_ret; exact ⟨rfl, Below.refl _ _⟩)
  by_cases g8 : 4 * c < n
  · clear hg
    go_enter Try.func4, Try.ntmps4
    go_wp2_with (first | (go_at_call 7; refine (zzBytes_any c ret a n cp S t over hn _ hst).mono ?_; rintro e w' ⟨⟨r, rfl⟩, rfl⟩) | (go_at_call 8; refine (addBytes_any _ a n cp S hn _ hst).mono ?_; rintro e w' ⟨⟨r8, rfl⟩, rfl⟩))
    all_goals (go_ret; exact ⟨rfl, Below.refl _ _⟩)
  omega

theorem held_drew {w0 wr : World} {B k : Nat} {S : Nat → ByteArray} {h r : Int} (H : Held w0 wr B S h r k) (q : Nat) : Held w0 (wr.drewN q) B S h r k :=
  ⟨H.map, H.c0, H.c1, H.f1, H.size, H.mark, H.free, H.below.trans (below_drew _ _ _)⟩
theorem runs_drew {w : World} {B m : Nat} {h : Int} (H : Runs w B h m) (q : Nat) : Runs (w.drewN q) B h m := ⟨H.map, H.c0, H.c1⟩

/-- How many handlers, how many claims there are behind the event. -/
def hAft (h r pos : Int) : Int := if 0 ≤ pos ∧ r ≤ pos then h - 1 else h
def mAft (k : Nat) (pos : Int) (over : Bool) : Nat := if 0 ≤ pos ∧ over = true then k - 1 else k

/-- ZZtake. -/
theorem take_any (w0 w : World) (B k : Nat) (S : Nat → ByteArray) (h r pos : Int) (t : ByteArray) (over : Bool) (H : Held w0 w B S h r k) (hs : ∀ i, i < k → (S i).size ≤ maxLen) (ht : t.size ≤ maxLen) (hinc : Incr k S)
    (hp : Found k S t pos) (hh : h = k - r) (h4 : h ≤ 4096) :
    Calls Try.prog 12 #[.pointer (some ⟨B + 2, 0, none⟩), .string t, .bool over] w fun e w' => e = .returned (.tuple #[]) ∧ Runs w' B (hAft h r pos) (mAft k pos over) ∧ Below B w w' := by
  have hne : ∀ i i', i < k → i' < k → i ≠ i' → S i ≠ S i' := fun i i' h1 h2 h3 => incr_ne hinc h3 h1 h2
  refine zztake_of (B + 2) t over w (fun w' => Runs w' B (hAft h r pos) (mAft k pos over) ∧ Below B w w') ?_
  rcases hp with ⟨j, hj, rfl, rfl⟩ | ⟨rfl, hno⟩
  · cases over
    · by_cases hr : (j : Int) < r
      · have e1 : hAft h r j = h := by unfold hAft; rw [if_neg (by omega)]
        have e2 : mAft k j false = k := by unfold mAft; rw [if_neg (by simp)]
        rw [e1, e2]
        exact take_A w0 w B k j S h r hj hr H hs hne
      · have e1 : hAft h r j = h - 1 := by unfold hAft; rw [if_pos (by omega)]
        have e2 : mAft k j false = k := by unfold mAft; rw [if_neg (by simp)]
        rw [e1, e2]
        exact take_C w0 w B k j S h r hj hr (by omega) h4 H hs hne
    · by_cases hr : (j : Int) < r
      · have e1 : hAft h r j = h := by unfold hAft; rw [if_neg (by omega)]
        have e2 : mAft k j true = k - 1 := by unfold mAft; rw [if_pos ⟨by omega, rfl⟩]
        rw [e1, e2]
        exact take_B w0 w B k j S h r hj hr H hs hne
      · have e1 : hAft h r j = h - 1 := by unfold hAft; rw [if_pos (by omega)]
        have e2 : mAft k j true = k - 1 := by unfold mAft; rw [if_pos ⟨by omega, rfl⟩]
        rw [e1, e2]
        exact take_D w0 w B k j S h r hj hr (by omega) h4 H hs hne
  · have e1 : hAft h r (-1) = h := by unfold hAft; rw [if_neg (by omega)]
    have e2 : mAft k (-1) over = k := by unfold mAft; rw [if_neg (by omega)]
    rw [e1, e2]
    exact take_miss w0 w B k S h r t over H hs ht hno

theorem found_ex (n : Nat) (S : Nat → ByteArray) (t : ByteArray) : ∃ pos, Found n S t pos := by
  by_cases h : ∃ j, j < n ∧ S j = t
  · obtain ⟨j, hj, e⟩ := h
    exact ⟨j, .inl ⟨j, hj, e, rfl⟩⟩
  · exact ⟨-1, .inr ⟨rfl, fun j hj e => h ⟨j, hj, e⟩⟩⟩

theorem found_one {n : Nat} {S : Nat → ByteArray} {t : ByteArray} {p q : Int} (hi : Incr n S) (hp : Found n S t p) (hq : Found n S t q) : p = q := by
  rcases hp with ⟨j, hj, e1, rfl⟩ | ⟨rfl, h1⟩
  · rcases hq with ⟨i, hi', e2, rfl⟩ | ⟨rfl, h2⟩
    · by_cases e : i = j
      · rw [e]
      · exact absurd (e2.trans e1.symm) (incr_ne hi e hi' hj)
    · exact absurd e1 (h2 j hj)
  · rcases hq with ⟨i, hi', e2, rfl⟩ | ⟨rfl, _⟩
    · exact absurd e2 (h1 i hi')
    · rfl

theorem found_bd {n : Nat} {S : Nat → ByteArray} {t : ByteArray} {p : Int} (h : Found n S t p) : -1 ≤ p ∧ p < n := by
  rcases h with ⟨j, hj, _, rfl⟩ | ⟨rfl, _⟩ <;> omega

/-- The seven ways of an event. -/
theorem aft_cases (c ret pos : Int) (n : Nat) (over : Bool) (hr0 : 0 ≤ ret) (hr1 : ret ≤ n) (hpb : -1 ≤ pos ∧ pos < n) :
    ∃ (H1 : Int) (M1 : Nat), H1 = hAft (n - ret) (n - (n - ret)) pos ∧ M1 = mAft n pos over ∧ M1 ≤ n ∧ 0 ≤ H1 ∧ H1 ≤ n - ret ∧
    ((pos < 0 ∧ (freeOf c H1 M1 - freeOf c (n - ret) n == 0) = true ∧ (H1 == n - ret) = true ∧ ((M1 : Int) == n) = true) ∨
     (0 ≤ pos ∧ pos < ret ∧ over = true ∧ 4 * c - n < c - (n - ret) ∧ (freeOf c H1 M1 - freeOf c (n - ret) n == 1) = true ∧ (H1 == n - ret) = true ∧ ((M1 : Int) == n - 1) = true) ∨
     (0 ≤ pos ∧ pos < ret ∧ over = true ∧ c - (n - ret) ≤ 4 * c - n ∧ (freeOf c H1 M1 - freeOf c (n - ret) n == 0) = true ∧ (H1 == n - ret) = true ∧ ((M1 : Int) == n - 1) = true) ∨
     (0 ≤ pos ∧ pos < ret ∧ over = false ∧ (freeOf c H1 M1 - freeOf c (n - ret) n == 0) = true ∧ (H1 == n - ret) = true ∧ ((M1 : Int) == n) = true) ∨
     (0 ≤ pos ∧ ret ≤ pos ∧ over = true ∧ (freeOf c H1 M1 - freeOf c (n - ret) n == 1) = true ∧ (H1 == n - ret - 1) = true ∧ ((M1 : Int) == n - 1) = true) ∨
     (0 ≤ pos ∧ ret ≤ pos ∧ over = false ∧ c - (n - ret) < 4 * c - n ∧ (freeOf c H1 M1 - freeOf c (n - ret) n == 1) = true ∧ (H1 == n - ret - 1) = true ∧ ((M1 : Int) == n) = true) ∨
     (0 ≤ pos ∧ ret ≤ pos ∧ over = false ∧ 4 * c - n ≤ c - (n - ret) ∧ (freeOf c H1 M1 - freeOf c (n - ret) n == 0) = true ∧ (H1 == n - ret - 1) = true ∧ ((M1 : Int) == n) = true)) := by
  refine ⟨_, _, rfl, rfl, ?_⟩
  simp only [beq_iff_eq]
  unfold hAft mAft freeOf
  cases over
  · by_cases h1 : 0 ≤ pos ∧ n - (n - ret) ≤ pos
    · rw [if_pos h1, if_neg (by simp)]
      refine ⟨by omega, by omega, by omega, ?_⟩
      by_cases h2 : c - (n - ret) < 4 * c - n
      · exact .inr (.inr (.inr (.inr (.inr (.inl ⟨by omega, by omega, rfl, h2, by omega, by omega, by omega⟩)))))
      · exact .inr (.inr (.inr (.inr (.inr (.inr ⟨by omega, by omega, rfl, by omega, by omega, by omega, by omega⟩)))))
    · rw [if_neg h1, if_neg (by simp)]
      refine ⟨by omega, by omega, by omega, ?_⟩
      by_cases h2 : pos < 0
      · exact .inl ⟨h2, by omega, by omega, by omega⟩
      · exact .inr (.inr (.inr (.inl ⟨by omega, by omega, rfl, by omega, by omega, by omega⟩)))
  · by_cases h1 : 0 ≤ pos ∧ n - (n - ret) ≤ pos
    · rw [if_pos h1, if_pos ⟨h1.1, rfl⟩]
      refine ⟨by omega, by omega, by omega, ?_⟩
      exact .inr (.inr (.inr (.inr (.inl ⟨by omega, by omega, rfl, by omega, by omega, by omega⟩))))
    · rw [if_neg h1]
      by_cases h2 : pos < 0
      · rw [if_neg (by omega)]
        refine ⟨by omega, by omega, by omega, ?_⟩
        exact .inl ⟨h2, by omega, by omega, by omega⟩
      · rw [if_pos ⟨by omega, rfl⟩]
        refine ⟨by omega, by omega, by omega, ?_⟩
        by_cases h3 : 4 * c - n < c - (n - ret)
        · exact .inr (.inl ⟨by omega, by omega, rfl, h3, by omega, by omega, by omega⟩)
        · exact .inr (.inr (.inl ⟨by omega, by omega, rfl, by omega, by omega, by omega, by omega⟩))

theorem free_bd (c h : Int) (m : Nat) (hc1 : 1 ≤ c) (hc2 : c ≤ 268435456) (h0 : 0 ≤ h) (hh : h ≤ c) (hm : m ≤ 4096) : -4096 ≤ freeOf c h m ∧ freeOf c h m ≤ 268435456 := by
  unfold freeOf; omega

set_option maxHeartbeats 8000000 in
/-- What the law asks at its end. -/
theorem law_main (c ret : Int) (a : Option Addr) (n cp : Nat) (S : Nat → ByteArray) (t : ByteArray) (over : Bool) (hn : n ≤ 4096) (ht : t.size ≤ 65536) (w : World) (hst : IsStrs w a n S) (hs : ∀ i, i < n → (S i).size ≤ maxLen)
    (hc1 : 1 ≤ c) (hc2 : c ≤ 268435456) (hr0 : 0 ≤ ret) (hr1 : ret ≤ n) (hg1 : n - ret ≤ c) (hg2 : (n : Int) ≤ 4 * c) :
    Calls Try.prog 4 #[.int .i64 c, .slice a n cp, .int .i64 ret, .string t, .bool over] w fun e w' => e = .returned (.bool true) ∧ Below w.heap.size w w' := by
  have hnm : n ≤ maxLen := by unfold maxLen; omega
  go_enter Try.func4, Try.ntmps4
  go_wp2_with (first | (go_at_call 7; refine (zzBytes_any c ret a n cp S t over hnm _ hst).mono ?_; rintro e w' ⟨⟨r, rfl⟩, rfl⟩) | (go_at_call 8; refine (addBytes_any _ a n cp S hnm _ hst).mono ?_; rintro e w' ⟨⟨r8, rfl⟩, rfl⟩))
  · go_ret
    exact ⟨rfl, Below.refl _ _⟩
  · go_ret
    exact ⟨rfl, Below.refl _ _⟩
  refine (increasing_any a n cp S hnm _ hst).mono ?_
  rintro e w1 ⟨⟨r9, rfl, hr9⟩, q, rfl⟩
  cases r9
  · go_wp2_with fail
    go_ret
    exact ⟨rfl, below_drew _ _ _⟩
  have hinc : Incr n S := hr9 rfl
  clear hr9
  have HI : Hid (Incr n S) := hinc
  clear hinc
  obtain ⟨pos, hpos⟩ := found_ex n S t
  have hpb := found_bd hpos
  have HP : Hid (Found n S t pos) := hpos
  have HS : Hid (∀ i, i < n → (S i).size ≤ maxLen) := hs
  have HT : Hid (IsStrs w' a n S) := hst
  clear hpos hs hst
  go_wp2_with fail
  refine (runningWith_any a n cp S (n - ret) hnm (by omega) (by omega) _ (by exact HT.out) HS.out HI.out).mono ?_
  rintro e w2 ⟨rfl, H⟩
  have HH : Hid (Held (w'.drewN q) w2 w'.heap.size S (n - ret) (n - (n - ret)) n) := H
  clear H
  go_wp2_with fail
  refine (zzfree_any w'.heap.size n (n - ret) c _ (held_runs HH.out) hc1 hc2 (by omega) (by omega) hn).mono ?_
  rintro e w3 ⟨rfl, q2, rfl⟩
  go_wp2_with fail
  refine (take_any (w'.drewN q) _ w'.heap.size n S (n - ret) (n - (n - ret)) pos t over (held_drew HH.out q2) HS.out (by unfold maxLen; omega) HI.out HP.out (by omega) (by omega)).mono ?_
  rintro e w4 ⟨rfl, R, hb4⟩
  obtain ⟨H1, M1, eH1, eM1, hM1, hH0, hH1, key⟩ := aft_cases c ret pos n over hr0 hr1 hpb
  rw [← eH1, ← eM1] at R
  clear eH1 eM1
  have HR : Hid (Runs w4 w'.heap.size H1 M1) := R
  have HB : Hid (Below w'.heap.size w' w4) := ((below_drew _ w' q).trans (HH.out.below.trans (below_drew _ _ _))).trans hb4
  clear R hb4
  have hF0 := free_bd c (n - ret) n hc1 hc2 (by omega) (by omega) hn
  have hF1 := free_bd c H1 M1 hc1 hc2 (by omega) (by omega) (by omega)
  have HK := key
  clear key
  rcases HK with ⟨k1, kF, kH, kM⟩ | ⟨k1, k2, rfl, k3, kF, kH, kM⟩ | ⟨k1, k2, rfl, k3, kF, kH, kM⟩ | ⟨k1, k2, rfl, kF, kH, kM⟩ | ⟨k1, k2, rfl, kF, kH, kM⟩ | ⟨k1, k2, rfl, k3, kF, kH, kM⟩ | ⟨k1, k2, rfl, k3, kF, kH, kM⟩
  all_goals
    go_wp2_with fail
    refine (zzfree_any w'.heap.size M1 H1 c _ HR.out hc1 hc2 (by omega) (by omega) (by omega)).mono ?_
    rintro e w5 ⟨rfl, q3, rfl⟩
    go_wp2_with fail
    refine (find_any a n cp S t hnm _ (by exact isStrs_below HT.out (HB.out.trans (below_drew _ _ _))) HI.out).mono ?_
    rintro e w6 ⟨⟨p2, rfl, hp2⟩, rfl⟩
    obtain rfl : p2 = pos := found_one HI.out hp2 HP.out
    clear hp2
    go_wp2_with fail
    refine (handlers_any w'.heap.size M1 H1 _ (by exact runs_drew HR.out _)).mono ?_
    rintro e w6 ⟨rfl, rfl⟩
    go_wp2_with fail
    refine (count_any w'.heap.size M1 H1 _ (by exact runs_drew HR.out _)).mono ?_
    rintro e w6 ⟨rfl, rfl⟩
    go_wp2
    go_ret
    exact ⟨rfl, HB.out.trans (below_drew _ _ _)⟩

theorem law_free (c ret : Int) (a : Option Addr) (n cp : Nat) (S : Nat → ByteArray) (t : ByteArray) (over : Bool) (hn : n ≤ maxLen) (w : World) (hst : IsStrs w a n S) (hs : ∀ i, i < n → (S i).size ≤ maxLen)
    (hret : -9223372036854775808 ≤ ret ∧ ret ≤ 9223372036854775807) :
    Calls Try.prog 4 #[.int .i64 c, .slice a n cp, .int .i64 ret, .string t, .bool over] w fun e w' => e = .returned (.bool true) ∧ Below w.heap.size w w' := by
  by_cases hg : 4096 < n ∨ 65536 < t.size ∨ c < 1 ∨ 268435456 < c ∨ ret < 0 ∨ (n : Int) < ret ∨ c < n - ret ∨ 4 * c < n
  · exact law_guard c ret a n cp S t over hn w hst hret hg
  · exact law_main c ret a n cp S t over (by omega) (by omega) w hst hs (by omega) (by omega) (by omega) (by omega) (by omega) (by omega)
end Go.Proofs.Qxb6616209a
