/-
  The walk of 'FnFlagsReadAgainstModel'.
-/
import Derived.Test.Qxb6616629aFlags
namespace Go.Proofs.Qxb6616629a
open Go.RowKit

/-- The law's state: p bytes are read, L are left. -/
def St (w : World) (rb N : Nat) (Z : Nat → Nat) (aw : Option Addr) (pv : Value) (wr : World) : Prop :=
  ∃ p L : Nat, p + L = N ∧ pv = .int .i64 p ∧ ∃ a' c', L ≤ c' ∧ c' ≤ N ∧ Rd wr rb a' L c' true ∧ IsBn rb wr a' L (shift Z p) ∧ IsBn rb wr aw N Z ∧ Below w.heap.size w wr
theorem St.mk {w wr : World} {rb N p L c' : Nat} {Z : Nat → Nat} {aw a' : Option Addr} {pv : Value} (h1 : p + L = N) (h2 : pv = .int .i64 p) (h3 : L ≤ c') (h4 : c' ≤ N) (h5 : Rd wr rb a' L c' true) (h6 : IsBn rb wr a' L (shift Z p)) (h7 : IsBn rb wr aw N Z) (h8 : Below w.heap.size w wr) : St w rb N Z aw pv wr :=
  ⟨p, L, h1, h2, a', c', h3, h4, h5, h6, h7, h8⟩

theorem isBn_of {w : World} {a : Option Addr} {n : Nat} {Z : Nat → Nat} (h : IsB w a n Z) (o : Obj) (rb : Nat) (hr : w.heap.size ≤ rb) : IsBn rb (w.alloc o) a n Z := by
  rcases h with rfl | ⟨b, off, rfl, hc⟩
  · exact .inl rfl
  · by_cases hn : n = 0
    · exact .inl hn
    · refine .inr ⟨b, off, ?_, rfl, fun i hi => ⟨?_, (hc i hi).2⟩⟩
      · have := cell_lt (hc 0 (by omega)).1
        omega
      · rw [World.cell?_alloc_past _ _ _ (cell_lt (hc i hi).1)]
        exact (hc i hi).1

theorem isBn_alloc {rb : Nat} {w : World} {a : Option Addr} {n : Nat} {Z : Nat → Nat} (h : IsBn rb w a n Z) (o : Obj) : IsBn rb (w.alloc o) a n Z := isBn_grown h (World.grownBy_alloc w o _)

theorem rd_drew {w : World} {rb n c : Nat} {a : Option Addr} {ok : Bool} (H : Rd w rb a n c ok) (q : Nat) : Rd (w.drewN q) rb a n c ok := ⟨H.c0, H.c1, H.f0, H.f1⟩
theorem isBn_drew {rb : Nat} {w : World} {a : Option Addr} {n : Nat} {Z : Nat → Nat} (h : IsBn rb w a n Z) (q : Nat) : IsBn rb (w.drewN q) a n Z := h
theorem below_drew (B : Nat) (w : World) (n : Nat) : Below B w (w.drewN n) := ⟨rfl, rfl, rfl, Nat.le_refl _, fun _ _ => rfl⟩

set_option maxRecDepth 100000 in
set_option maxHeartbeats 1600000 in
theorem flags_main (a : Option Addr) (N c : Nat) (Z : Nat → Nat) (hn : N ≤ 1048576) (ha : a = none → N = 0) (w : World) (h : IsB w a N Z) :
    Calls Try.prog 3 #[.slice a N c] w fun e w' => e = .returned (.bool true) ∧ Below w.heap.size w w' := by
  have hnm : N ≤ maxLen := by unfold maxLen; omega
  have q22 := fun w a n c => run_neq_slice_nil_any (P := Try.prog) w 22 5 a n c 0 0 Try.underlying22
  have e22 := fun w a n c => Lib.run_eql_slice_nil (P := Try.prog) w 22 5 a n c 0 0 Try.underlying22
  have HI : Hid (IsB w a N Z) := h
  have HA : Hid (a = none → N = 0) := ha
  clear h ha
  go_enter Try.func3, Try.ntmps3
  go_wp2_with (go_at_call 5; refine (zzBytes3_any a N c hnm _).mono ?_; rintro e w' ⟨⟨r, rfl⟩, hw⟩; obtain rfl := hw.symm)
  · go_ret
    exact ⟨rfl, Below.refl _ _⟩
  refine (clone_any a N c Z hn HA.out _ HI.out).mono ?_
  rintro e w1 ⟨a1, rfl, ha1, hi1, hb1⟩
  have HI1 : Hid (IsB w1 a1 N Z) := hi1
  have HA1 : Hid (a1 = none → N = 0) := ha1
  have HB1 : Hid (Below w.heap.size w w1) := hb1
  clear hi1 ha1 hb1
  go_wp2_with fail
  refine (clone_any a1 N N Z hn HA1.out _ HI1.out).mono ?_
  rintro e w2 ⟨a2, rfl, ha2, hi2, hb2⟩
  have HI2 : Hid (IsB w2 a2 N Z) := hi2
  have HI3 : Hid (IsB w2 a1 N Z) := isB_below HI1.out hb2
  have HB2 : Hid (Below w.heap.size w w2) := HB1.out.trans (hb2.mono HB1.out.size)
  clear ha2 hi2 hb2
  go_wp2_with fail
  refine (newReader_any a1 N N _).mono ?_
  rintro e w3 ⟨rfl, rfl⟩
  go_wp2_with fail
  have hst : St w (w2.heap.size + 1) N Z a2 (.int .i64 0) ((w2.alloc (.cells #[.slice a1 N N, .bool true] 26)).alloc (.cells #[.slice a1 N N, .bool true] 26)) := by
    refine St.mk (p := 0) (L := N) (a' := a1) (c' := N) (by omega) rfl (Nat.le_refl _) (Nat.le_refl _) ⟨by simp [go_sem], by simp [go_sem], by simp [go_sem], by simp [go_sem]⟩ ?_ (isBn_alloc (isBn_of HI2.out _ _ (by omega)) _) ((HB2.out.alloc HB2.out.size _).alloc (by have := HB2.out.size; simp; omega) _)
    rw [shift_zero]
    exact isBn_alloc (isBn_of HI3.out _ _ (by omega)) _
  have hrbw : w.heap.size ≤ w2.heap.size := HB2.out.size
  obtain ⟨rb, hrb⟩ : ∃ rb, rb = w2.heap.size + 1 := ⟨_, rfl⟩
  rw [← hrb] at hst ⊢
  have hrbw' : w.heap.size ≤ rb := by omega
  clear hrb hrbw
  clear HI HA HI1 HA1 HB1 HI2 HI3 HB2
  go_loopw [5] (fun pv wr => St w rb N Z a2 pv wr) (fun pv _ => N - (intOf pv).toNat)
  case atStart => exact hst
  case round =>
    clear hst
    obtain ⟨p, L, hpL, rfl, a', c', hLc, hcN, hrd, hisb, hisw, hbel⟩ := hrel
    have hpN : p ≤ N := by omega
    have hLN : L ≤ N := by omega
    have HPL : Hid (p + L = N) := hpL
    have HRD : Hid (Rd wr rb a' L c' true) := hrd
    have HSB : Hid (IsBn rb wr a' L (shift Z p)) := hisb
    have HSW : Hid (IsBn rb wr a2 N Z) := hisw
    have HBL : Hid (Below w.heap.size w wr) := hbel
    clear hpL hrd hisb hisw hbel
    go_wp2_with fail
    refine (model_any a2 N N p Z hn hpN _ HSW.out.isB).mono ?_
    rintro e w4 ⟨hret, hw⟩
    obtain rfl := hw.symm
    rw [show N - p = L from by have := HPL.out; omega] at hret
    by_cases hL0 : L = 0
    · subst hL0
      obtain rfl : p = N := by have := HPL.out; omega
      rcases hret with ⟨v, m, hf, _⟩ | ⟨hno, rfl⟩
      · exact absurd hf.1.2.1 (by omega)
      clear hno
      go_wp2_with fail
      refine (more_no rb c' a' _ HRD.out).mono ?_
      rintro e w5 ⟨rfl, hw⟩
      obtain rfl := hw.symm
      have c0 := HRD.out.c0
      have c1 := HRD.out.c1
      go_wp2_with fail
      refine (done_yes rb c' a' _ HRD.out).mono ?_
      rintro e w5 ⟨rfl, hw⟩
      obtain rfl := hw.symm
      go_wp2_with fail
      go_ret
      exact ⟨rfl, HBL.out⟩
    · have hLpos : 0 < L := by omega
      have hpne : ((p : Int) == (N : Int)) = false := by have := HPL.out; rw [beq_eq_false_iff_ne]; omega
      have HRET := hret
      clear hret
      rcases HRET with ⟨v, m, hf, rfl⟩ | ⟨hno, rfl⟩
      · have HF : Hid (IsField (shift Z p) L v m) := hf
        have hmL : m < L := hf.1.2.1
        clear hf
        go_wp2_with fail
        refine (more_yes rb L c' a' _ HRD.out hLpos).mono ?_
        rintro e w5 ⟨rfl, hw⟩
        obtain rfl := hw.symm
        go_wp2_with fail
        refine (flag_any rb L c' a' true (shift Z p) (by unfold maxLen; omega) hLc (by unfold maxLen; omega) _ HRD.out HSB.out).mono ?_
        rintro e w5 ⟨hret, hg⟩
        rcases hret with ⟨v', m', hf', rfl, a'', c'', hc1, hc2, hrd, hsb⟩ | ⟨hno, _, _⟩
        case inr => exact absurd HF.out (hno v m)
        obtain ⟨rfl, rfl⟩ := field_one HF.out hf'
        clear hf'
        have HSW2 : Hid (IsBn rb w5 a2 N Z) := isBn_grown HSW.out hg
        have HBL2 : Hid (Below w.heap.size w w5) := HBL.out.grown hg HBL.out.size (fun k hk => by cases hk; exact hrbw')
        obtain ⟨M, hM⟩ : ∃ M, M = L - (m + 1) := ⟨_, rfl⟩
        rw [← hM] at hc1 hrd hsb
        rw [shift_shift] at hsb
        have hMle : M ≤ N := by omega
        have HM : Hid (p + (m + 1) + M = N) := by have := HPL.out; show _ = _; omega
        clear hM hg
        have HRD2 : Hid (Rd w5 rb a'' M c'' true) := hrd
        have HSB2 : Hid (IsBn rb w5 a'' M (shift Z (p + (m + 1)))) := hsb
        clear hsb
        have c0 := hrd.c0
        have c1 := hrd.c1
        clear hrd
        have t1 : ((M : Int) != ((N : Int) - p - ((m : Int) + 1))) = false := by have := HM.out; rw [bne_eq_false_iff_eq]; omega
        by_cases hM0 : M = 0
        · have hd : decide ((p : Int) + ((m : Int) + 1) < (N : Int)) = false := by have := HM.out; rw [decide_eq_false_iff_not]; omega
          go_wp2_with fail
          go_quiet (fail)
          go_wp2_with fail
          go_roundw
          case rel => exact St.mk (p := p + (m + 1)) (L := M) HM.out (by go_num) hc1 (by omega) (rd_drew HRD2.out _) (isBn_drew HSB2.out _) (isBn_drew HSW2.out _) (HBL2.out.trans (below_drew _ _ _))
          case measure => have := HM.out; simp [intOf]; omega
        · obtain ⟨D, hD⟩ : ∃ D, D = Z (p + (m + 1)) := ⟨_, rfl⟩
          have hplt : p + (m + 1) < N := by have := HM.out; omega
          have hplt' : (p : Int) + ((m : Int) + 1) < (N : Int) := by omega
          rcases HSB2.out with hx | ⟨b2, off2, _, rfl, hcells⟩
          · omega
          have hcB : w5.cell? ⟨b2, off2, none⟩ = some (.int .u8 (D : Int)) := by have := (hcells 0 (by omega)).1; rw [hD]; simpa [shift] using this
          clear hcells
          rcases HSW2.out with hx | ⟨b3, off3, _, rfl, hcells⟩
          · omega
          have hcW : w5.cell? ⟨b3, off3 + (p + (m + 1)), none⟩ = some (.int .u8 (D : Int)) := by have := (hcells (p + (m + 1)) hplt).1; rw [hD]; exact this
          clear hcells hD
          have hMpos : (0 : Int) < (M : Int) := by omega
          go_wp2_with fail
          go_quiet (fail)
          go_wp2_with fail
          go_roundw
          case rel => exact St.mk (p := p + (m + 1)) (L := M) HM.out (by go_num) hc1 (by omega) (rd_drew HRD2.out _) (isBn_drew HSB2.out _) (isBn_drew HSW2.out _) (HBL2.out.trans (below_drew _ _ _))
          case measure => have := HM.out; simp [intOf]; omega
      · have HNO : Hid (NoField (shift Z p) L) := hno
        clear hno
        go_wp2_with fail
        refine (more_yes rb L c' a' _ HRD.out hLpos).mono ?_
        rintro e w5 ⟨rfl, hw⟩
        obtain rfl := hw.symm
        go_wp2_with fail
        refine (flag_any rb L c' a' true (shift Z p) (by unfold maxLen; omega) hLc (by unfold maxLen; omega) _ HRD.out HSB.out).mono ?_
        rintro e w5 ⟨hret, hg⟩
        rcases hret with ⟨v', m', hf', _⟩ | ⟨_, rfl, hrd⟩
        · exact absurd hf' (HNO.out v' m')
        have HBL2 : Hid (Below w.heap.size w w5) := HBL.out.grown hg HBL.out.size (fun k hk => by cases hk; exact hrbw')
        have HRD2 : Hid (Rd w5 rb none 0 0 false) := hrd
        have c0 := hrd.c0
        have c1 := hrd.c1
        clear hg hrd
        go_wp2_with fail
        refine (more_bad rb 0 0 none _ HRD2.out).mono ?_
        rintro e w6 ⟨rfl, hw⟩
        obtain rfl := hw.symm
        go_wp2_with fail
        refine (done_bad rb 0 0 none _ HRD2.out).mono ?_
        rintro e w6 ⟨rfl, hw⟩
        obtain rfl := hw.symm
        go_wp2_with fail
        refine (flag_any rb 0 0 none false (shift Z p) (Nat.zero_le _) (Nat.le_refl _) (Nat.zero_le _) _ HRD2.out (.inl rfl)).mono ?_
        rintro e w6 ⟨hret, hg⟩
        rcases hret with ⟨v', m', hf', _⟩ | ⟨_, rfl, hrd⟩
        · exact absurd hf' (noField_zero _ v' m')
        have HBL3 : Hid (Below w.heap.size w w6) := HBL2.out.grown hg HBL2.out.size (fun k hk => by cases hk; exact hrbw')
        clear c0 c1
        have c0 := hrd.c0
        have c1 := hrd.c1
        clear hg hrd
        go_wp2_with fail
        go_ret
        exact ⟨rfl, HBL3.out⟩

set_option maxRecDepth 100000 in
theorem flags_long (a : Option Addr) (N c : Nat) (hn : N ≤ maxLen) (hg : 1048576 < N) (w : World) :
    Calls Try.prog 3 #[.slice a N c] w fun e w' => e = .returned (.bool true) ∧ Below w.heap.size w w' := by
  go_enter Try.func3, Try.ntmps3
  go_wp2_with (go_at_call 5; refine (zzBytes3_any a N c hn _).mono ?_; rintro e w' ⟨⟨r, rfl⟩, hw⟩; obtain rfl := hw.symm)
  all_goals (go_ret; exact ⟨rfl, Below.refl _ _⟩)

theorem flags_any (a : Option Addr) (N c : Nat) (Z : Nat → Nat) (hn : N ≤ maxLen) (ha : a = none → N = 0) (w : World) (h : IsB w a N Z) :
    Calls Try.prog 3 #[.slice a N c] w fun e w' => e = .returned (.bool true) ∧ Below w.heap.size w w' := by
  by_cases hg : 1048576 < N
  · exact flags_long a N c hn hg w
  · exact flags_main a N c Z (by omega) ha w h
end Go.Proofs.Qxb6616629a
