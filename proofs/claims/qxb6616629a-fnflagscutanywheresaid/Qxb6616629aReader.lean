/-
  Contracts: the reader's methods.
-/
import Derived.Test.Qxb6616629aModel
import Derived.Laws.OwnMore
import Derived.Lib.SliceRun
namespace Go.Proofs.Qxb6616629a
open Go.RowKit

/-- n bytes Z behind the slice's address, in a block other than rb; of an empty slice nothing is known. -/
def IsBn (rb : Nat) (w : World) (a : Option Addr) (n : Nat) (Z : Nat → Nat) : Prop :=
  n = 0 ∨ ∃ b off, b ≠ rb ∧ a = some ⟨b, off, none⟩ ∧ ∀ i, i < n → w.cell? ⟨b, off + i, none⟩ = some (.int .u8 (Z i : Int)) ∧ Z i ≤ 255

theorem IsBn.isB {rb : Nat} {w : World} {a : Option Addr} {n : Nat} {Z : Nat → Nat} (h : IsBn rb w a n Z) : IsB w a n Z := by
  rcases h with h | ⟨b, off, _, h1, h2⟩
  · exact .inl h
  · exact .inr ⟨b, off, h1, h2⟩

/-- The reader in block rb: what is left to read, and whether all could be read. -/
structure Rd (w : World) (rb : Nat) (a : Option Addr) (n c : Nat) (ok : Bool) : Prop where
  c0 : w.cell? ⟨rb, 0, none⟩ = some (.slice a n c)
  c1 : w.cell? ⟨rb, 1, none⟩ = some (.bool ok)
  f0 : w.frozen? ⟨rb, 0, none⟩ = false
  f1 : w.frozen? ⟨rb, 1, none⟩ = false

theorem more_yes (rb n c : Nat) (a : Option Addr) (w : World) (H : Rd w rb a n c true) (h : 0 < n) :
    Calls Try.prog 9 #[.pointer (some ⟨rb, 0, none⟩)] w fun e w' => e = .returned (.bool true) ∧ w' = w := by
  have c0 := H.c0
  have c1 := H.c1
  clear H
  go_enter Try.func9, Try.ntmps9
  go_wp2
  go_ret
  exact ⟨rfl, rfl⟩
theorem more_no (rb c : Nat) (a : Option Addr) (w : World) (H : Rd w rb a 0 c true) :
    Calls Try.prog 9 #[.pointer (some ⟨rb, 0, none⟩)] w fun e w' => e = .returned (.bool false) ∧ w' = w := by
  have c0 := H.c0
  have c1 := H.c1
  clear H
  go_enter Try.func9, Try.ntmps9
  go_wp2
  go_ret
  exact ⟨rfl, rfl⟩
theorem more_bad (rb n c : Nat) (a : Option Addr) (w : World) (H : Rd w rb a n c false) :
    Calls Try.prog 9 #[.pointer (some ⟨rb, 0, none⟩)] w fun e w' => e = .returned (.bool false) ∧ w' = w := by
  have c0 := H.c0
  have c1 := H.c1
  clear H
  go_enter Try.func9, Try.ntmps9
  go_wp2
  go_ret
  exact ⟨rfl, rfl⟩
theorem done_yes (rb c : Nat) (a : Option Addr) (w : World) (H : Rd w rb a 0 c true) :
    Calls Try.prog 10 #[.pointer (some ⟨rb, 0, none⟩)] w fun e w' => e = .returned (.bool true) ∧ w' = w := by
  have c0 := H.c0
  have c1 := H.c1
  clear H
  go_enter Try.func10, Try.ntmps10
  go_wp2
  go_ret
  exact ⟨rfl, rfl⟩
theorem done_bad (rb n c : Nat) (a : Option Addr) (w : World) (H : Rd w rb a n c false) :
    Calls Try.prog 10 #[.pointer (some ⟨rb, 0, none⟩)] w fun e w' => e = .returned (.bool false) ∧ w' = w := by
  have c0 := H.c0
  have c1 := H.c1
  clear H
  go_enter Try.func10, Try.ntmps10
  go_wp2
  go_ret
  exact ⟨rfl, rfl⟩

/-- Writes to the reader's block alone. -/
theorem grown_set {w : World} {rb o : Nat} (v : Value) : w.grownBy (w.setCell ⟨rb, o, none⟩ v) (some rb) :=
  ⟨rfl, rfl, rfl, by simp, fun i _ hi => Below.heap_setCell w ⟨rb, o, none⟩ v i (fun e => hi (by rw [e]))⟩

theorem isBn_grown {rb : Nat} {w w' : World} {a : Option Addr} {n : Nat} {Z : Nat → Nat} (h : IsBn rb w a n Z) (hg : w.grownBy w' (some rb)) : IsBn rb w' a n Z := by
  rcases h with h | ⟨b, off, h0, h1, h2⟩
  · exact .inl h
  · exact .inr ⟨b, off, h0, h1, fun i hi => ⟨hg.cell (h2 i hi).1 (by simpa using h0), (h2 i hi).2⟩⟩

theorem rd_fail {w : World} {rb n c : Nat} {a : Option Addr} {ok : Bool} (H : Rd w rb a n c ok) : Rd ((w.setCell ⟨rb, 1, none⟩ (.bool false)).setCell ⟨rb, 0, none⟩ (.slice none 0 0)) rb none 0 0 false := by
  refine ⟨World.cell?_setCell_same _ _ _ ((World.cell?_setCell_other _ ⟨rb, 1, none⟩ ⟨rb, 0, none⟩ _ (by simp)).trans H.c0), (World.cell?_setCell_other _ ⟨rb, 0, none⟩ ⟨rb, 1, none⟩ _ (by simp)).trans (World.cell?_setCell_same _ _ _ H.c1), ?_, ?_⟩
  · rw [World.frozen?_setCell, World.frozen?_setCell]; exact H.f0
  · rw [World.frozen?_setCell, World.frozen?_setCell]; exact H.f1

/-- Fail. -/
theorem fail_any (rb n c : Nat) (a : Option Addr) (ok : Bool) (w : World) (H : Rd w rb a n c ok) :
    Calls Try.prog 16 #[.pointer (some ⟨rb, 0, none⟩)] w fun e w' => e = .returned (.tuple #[]) ∧ Rd w' rb none 0 0 false ∧ w.grownBy w' (some rb) := by
  have c0 := H.c0
  have c1 := H.c1
  have f0 := H.f0
  have f1 := H.f1
  have HH : Hid (Rd w rb a n c ok) := H
  clear H
  go_enter Try.func16, Try.ntmps16
  go_wp2
  go_end0
  exact ⟨rfl, rd_fail HH.out, (grown_set _).trans (grown_set _)⟩

/-- What a read of a field leaves. -/
def ReadU (rb : Nat) (ok : Bool) (Z : Nat → Nat) (n c : Nat) (e : Ending) (w' : World) : Prop :=
  (∃ v m, IsField Z n v m ∧ e = .returned (.int .u64 (v : Int)) ∧ ∃ a' c', n - (m + 1) ≤ c' ∧ c' ≤ c ∧ Rd w' rb a' (n - (m + 1)) c' ok ∧ IsBn rb w' a' (n - (m + 1)) (shift Z (m + 1))) ∨
  (NoField Z n ∧ e = .returned (.int .u64 0) ∧ Rd w' rb none 0 0 false)

theorem rd_cut {w : World} {rb n c n' c' : Nat} {a a' : Option Addr} {ok : Bool} (H : Rd w rb a n c ok) : Rd (w.setCell ⟨rb, 0, none⟩ (.slice a' n' c')) rb a' n' c' ok := by
  refine ⟨World.cell?_setCell_same _ _ _ H.c0, (World.cell?_setCell_other _ ⟨rb, 0, none⟩ ⟨rb, 1, none⟩ _ (by simp)).trans H.c1, ?_, ?_⟩
  · rw [World.frozen?_setCell]; exact H.f0
  · rw [World.frozen?_setCell]; exact H.f1

/-- The bytes behind a cut. -/
theorem isBn_cut {rb : Nat} {w : World} {b off n c m : Nat} {Z : Nat → Nat} {a' : Option Addr} (hnc : n ≤ c) (h0 : b ≠ rb) (h2 : ∀ i, i < n → w.cell? ⟨b, off + i, none⟩ = some (.int .u8 (Z i : Int)) ∧ Z i ≤ 255) (ha : m < c → a' = some ⟨b, off + m, none⟩) : IsBn rb w a' (n - m) (shift Z m) := by
  by_cases e : n - m = 0
  · exact .inl e
  · refine .inr ⟨b, off + m, h0, ha (by omega), fun i hi => ?_⟩
    have := h2 (m + i) (by omega)
    rw [Nat.add_assoc]
    exact this

theorem readU_yes {rb : Nat} {ok : Bool} {Z : Nat → Nat} {w : World} {b off n c v m c' : Nat} {a' : Option Addr} (hf : IsField Z n v m) (H : Rd w rb (some ⟨b, off, none⟩) n c ok) (hnc : n ≤ c) (hbr : b ≠ rb)
    (h2 : ∀ i, i < n → w.cell? ⟨b, off + i, none⟩ = some (.int .u8 (Z i : Int)) ∧ Z i ≤ 255) (ha : m + 1 < c → a' = some ⟨b, off + (m + 1), none⟩) (hc' : c' = c - (m + 1)) :
    ReadU rb ok Z n c (.returned (.int .u64 (v : Int))) (w.setCell ⟨rb, 0, none⟩ (.slice a' (n - (m + 1)) c')) :=
  .inl ⟨v, m, hf, rfl, a', c', by omega, by omega, rd_cut H, isBn_grown (isBn_cut hnc hbr h2 ha) (grown_set _)⟩

theorem field_short {Z : Nat → Nat} {n C : Nat} (hn : 0 < n) (hC : C = Z 0) (h : C < 128) : IsField Z n C 0 := by
  refine ⟨⟨by omega, hn, fun i hi => by omega, by omega, fun e => by omega, ?_⟩, by omega⟩
  show C = 0 + Z 0 % 128 * 128 ^ 0
  rw [← hC]
  omega

set_option maxRecDepth 100000 in
set_option maxHeartbeats 2000000 in
/-- Uvarint. -/
theorem uv_any (rb n c : Nat) (a : Option Addr) (ok : Bool) (Z : Nat → Nat) (hn : n ≤ maxLen) (hnc : n ≤ c) (_hcm : c ≤ maxLen) (w : World) (H : Rd w rb a n c ok) (h : IsBn rb w a n Z) :
    Calls Try.prog 14 #[.pointer (some ⟨rb, 0, none⟩)] w fun e w' => ReadU rb ok Z n c e w' ∧ w.grownBy w' (some rb) := by
  have hb := h.isB
  have HISB : Hid (IsB w a n Z) := hb
  have c0 := H.c0
  have c1 := H.c1
  have f0 := H.f0
  have f1 := H.f1
  have HH : Hid (Rd w rb a n c ok) := H
  have HN : Hid (n ≤ maxLen) := hn
  clear H hb hn
  unfold maxLen at _hcm
  by_cases hn0 : n = 0
  · subst hn0
    clear h
    go_enter Try.func14, Try.ntmps14
    go_wp2_with fail
    refine (uvarint_any a 0 c Z HN.out _ HISB.out).mono ?_
    rintro e w1 ⟨hret, hw⟩
    obtain rfl := hw.symm
    rcases hret with ⟨v, m, hvar, _⟩ | ⟨hno, rfl⟩
    · exact absurd hvar.2.1 (by omega)
    have HNO : Hid (NoVar Z 0) := hno
    clear hno
    go_wp2_with fail
    refine (fail_any rb 0 c a ok _ HH.out).mono ?_
    rintro e w1 ⟨rfl, hrd, hg⟩
    have HRD : Hid (Rd w1 rb none 0 0 false) := hrd
    have HG : Hid (w.grownBy w1 (some rb)) := hg
    clear hrd hg
    go_wp2
    go_ret
    exact ⟨.inr ⟨noField_of_noVar HNO.out, rfl, HRD.out⟩, HG.out⟩
  rcases h with rfl | ⟨b, off, hbr, rfl, hc⟩
  · omega
  have HC : Hid (∀ i, i < n → w.cell? ⟨b, off + i, none⟩ = some (.int .u8 (Z i : Int)) ∧ Z i ≤ 255) := hc
  clear hc
  obtain ⟨hcell, hz⟩ := HC.out 0 (by omega)
  obtain ⟨C, hC⟩ : ∃ C, C = Z 0 := ⟨_, rfl⟩
  rw [← hC] at hcell hz
  rw [Nat.add_zero] at hcell
  have HZ0 : Hid (C = Z 0) := hC
  clear hC
  have hn1 : 0 < n := by omega
  have HBR : Hid (b ≠ rb) := hbr
  by_cases hC128 : C < 128
  · have HF : Hid (IsField Z n C 0) := field_short hn1 HZ0.out hC128
    go_enter Try.func14, Try.ntmps14
    go_wp2
    · have hc1 : c = 1 := by assumption
      go_ret
      subst hc1
      exact ⟨readU_yes HF.out HH.out hnc HBR.out HC.out (fun h => by omega) (by omega), grown_set _⟩
    · go_ret
      exact ⟨readU_yes HF.out HH.out hnc HBR.out HC.out (fun _ => rfl) rfl, grown_set _⟩
  · go_enter Try.func14, Try.ntmps14
    go_wp2_with fail
    refine (uvarint_any _ n c Z HN.out _ HISB.out).mono ?_
    rintro e w1 ⟨hret, hw⟩
    obtain rfl := hw.symm
    rcases hret with ⟨v, m, hvar, rfl⟩ | ⟨hno, rfl⟩
    · have HVAR : Hid (IsVar Z n v m) := hvar
      have hmn : m < n := hvar.2.1
      have hm9 : m ≤ 9 := hvar.1
      have hv64 := val_u64 hvar
      clear hvar
      by_cases hmax : v ≤ 4611686018427387904
      · have hm0 : (((m : Int) + 1) == 0) = false := by rw [beq_eq_false_iff_ne]; omega
        go_wp2_with fail
        · have hc1 : c = m + 1 := by assumption
          go_ret
          subst hc1
          exact ⟨readU_yes ⟨HVAR.out, hmax⟩ HH.out hnc HBR.out HC.out (fun h => by omega) (by omega), grown_set _⟩
        · go_ret
          exact ⟨readU_yes ⟨HVAR.out, hmax⟩ HH.out hnc HBR.out HC.out (fun _ => rfl) rfl, grown_set _⟩
      · go_wp2_with fail
        refine (fail_any rb n c _ ok _ HH.out).mono ?_
        rintro e w1 ⟨rfl, hrd, hg⟩
        have HRD : Hid (Rd w1 rb none 0 0 false) := hrd
        have HG : Hid (w.grownBy w1 (some rb)) := hg
        clear hrd hg
        go_wp2
        go_ret
        exact ⟨.inr ⟨noField_of_big HVAR.out hmax, rfl, HRD.out⟩, HG.out⟩
    · have HNO : Hid (NoVar Z n) := hno
      clear hno
      go_wp2_with fail
      refine (fail_any rb n c _ ok _ HH.out).mono ?_
      rintro e w1 ⟨rfl, hrd, hg⟩
      have HRD : Hid (Rd w1 rb none 0 0 false) := hrd
      have HG : Hid (w.grownBy w1 (some rb)) := hg
      clear hrd hg
      go_wp2
      go_ret
      exact ⟨.inr ⟨noField_of_noVar HNO.out, rfl, HRD.out⟩, HG.out⟩

/-- What a read of a flag leaves. -/
def ReadF (rb : Nat) (ok : Bool) (Z : Nat → Nat) (n c : Nat) (e : Ending) (w' : World) : Prop :=
  (∃ v m, IsField Z n v m ∧ e = .returned (.bool ((v : Int) == 1)) ∧ ∃ a' c', n - (m + 1) ≤ c' ∧ c' ≤ c ∧ Rd w' rb a' (n - (m + 1)) c' ok ∧ IsBn rb w' a' (n - (m + 1)) (shift Z (m + 1))) ∨
  (NoField Z n ∧ e = .returned (.bool false) ∧ Rd w' rb none 0 0 false)

/-- Flag. -/
theorem flag_any (rb n c : Nat) (a : Option Addr) (ok : Bool) (Z : Nat → Nat) (hn : n ≤ maxLen) (hnc : n ≤ c) (hcm : c ≤ maxLen) (w : World) (H : Rd w rb a n c ok) (h : IsBn rb w a n Z) :
    Calls Try.prog 11 #[.pointer (some ⟨rb, 0, none⟩)] w fun e w' => ReadF rb ok Z n c e w' ∧ w.grownBy w' (some rb) := by
  go_enter Try.func11, Try.ntmps11
  go_wp2_with fail
  refine (uv_any rb n c a ok Z hn hnc hcm _ H h).mono ?_
  rintro e w1 ⟨hret, hg⟩
  have HG : Hid (w.grownBy w1 (some rb)) := hg
  clear hg H h
  rcases hret with ⟨v, m, hf, rfl, a', c', h1, h1', h2, h3⟩ | ⟨hno, rfl, h2⟩
  · have HF : Hid (IsField Z n v m ∧ Rd w1 rb a' (n - (m + 1)) c' ok ∧ IsBn rb w1 a' (n - (m + 1)) (shift Z (m + 1))) := ⟨hf, h2, h3⟩
    clear hf h2 h3
    go_wp2
    go_ret
    exact ⟨.inl ⟨v, m, HF.out.1, rfl, a', c', h1, h1', HF.out.2.1, HF.out.2.2⟩, HG.out⟩
  · have HNO : Hid (NoField Z n) := hno
    have HRD : Hid (Rd w1 rb none 0 0 false) := h2
    clear hno h2
    go_wp2
    go_ret
    exact ⟨.inr ⟨HNO.out, rfl, HRD.out⟩, HG.out⟩
end Go.Proofs.Qxb6616629a
