/-
  Contracts of Uvarint and Flag again, where the bytes lie below block B: what is left lies there too.
-/
import Derived.Test.Qxb6616629aFlags
namespace Go.Proofs.Qxb6616629a
open Go.RowKit

/-- n bytes Z behind the slice's address, in a block below B; of an empty slice nothing is known. -/
def IsBl (B : Nat) (w : World) (a : Option Addr) (n : Nat) (Z : Nat → Nat) : Prop :=
  n = 0 ∨ ∃ b off, b < B ∧ a = some ⟨b, off, none⟩ ∧ ∀ i, i < n → w.cell? ⟨b, off + i, none⟩ = some (.int .u8 (Z i : Int)) ∧ Z i ≤ 255

theorem IsBl.isB {B : Nat} {w : World} {a : Option Addr} {n : Nat} {Z : Nat → Nat} (h : IsBl B w a n Z) : IsB w a n Z := by
  rcases h with h | ⟨b, off, _, h1, h2⟩
  · exact .inl h
  · exact .inr ⟨b, off, h1, h2⟩
theorem isBl_of {w : World} {a : Option Addr} {n : Nat} {Z : Nat → Nat} (h : IsB w a n Z) : IsBl w.heap.size w a n Z := by
  rcases h with h | ⟨b, off, h1, h2⟩
  · exact .inl h
  · by_cases hn : n = 0
    · exact .inl hn
    · exact .inr ⟨b, off, cell_lt (h2 0 (by omega)).1, h1, h2⟩
theorem isBl_below {B : Nat} {w w' : World} {a : Option Addr} {n : Nat} {Z : Nat → Nat} (h : IsBl B w a n Z) (hb : Below B w w') : IsBl B w' a n Z := by
  rcases h with h | ⟨b, off, h0, h1, h2⟩
  · exact .inl h
  · exact .inr ⟨b, off, h0, h1, fun i hi => ⟨(hb.cell (p := ⟨b, off + i, none⟩) h0).trans (h2 i hi).1, (h2 i hi).2⟩⟩
theorem isBl_grown {B rb : Nat} {w w' : World} {a : Option Addr} {n : Nat} {Z : Nat → Nat} (h : IsBl B w a n Z) (hg : w.grownBy w' (some rb)) (hr : B ≤ rb) : IsBl B w' a n Z := by
  rcases h with h | ⟨b, off, h0, h1, h2⟩
  · exact .inl h
  · exact .inr ⟨b, off, h0, h1, fun i hi => ⟨hg.cell (h2 i hi).1 (by simp; omega), (h2 i hi).2⟩⟩

def LowU (B rb : Nat) (ok : Bool) (Z : Nat → Nat) (n c : Nat) (e : Ending) (w' : World) : Prop :=
  (∃ v m, IsField Z n v m ∧ e = .returned (.int .u64 (v : Int)) ∧ ∃ a' c', n - (m + 1) ≤ c' ∧ c' ≤ c ∧ Rd w' rb a' (n - (m + 1)) c' ok ∧ IsBl B w' a' (n - (m + 1)) (shift Z (m + 1))) ∨
  (NoField Z n ∧ e = .returned (.int .u64 0) ∧ Rd w' rb none 0 0 false)

theorem isBl_cut {B : Nat} {w : World} {b off n c m : Nat} {Z : Nat → Nat} {a' : Option Addr} (hnc : n ≤ c) (h0 : b < B) (h2 : ∀ i, i < n → w.cell? ⟨b, off + i, none⟩ = some (.int .u8 (Z i : Int)) ∧ Z i ≤ 255) (ha : m < c → a' = some ⟨b, off + m, none⟩) : IsBl B w a' (n - m) (shift Z m) := by
  by_cases e : n - m = 0
  · exact .inl e
  · refine .inr ⟨b, off + m, h0, ha (by omega), fun i hi => ?_⟩
    have := h2 (m + i) (by omega)
    rw [Nat.add_assoc]
    exact this

theorem lowU_yes {B rb : Nat} {ok : Bool} {Z : Nat → Nat} {w : World} {b off n c v m c' : Nat} {a' : Option Addr} (hB : B ≤ rb) (hf : IsField Z n v m) (H : Rd w rb (some ⟨b, off, none⟩) n c ok) (hnc : n ≤ c) (hbr : b < B)
    (h2 : ∀ i, i < n → w.cell? ⟨b, off + i, none⟩ = some (.int .u8 (Z i : Int)) ∧ Z i ≤ 255) (ha : m + 1 < c → a' = some ⟨b, off + (m + 1), none⟩) (hc' : c' = c - (m + 1)) :
    LowU B rb ok Z n c (.returned (.int .u64 (v : Int))) (w.setCell ⟨rb, 0, none⟩ (.slice a' (n - (m + 1)) c')) :=
  .inl ⟨v, m, hf, rfl, a', c', by omega, by omega, rd_cut H, isBl_grown (isBl_cut hnc hbr h2 ha) (grown_set _) hB⟩

set_option maxRecDepth 100000 in
set_option maxHeartbeats 2000000 in
/-- Uvarint. -/
theorem uv_low (B rb n c : Nat) (a : Option Addr) (ok : Bool) (Z : Nat → Nat) (hB : B ≤ rb) (hn : n ≤ maxLen) (hnc : n ≤ c) (_hcm : c ≤ maxLen) (w : World) (H : Rd w rb a n c ok) (h : IsBl B w a n Z) :
    Calls Try.prog 14 #[.pointer (some ⟨rb, 0, none⟩)] w fun e w' => LowU B rb ok Z n c e w' ∧ w.grownBy w' (some rb) := by
  have HBB : Hid (B ≤ rb) := hB
  clear hB
  have hb := h.isB
  have HISB : Hid (IsB w a n Z) := hb
  have c0 := H.c0
  have c1 := H.c1
  have f0 := H.f0
  have f1 := H.f1
  have HH : Hid (Rd w rb a n c ok) := H
  have HN : Hid (n ≤ maxLen) := hn
  clear H hb hn
  unfold maxLen at _hcm
  by_cases hn0 : n = 0
  · subst hn0
    clear h
    go_enter Try.func14, Try.ntmps14
    go_wp2_with fail
    refine (uvarint_any a 0 c Z HN.out _ HISB.out).mono ?_
    rintro e w1 ⟨hret, hw⟩
    obtain rfl := hw.symm
    rcases hret with ⟨v, m, hvar, _⟩ | ⟨hno, rfl⟩
    · exact absurd hvar.2.1 (by omega)
    have HNO : Hid (NoVar Z 0) := hno
    clear hno
    go_wp2_with fail
    refine (fail_any rb 0 c a ok _ HH.out).mono ?_
    rintro e w1 ⟨rfl, hrd, hg⟩
    have HRD : Hid (Rd w1 rb none 0 0 false) := hrd
    have HG : Hid (w.grownBy w1 (some rb)) := hg
    clear hrd hg
    go_wp2
    go_ret
    exact ⟨.inr ⟨noField_of_noVar HNO.out, rfl, HRD.out⟩, HG.out⟩
  rcases h with rfl | ⟨b, off, hbr, rfl, hc⟩
  · omega
  have HC : Hid (∀ i, i < n → w.cell? ⟨b, off + i, none⟩ = some (.int .u8 (Z i : Int)) ∧ Z i ≤ 255) := hc
  clear hc
  obtain ⟨hcell, hz⟩ := HC.out 0 (by omega)
  obtain ⟨C, hC⟩ : ∃ C, C = Z 0 := ⟨_, rfl⟩
  rw [← hC] at hcell hz
  rw [Nat.add_zero] at hcell
  have HZ0 : Hid (C = Z 0) := hC
  clear hC
  have hn1 : 0 < n := by omega
  have HBR : Hid (b < B) := hbr
  have hbne : b ≠ rb := by have := HBB.out; omega
  clear hbr
  by_cases hC128 : C < 128
  · have HF : Hid (IsField Z n C 0) := field_short hn1 HZ0.out hC128
    go_enter Try.func14, Try.ntmps14
    go_wp2
    · have hc1 : c = 1 := by assumption
      go_ret
      subst hc1
      exact ⟨lowU_yes HBB.out HF.out HH.out hnc HBR.out HC.out (fun h => by omega) (by omega), grown_set _⟩
    · go_ret
      exact ⟨lowU_yes HBB.out HF.out HH.out hnc HBR.out HC.out (fun _ => rfl) rfl, grown_set _⟩
  · go_enter Try.func14, Try.ntmps14
    go_wp2_with fail
    refine (uvarint_any _ n c Z HN.out _ HISB.out).mono ?_
    rintro e w1 ⟨hret, hw⟩
    obtain rfl := hw.symm
    rcases hret with ⟨v, m, hvar, rfl⟩ | ⟨hno, rfl⟩
    · have HVAR : Hid (IsVar Z n v m) := hvar
      have hmn : m < n := hvar.2.1
      have hm9 : m ≤ 9 := hvar.1
      have hv64 := val_u64 hvar
      clear hvar
      by_cases hmax : v ≤ 4611686018427387904
      · have hm0 : (((m : Int) + 1) == 0) = false := by rw [beq_eq_false_iff_ne]; omega
        go_wp2_with fail
        · have hc1 : c = m + 1 := by assumption
          go_ret
          subst hc1
          exact ⟨lowU_yes HBB.out ⟨HVAR.out, hmax⟩ HH.out hnc HBR.out HC.out (fun h => by omega) (by omega), grown_set _⟩
        · go_ret
          exact ⟨lowU_yes HBB.out ⟨HVAR.out, hmax⟩ HH.out hnc HBR.out HC.out (fun _ => rfl) rfl, grown_set _⟩
      · go_wp2_with fail
        refine (fail_any rb n c _ ok _ HH.out).mono ?_
        rintro e w1 ⟨rfl, hrd, hg⟩
        have HRD : Hid (Rd w1 rb none 0 0 false) := hrd
        have HG : Hid (w.grownBy w1 (some rb)) := hg
        clear hrd hg
        go_wp2
        go_ret
        exact ⟨.inr ⟨noField_of_big HVAR.out hmax, rfl, HRD.out⟩, HG.out⟩
    · have HNO : Hid (NoVar Z n) := hno
      clear hno
      go_wp2_with fail
      refine (fail_any rb n c _ ok _ HH.out).mono ?_
      rintro e w1 ⟨rfl, hrd, hg⟩
      have HRD : Hid (Rd w1 rb none 0 0 false) := hrd
      have HG : Hid (w.grownBy w1 (some rb)) := hg
      clear hrd hg
      go_wp2
      go_ret
      exact ⟨.inr ⟨noField_of_noVar HNO.out, rfl, HRD.out⟩, HG.out⟩

/-- What a read of a flag leaves. -/
def LowF (B rb : Nat) (ok : Bool) (Z : Nat → Nat) (n c : Nat) (e : Ending) (w' : World) : Prop :=
  (∃ v m, IsField Z n v m ∧ e = .returned (.bool ((v : Int) == 1)) ∧ ∃ a' c', n - (m + 1) ≤ c' ∧ c' ≤ c ∧ Rd w' rb a' (n - (m + 1)) c' ok ∧ IsBl B w' a' (n - (m + 1)) (shift Z (m + 1))) ∨
  (NoField Z n ∧ e = .returned (.bool false) ∧ Rd w' rb none 0 0 false)

/-- Flag. -/
theorem flag_low (B rb n c : Nat) (a : Option Addr) (ok : Bool) (Z : Nat → Nat) (hB : B ≤ rb) (hn : n ≤ maxLen) (hnc : n ≤ c) (hcm : c ≤ maxLen) (w : World) (H : Rd w rb a n c ok) (h : IsBl B w a n Z) :
    Calls Try.prog 11 #[.pointer (some ⟨rb, 0, none⟩)] w fun e w' => LowF B rb ok Z n c e w' ∧ w.grownBy w' (some rb) := by
  go_enter Try.func11, Try.ntmps11
  go_wp2_with fail
  refine (uv_low B rb n c a ok Z hB hn hnc hcm _ H h).mono ?_
  rintro e w1 ⟨hret, hg⟩
  have HG : Hid (w.grownBy w1 (some rb)) := hg
  clear hg H h
  rcases hret with ⟨v, m, hf, rfl, a', c', h1, h1', h2, h3⟩ | ⟨hno, rfl, h2⟩
  · have HF : Hid (IsField Z n v m ∧ Rd w1 rb a' (n - (m + 1)) c' ok ∧ IsBl B w1 a' (n - (m + 1)) (shift Z (m + 1))) := ⟨hf, h2, h3⟩
    clear hf h2 h3
    go_wp2
    go_ret
    exact ⟨.inl ⟨v, m, HF.out.1, rfl, a', c', h1, h1', HF.out.2.1, HF.out.2.2⟩, HG.out⟩
  · have HNO : Hid (NoField Z n) := hno
    have HRD : Hid (Rd w1 rb none 0 0 false) := h2
    clear hno h2
    go_wp2
    go_ret
    exact ⟨.inr ⟨HNO.out, rfl, HRD.out⟩, HG.out⟩
end Go.Proofs.Qxb6616629a
