/-
  Contract: zzReadFlags.
-/
import Derived.Test.Qxb6616629aFlagLow
import Derived.Test.Qxb6616629aCutPlain
import Derived.Deep.LoopGhost
import Derived.Maps.AppendAt
namespace Go.Proofs.Qxb6616629a
open Go.RowKit

theorem zzBytes4_any (a : Option Addr) (n c : Nat) (k : Int) (hn : n ≤ maxLen) (w : World) : Calls Try.prog 12 #[.slice a n c, .int .i64 k] w fun e w' => RetBool e ∧ w' = w := by
  unfold maxLen at hn
  go_enter Try.func12, Try.ntmps12
  go_wp2
  all_goals (go_ret; exact ⟨RetBool.mk _, rfl⟩)

theorem Try.info4 : (Try.prog.info? 4).map (fun i => (i.zero, i.size, i.bytes)) = some (some (.bool false), 1, 1) := by kernel_rfl

/-- A run's record in block b. -/
structure Rn (w : World) (b : Nat) (v : Value) (d f x : Bool) : Prop where
  c0 : w.cell? ⟨b, 0, none⟩ = some v
  c1 : w.cell? ⟨b, 1, none⟩ = some (.bool d)
  c2 : w.cell? ⟨b, 2, none⟩ = some (.bool f)
  c3 : w.cell? ⟨b, 3, none⟩ = some (.bool x)
  f0 : w.frozen? ⟨b, 0, none⟩ = false
  f1 : w.frozen? ⟨b, 1, none⟩ = false
  f2 : w.frozen? ⟨b, 2, none⟩ = false
  f3 : w.frozen? ⟨b, 3, none⟩ = false

/-- The answers: a slice of bools of the call's own. -/
def OwnF (w : World) (B : Nat) (v : Value) (fs : List Bool) : Prop := w.ownsRow B 4 1 v fs.length (fs.map Value.bool)
/-- The same, to be read alone. -/
def IsF (w : World) (a : Option Addr) (fs : List Bool) : Prop :=
  fs = [] ∨ ∃ b, a = some ⟨b, 0, none⟩ ∧ ∀ i, i < fs.length → w.cell? ⟨b, i, none⟩ = some (.bool (fs.getD i false))

theorem ownF_shape {w : World} {B : Nat} {v : Value} {fs : List Bool} (h : OwnF w B v fs) : ∃ a c, v = .slice a fs.length c := by
  rcases h.2 with ⟨rfl, h0⟩ | ⟨g, cap, cur, rfl, _⟩
  · exact ⟨none, 0, by rw [h0]⟩
  · exact ⟨_, _, rfl⟩
theorem ownF_isF {w : World} {B c : Nat} {a : Option Addr} {fs : List Bool} (h : OwnF w B (.slice a fs.length c) fs) : IsF w a fs := by
  rcases h.2 with ⟨_, h0⟩ | ⟨g, cap, cur, hv, _⟩
  · exact .inl (List.eq_nil_of_length_eq_zero h0)
  · simp only [Value.slice.injEq, true_and] at hv
    obtain ⟨rfl, rfl⟩ := hv
    refine .inr ⟨g, rfl, fun i hi => ?_⟩
    rw [World.ownsRow.cellAt h i (by omega), List.getElem?_map, List.getD_eq_getElem?_getD, List.getElem?_eq_getElem hi]
    rfl
theorem isF_below {w w' : World} {a : Option Addr} {fs : List Bool} (h : IsF w a fs) (hb : Below w.heap.size w w') : IsF w' a fs := by
  rcases h with h | ⟨b, h1, h2⟩
  · exact .inl h
  · exact .inr ⟨b, h1, fun i hi => (hb.cell (p := ⟨b, i, none⟩) (cell_lt (h2 i hi))).trans (h2 i hi)⟩

theorem rd_block {w w' : World} {rb n c : Nat} {a : Option Addr} {ok : Bool} (H : Rd w rb a n c ok) (h : w'.heap[rb]? = w.heap[rb]?) : Rd w' rb a n c ok :=
  ⟨(World.cell?_of_block (w := w) h).trans H.c0, (World.cell?_of_block (w := w) h).trans H.c1, (World.frozen?_of_block (w := w) h).trans H.f0, (World.frozen?_of_block (w := w) h).trans H.f1⟩
theorem rn_block {w w' : World} {b : Nat} {v : Value} {d f x : Bool} (H : Rn w b v d f x) (h : w'.heap[b]? = w.heap[b]?) : Rn w' b v d f x :=
  ⟨(World.cell?_of_block (w := w) h).trans H.c0, (World.cell?_of_block (w := w) h).trans H.c1, (World.cell?_of_block (w := w) h).trans H.c2, (World.cell?_of_block (w := w) h).trans H.c3,
   (World.frozen?_of_block (w := w) h).trans H.f0, (World.frozen?_of_block (w := w) h).trans H.f1, (World.frozen?_of_block (w := w) h).trans H.f2, (World.frozen?_of_block (w := w) h).trans H.f3⟩
theorem rd_grown {w w' : World} {rb n c : Nat} {a : Option Addr} {ok : Bool} {row : Option Nat} (H : Rd w rb a n c ok) (h : w.grownBy w' row) (hne : some rb ≠ row) : Rd w' rb a n c ok := rd_block H (h.block rb (cell_lt H.c0) hne)
theorem rn_grown {w w' : World} {b : Nat} {v : Value} {d f x : Bool} {row : Option Nat} (H : Rn w b v d f x) (h : w.grownBy w' row) (hne : some b ≠ row) : Rn w' b v d f x := rn_block H (h.block b (cell_lt H.c0) hne)
theorem rn_set0 {w : World} {b : Nat} {v v' : Value} {d f x : Bool} (H : Rn w b v d f x) : Rn (w.setCell ⟨b, 0, none⟩ v') b v' d f x := by
  refine ⟨World.cell?_setCell_same _ _ _ H.c0, (World.cell?_setCell_other _ ⟨b, 0, none⟩ ⟨b, 1, none⟩ _ (by simp)).trans H.c1, (World.cell?_setCell_other _ ⟨b, 0, none⟩ ⟨b, 2, none⟩ _ (by simp)).trans H.c2, (World.cell?_setCell_other _ ⟨b, 0, none⟩ ⟨b, 3, none⟩ _ (by simp)).trans H.c3, ?_, ?_, ?_, ?_⟩ <;> rw [World.frozen?_setCell]
  · exact H.f0
  · exact H.f1
  · exact H.f2
  · exact H.f3

/-- The blocks of the reading: the result, the reader, the record; behind them the answers. -/
structure Bl (B sb rb ob base : Nat) : Prop where
  h0 : B ≤ sb
  h1 : sb < rb
  h2 : rb < ob
  h3 : ob < base

/-- The reading's state: L bytes are left. -/
def Ra (w : World) (sb rb ob base N : Nat) (Z : Nat → Nat) (L : Nat) (wr : World) : Prop :=
  ∃ (p : Nat) (fs : List Bool) (a' : Option Addr) (c' : Nat) (v : Value), p + L = N ∧ L ≤ c' ∧ c' ≤ maxLen ∧ Rd wr rb a' L c' true ∧ IsBl w.heap.size wr a' L (shift Z p) ∧ Reads Z N fs 0 p ∧
    Rn wr sb (.slice none 0 0) false false false ∧ Rn wr ob v false false false ∧ OwnF wr base v fs ∧ Below w.heap.size w wr ∧ base ≤ wr.heap.size

def RetRun (Z : Nat → Nat) (N : Nat) (e : Ending) (w' : World) : Prop :=
  ∃ fs a c d f, e = .returned (.agg #[.slice a fs.length c, .bool d, .bool f, .bool false]) ∧ IsF w' a fs ∧ fs.length ≤ N ∧ Full Z N 0 fs d f

theorem one_bool (b : Bool) : ∀ u ∈ [Value.bool b], u.oneCell' = true := by intro u hu; simp at hu; subst hu; rfl

theorem not_own {w : World} {B e s n b : Nat} {v : Value} {xs : List Value} (h : w.ownsRow B e s v n xs) (hb : b < B) : some b ≠ v.ownBlock := fun e => by have := (h.lt b e.symm).1; omega

theorem ownF_set {w : World} {base b o : Nat} {v u : Value} {fs : List Bool} (h : OwnF w base v fs) (hb : b < base) : OwnF (w.setCell ⟨b, o, none⟩ u) base v fs := ownsRow_setCell_below h (a := ⟨b, o, none⟩) hb u

/-- The end: the record is written, and handed back. -/
theorem ret_end {w wr : World} {sb rb ob base N p : Nat} {Z : Nat → Nat} {fs : List Bool} {av : Option Addr} {cv : Nat} {d f x2 x3 : Bool} {y : Value} (HB : Bl w.heap.size sb rb ob base) (hown : OwnF wr base (.slice av fs.length cv) fs) (hbel : Below w.heap.size w wr) (hrs : Reads Z N fs 0 p) (hpN : p ≤ N)
    (hend : (p = N ∧ d = true ∧ f = false) ∨ (p < N ∧ NoField (shift Z p) (N - p) ∧ d = false ∧ f = true)) :
    RetRun Z N (.returned (.agg #[.slice av fs.length cv, .bool d, .bool f, .bool false])) (((((wr.setCell ⟨ob, 1, none⟩ y).setCell ⟨sb, 0, none⟩ (.slice av fs.length cv)).setCell ⟨sb, 1, none⟩ (.bool d)).setCell ⟨sb, 2, none⟩ (.bool x2)).setCell ⟨sb, 3, none⟩ (.bool x3)) ∧
    Below w.heap.size w (((((wr.setCell ⟨ob, 1, none⟩ y).setCell ⟨sb, 0, none⟩ (.slice av fs.length cv)).setCell ⟨sb, 1, none⟩ (.bool d)).setCell ⟨sb, 2, none⟩ (.bool x2)).setCell ⟨sb, 3, none⟩ (.bool x3)) := by
  have h0 := HB.h0
  have h1 := HB.h1
  have h2 := HB.h2
  have h3 := HB.h3
  have hl := reads_len hrs
  refine ⟨⟨fs, av, cv, d, f, rfl, ?_, by omega, p, hrs, hend⟩, ?_⟩
  · exact ownF_isF (B := base) (c := cv) (ownsRow_setCell_below (ownsRow_setCell_below (ownsRow_setCell_below (ownsRow_setCell_below (ownsRow_setCell_below hown (by show ob < base; omega) _) (by show sb < base; omega) _) (by show sb < base; omega) _) (by show sb < base; omega) _) (by show sb < base; omega) _)
  · exact ((((hbel.setCell (by show _ ≤ ob; omega) _).setCell (by show _ ≤ sb; omega) _).setCell (by show _ ≤ sb; omega) _).setCell (by show _ ≤ sb; omega) _).setCell (by show _ ≤ sb; omega) _

set_option maxRecDepth 100000 in
set_option maxHeartbeats 2000000 in
theorem readAll_any (a : Option Addr) (N c : Nat) (Z : Nat → Nat) (hn : N ≤ 1048576) (hnc : N ≤ c) (hcm : c ≤ maxLen) (w : World) (h : IsB w a N Z) :
    Calls Try.prog 13 #[.slice a N c] w fun e w' => RetRun Z N e w' ∧ Below w.heap.size w w' := by
  have q22 := fun w a n c => run_neq_slice_nil_any (P := Try.prog) w 22 5 a n c 0 0 Try.underlying22
  obtain ⟨i0, hi, hz0, hz1, hz2⟩ := info_parts Try.info4
  have HI : Hid (IsBl w.heap.size w a N Z) := isBl_of h
  clear h
  go_enter Try.func13, Try.ntmps13
  go_wp2_with fail
  refine (newReader_any a N c _).mono ?_
  rintro e w3 ⟨rfl, rfl⟩
  go_wp2_with fail
  obtain ⟨w0, hw0⟩ : ∃ w0, w0 = ((((w.alloc (Obj.cells #[Value.slice none 0 0, Value.bool false, Value.bool false, Value.bool false] 35)).alloc (Obj.cells #[Value.slice a N c, Value.bool true] 26)).alloc
          (Obj.cells #[Value.slice a N c, Value.bool true] 26)).alloc (Obj.cells #[Value.slice none 0 0, Value.bool false, Value.bool false, Value.bool false] 35)) := ⟨_, rfl⟩
  have hst : Ra w w.heap.size (w.heap.size + 1 + 1) (w.heap.size + 1 + 1 + 1) (w.heap.size + 1 + 1 + 1 + 1) N Z N w0 := by
    have hbel : Below w.heap.size w w0 := by
      rw [hw0]
      exact ((((Below.refl _ _).alloc (Nat.le_refl _) _).alloc (by simp) _).alloc (by simp; omega) _).alloc (by simp; omega) _
    refine ⟨0, [], a, c, .slice none 0 0, by omega, hnc, hcm, ?_, ?_, rfl, ?_, ?_, World.ownsRow_nil _ _ _ _, hbel, by rw [hw0]; simp⟩
    · rw [hw0]; constructor <;> simp [go_sem]
    · rw [shift_zero]; exact isBl_below HI.out hbel
    · rw [hw0]; constructor <;> simp [go_sem]
    · rw [hw0]; constructor <;> simp [go_sem]
  rw [← hw0]
  clear hw0 HI
  obtain ⟨sb, hsb⟩ : ∃ sb, sb = w.heap.size := ⟨_, rfl⟩
  obtain ⟨rb, hrb⟩ : ∃ rb, rb = w.heap.size + 1 + 1 := ⟨_, rfl⟩
  obtain ⟨ob, hob⟩ : ∃ ob, ob = w.heap.size + 1 + 1 + 1 := ⟨_, rfl⟩
  obtain ⟨base, hbase⟩ : ∃ base, base = w.heap.size + 1 + 1 + 1 + 1 := ⟨_, rfl⟩
  have hst' : Ra w sb rb ob base N Z N w0 := by rw [hsb, hrb, hob, hbase]; exact hst
  have HB : Hid (Bl w.heap.size sb rb ob base) := ⟨by omega, by omega, by omega, by omega⟩
  rw [← hob, ← hrb, ← hsb]
  clear hst hsb hrb hob hbase
  go_loopg [6] N (fun k _ wr => Ra w sb rb ob base N Z k wr)
  case atStart => exact hst'
  case round =>
    clear hst'
    obtain ⟨p, fs, a', c', v, hpL, hLc, hcm', hrd, hisb, hrs, hsn, hon, hown, hbel, hsz⟩ := hrel
    obtain ⟨av, cv, rfl⟩ := ownF_shape hown
    have HPL : Hid (p + gk = N) := hpL
    have hLN : gk ≤ N := by omega
    have HRD : Hid (Rd wr rb a' gk c' true) := hrd
    have HSB : Hid (IsBl w.heap.size wr a' gk (shift Z p)) := hisb
    have HRS : Hid (Reads Z N fs 0 p) := hrs
    have HSN : Hid (Rn wr sb (.slice none 0 0) false false false) := hsn
    have HON : Hid (Rn wr ob (.slice av fs.length cv) false false false) := hon
    have HOW : Hid (OwnF wr base (.slice av fs.length cv) fs) := hown
    have HBL : Hid (Below w.heap.size w wr) := hbel
    have HSZ : Hid (base ≤ wr.heap.size) := hsz
    have HCM : Hid (c' ≤ maxLen) := hcm'
    have hfl : fs.length ≤ N := by have := reads_len hrs; omega
    clear hpL hrd hisb hrs hsn hon hown hbel hsz hcm'
    by_cases hL0 : gk = 0
    · subst hL0
      go_wp2_with fail
      refine (more_no rb c' a' _ HRD.out).mono ?_
      rintro e w5 ⟨rfl, hw⟩
      obtain rfl := hw.symm
      go_wp2_with fail
      refine (done_yes rb c' a' _ HRD.out).mono ?_
      rintro e w5 ⟨rfl, hw⟩
      obtain rfl := hw.symm
      have o0 := HON.out.c0
      have o1 := HON.out.c1
      have o2 := HON.out.c2
      have o3 := HON.out.c3
      have g1 := HON.out.f1
      have s0 := HSN.out.c0
      have s1 := HSN.out.c1
      have s2 := HSN.out.c2
      have s3 := HSN.out.c3
      have p0 := HSN.out.f0
      have p1 := HSN.out.f1
      have p2 := HSN.out.f2
      have p3 := HSN.out.f3
      have hso : sb ≠ ob := by have := HB.out.h1; have := HB.out.h2; omega
      go_wp2_with fail
      exact bodyPost_ret (v := .agg #[.slice av fs.length cv, .bool true, .bool false, .bool false]) (by simp [results, Try.results13, go_sem, s0, s1, s2, s3]) rfl (ret_end HB.out HOW.out HBL.out HRS.out (by have := HPL.out; omega) (.inl ⟨by have := HPL.out; omega, rfl, rfl⟩))
    · have hLpos : 0 < gk := by omega
      go_wp2_with fail
      refine (more_yes rb gk c' a' _ HRD.out hLpos).mono ?_
      rintro e w5 ⟨rfl, hw⟩
      obtain rfl := hw.symm
      have r0 := HRD.out.c0
      go_wp2_with fail
      refine (flag_low w.heap.size rb gk c' a' true (shift Z p) (by have := HB.out.h0; have := HB.out.h1; omega) (by unfold maxLen; omega) hLc HCM.out _ HRD.out HSB.out).mono ?_
      rintro e w5 ⟨hret, hg⟩
      clear r0
      have hrb : w.heap.size ≤ rb := by have := HB.out.h0; have := HB.out.h1; omega
      have HBL5 : Hid (Below w.heap.size w w5) := HBL.out.grown hg HBL.out.size (fun k hk => by cases hk; exact hrb)
      have HON5 : Hid (Rn w5 ob (.slice av fs.length cv) false false false) := rn_grown HON.out hg (by have := HB.out.h2; simp; omega)
      have HSN5 : Hid (Rn w5 sb (.slice none 0 0) false false false) := rn_grown HSN.out hg (by have := HB.out.h1; simp; omega)
      have HOW5 : Hid (OwnF w5 base (.slice av fs.length cv) fs) := World.ownsRow.kept HOW.out hg (.inr (Ne.symm (not_own HOW.out (by have := HB.out.h2; have := HB.out.h3; omega))))
      have HSZ5 : Hid (base ≤ w5.heap.size) := Nat.le_trans HSZ.out hg.size
      clear hg hrb HBL HON HSN HOW HSZ
      have o0 := HON5.out.c0
      have o1 := HON5.out.c1
      have o2 := HON5.out.c2
      have o3 := HON5.out.c3
      have g0 := HON5.out.f0
      have g1 := HON5.out.f1
      have g2 := HON5.out.f2
      rcases hret with ⟨v', m', hf', rfl, a'', c'', hc1, hc2, hrd, hsb⟩ | ⟨hno, rfl, hrd⟩
      · have hmL : m' < gk := hf'.1.2.1
        obtain ⟨M, hM⟩ : ∃ M, M = gk - (m' + 1) := ⟨_, rfl⟩
        rw [← hM] at hc1 hrd hsb
        rw [shift_shift] at hsb
        have HM : Hid (p + (m' + 1) + M = N) := by have := HPL.out; show _ = _; omega
        have hMlt : M < gk := by omega
        have HF : Hid (IsField (shift Z p) (N - p) v' m') := by rw [show N - p = gk from by have := HPL.out; omega]; exact hf'
        clear hM hf'
        have HRD5 : Hid (Rd w5 rb a'' M c'' true) := hrd
        have HSB5 : Hid (IsBl w.heap.size w5 a'' M (shift Z (p + (m' + 1)))) := hsb
        have r0 := hrd.c0
        have r1 := hrd.c1
        clear hrd hsb
        obtain ⟨b, hb⟩ : ∃ b : Bool, b = ((v' : Int) == 1) := ⟨_, rfl⟩
        rw [← hb]
        have HBB : Hid (b = ((v' : Int) == 1)) := hb
        clear hb
        go_wp2_with (at_builtin; refine wpList_append_own_at _ rfl (.tmp 36) (.tmp 38) 33 rfl base 4 i0 (.bool false) 1 1 Try.underlying33 hi hz0 hz1 hz2 rfl (by decide) (.slice av fs.length cv) fs.length (fs.map Value.bool) rfl (World.ownsRow.alloc HOW5.out _) ⟨w5.heap.size, 0, none⟩ 1 1 [.bool b] rfl rfl (cell_one_new _ _ _) (one_bool _) (by unfold maxLen; omega) (by omega) (by have := HSZ5.out; simp; omega) ?_; intro v1 w6 hown1 hgrow1 _ _; have hown2 : OwnF w6 base v1 (fs ++ [b]) := (by simpa [OwnF] using hown1); obtain ⟨a1, c1, rfl⟩ := ownF_shape hown2; clear hown1; have hob : ob < base := HB.out.h3; have hrb : rb < base := (by have := HB.out.h2; omega); have hsb : sb < base := (by have := HB.out.h1; omega); have HG : Hid ((w5.alloc (Obj.cells #[Value.bool b] 4)).grownBy w6 (Value.slice av fs.length cv).ownBlock) := hgrow1; clear hgrow1; have HOW6 : Hid (OwnF w6 base (.slice a1 (fs ++ [b]).length c1) (fs ++ [b])) := hown2; clear hown2; have HON6 : Hid (Rn w6 ob (.slice av fs.length cv) false false false) := rn_grown (rn_grown HON5.out (World.grownBy_alloc w5 _ none) (by simp)) HG.out (not_own HOW5.out hob); clear o0 o1 o2 o3 g0 g1 g2; have o0 := HON6.out.c0; have g0 := HON6.out.f0)
        go_roundg M
        case measure => exact hMlt
        case rel =>
          have hgA := World.grownBy_alloc w5 (Obj.cells #[Value.bool b] 4) none
          have hB0 : w.heap.size ≤ ob := by have := HB.out.h0; have := HB.out.h1; have := HB.out.h2; omega
          have hb6 : Below w.heap.size w5 w6 := ((Below.refl _ _).grown hgA HBL5.out.size (fun k hk => by cases hk)).grown HG.out (by have := HBL5.out.size; simp; omega) (fun k hk => by have := (World.ownsRow.lt HOW5.out k hk).1; omega)
          have how6 : OwnF w6 base (.slice a1 (fs.length + 1) c1) (fs ++ [b]) := by simpa using HOW6.out
          refine ⟨p + (m' + 1), fs ++ [b], a'', c'', _, HM.out, hc1, by have := HCM.out; omega, ?_, ?_, ?_, ?_, rn_set0 HON6.out, ownF_set how6 hob, (HBL5.out.trans hb6).setCell hB0 _, ?_⟩
          · exact rd_grown (rd_grown (rd_grown HRD5.out hgA (by simp)) HG.out (not_own HOW5.out hrb)) (grown_set _) (by have := HB.out.h2; simp; omega)
          · exact isBl_below HSB5.out (hb6.setCell hB0 _)
          · have hh := reads_snoc HRS.out HF.out
            rw [← HBB.out] at hh
            exact hh
          · exact rn_grown (rn_grown (rn_grown HSN5.out hgA (by simp)) HG.out (not_own HOW5.out hsb)) (grown_set _) (by have := HB.out.h1; have := HB.out.h2; simp; omega)
          · have h1 := HSZ5.out
            have h2 := HG.out.size
            simp at h2 ⊢
            omega
      · have HNO : Hid (NoField (shift Z p) (N - p)) := by rw [show N - p = gk from by have := HPL.out; omega]; exact hno
        have HRD5 : Hid (Rd w5 rb none 0 0 false) := hrd
        have r0 := hrd.c0
        have r1 := hrd.c1
        clear hno hrd
        go_wp2_with fail
        refine (more_bad rb 0 0 none _ HRD5.out).mono ?_
        rintro e w6 ⟨rfl, hw⟩
        obtain rfl := hw.symm
        have hro : rb ≠ ob := by have := HB.out.h2; omega
        go_wp2_with fail
        refine (done_bad rb 0 0 none _ (rd_grown HRD5.out (grown_set _) (by simpa using hro))).mono ?_
        rintro e w6 ⟨rfl, hw⟩
        obtain rfl := hw.symm
        have s0 := HSN5.out.c0
        have s1 := HSN5.out.c1
        have s2 := HSN5.out.c2
        have s3 := HSN5.out.c3
        have p0 := HSN5.out.f0
        have p1 := HSN5.out.f1
        have p2 := HSN5.out.f2
        have p3 := HSN5.out.f3
        have hso : sb ≠ ob := by have := HB.out.h1; have := HB.out.h2; omega
        go_wp2_with fail
        exact bodyPost_ret (v := .agg #[.slice av fs.length cv, .bool false, .bool true, .bool false]) (by simp [results, Try.results13, go_sem, s0, s1, s2, s3]) rfl (ret_end HB.out (ownsRow_setCell_below HOW5.out (by show ob < base; exact HB.out.h3) _) (HBL5.out.setCell (by show _ ≤ ob; have := HB.out.h0; have := HB.out.h1; have := HB.out.h2; omega) _) HRS.out (by have := HPL.out; omega) (.inr ⟨by have := HPL.out; omega, HNO.out, rfl, rfl⟩))
end Go.Proofs.Qxb6616629a
