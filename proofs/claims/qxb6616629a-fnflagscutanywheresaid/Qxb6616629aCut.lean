/-
  The walk of 'FnFlagsCutAnywhere'.
-/
import Derived.Test.Qxb6616629aReadAll
import Derived.Deep.CutBlock
namespace Go.Proofs.Qxb6616629a
open Go.RowKit

/-- The model's loop: p bytes are read, the answers are fs; g bytes are left ahead of the cut. -/
def Lp (w : World) (B N k : Nat) (Z : Nat → Nat) (g : Nat) (fv pv bv : Value) (wr : World) : Prop :=
  ∃ (p : Nat) (fs : List Bool), p + g = k ∧ pv = .int .i64 p ∧ bv = .bool (decide (p = k)) ∧ Reads Z N fs 0 p ∧ OwnF wr B fv fs ∧ Below B w wr ∧ B ≤ wr.heap.size
/-- Its end. -/
def Le (w : World) (B N k : Nat) (Z : Nat → Nat) (fv bv : Value) (wr : World) : Prop :=
  ∃ (p : Nat) (fs : List Bool), p ≤ k ∧ (p < k → ∀ v m, IsField (shift Z p) (N - p) v m → k < p + (m + 1)) ∧ bv = .bool (decide (p = k)) ∧ Reads Z N fs 0 p ∧ OwnF wr B fv fs ∧ Below B w wr ∧ B ≤ wr.heap.size

theorem ownF_snoc {w : World} {B : Nat} {v : Value} {fs : List Bool} {b : Bool} (h : w.ownsRow B 4 1 v (fs.length + 1) (fs.map Value.bool ++ [.bool b])) : OwnF w B v (fs ++ [b]) := by
  unfold OwnF
  rw [List.length_append, List.map_append]
  exact h

theorem isB_less {w : World} {a : Option Addr} {n k : Nat} {Z : Nat → Nat} (h : IsB w a n Z) (hk : k ≤ n) : IsB w a k Z := by
  rcases h with h | ⟨b, off, h1, h2⟩
  · exact .inl (by omega)
  · exact .inr ⟨b, off, h1, fun i hi => h2 i (by omega)⟩

theorem isB_tail {w : World} {a : Option Addr} {n k : Nat} {Z : Nat → Nat} (h : IsB w a n Z) (_ : k ≤ n) : IsB w (Option.map (fun x => x.add k) a) (n - k) (shift Z k) := by
  rcases h with h | ⟨b, off, rfl, h2⟩
  · exact .inl (by omega)
  · refine .inr ⟨b, off + k, by simp [Addr.add], fun i hi => ?_⟩
    have := h2 (k + i) (by omega)
    rw [Nat.add_assoc]
    exact this

/-- A run's record behind a pointer. -/
def Rec (Y : Nat → Nat) (n : Nat) (w : World) (pv : Value) : Prop :=
  ∃ r fs a c d f, pv = .pointer (some ⟨r, 0, none⟩) ∧ Rn w r (.slice a fs.length c) d f false ∧ IsF w a fs ∧ fs.length ≤ n ∧ Full Y n 0 fs d f
theorem rn_new (w : World) (v : Value) (d f : Bool) : Rn (w.alloc (Obj.cells #[v, .bool d, .bool f, .bool false] 35)) w.heap.size v d f false := by
  constructor <;> simp [go_sem]
theorem rec_new {w : World} {Y : Nat → Nat} {n c : Nat} {fs : List Bool} {a : Option Addr} {d f : Bool} (h : IsF w a fs) (hl : fs.length ≤ n) (hf : Full Y n 0 fs d f) : Rec Y n (w.alloc (Obj.cells #[.slice a fs.length c, .bool d, .bool f, .bool false] 35)) (.pointer (some ⟨w.heap.size, 0, none⟩)) :=
  ⟨w.heap.size, fs, a, c, d, f, rfl, rn_new _ _ _ _, isF_below h ((Below.refl _ _).alloc (Nat.le_refl _) _), hl, hf⟩
theorem rn_below {w w' : World} {b : Nat} {v : Value} {d f x : Bool} (h : Rn w b v d f x) (hb : Below w.heap.size w w') : Rn w' b v d f x := rn_block h (hb.block b (cell_lt h.c0))

/-- All that the comparisons read. -/
structure Fa (w : World) (rW rH rT : Nat) (aW aH aT av : Option Addr) (nW cW cH cT : Nat) (fs rs fsT : List Bool) (dW fW dH fH dT fT : Bool) : Prop where
  rW : Rn w rW (.slice aW nW cW) dW fW false
  rH : Rn w rH (.slice aH fs.length cH) dH fH false
  rT : Rn w rT (.slice aT fsT.length cT) dT fT false
  iW : IsF w aW (fs ++ rs)
  iH : IsF w aH fs
  iT : IsF w aT fsT
  i0 : IsF w av fs
  nW : nW = fs.length + rs.length
theorem rn_drew {w : World} {b : Nat} {v : Value} {d f x : Bool} (H : Rn w b v d f x) (q : Nat) : Rn (w.drewN q) b v d f x := ⟨H.c0, H.c1, H.c2, H.c3, H.f0, H.f1, H.f2, H.f3⟩
theorem isF_drew {w : World} {a : Option Addr} {fs : List Bool} (h : IsF w a fs) (q : Nat) : IsF (w.drewN q) a fs := h
theorem fa_drew {w : World} {rW rH rT : Nat} {aW aH aT av : Option Addr} {nW cW cH cT : Nat} {fs rs fsT : List Bool} {dW fW dH fH dT fT : Bool} (h : Fa w rW rH rT aW aH aT av nW cW cH cT fs rs fsT dW fW dH fH dT fT) (q : Nat) : Fa (w.drewN q) rW rH rT aW aH aT av nW cW cH cT fs rs fsT dW fW dH fH dT fT :=
  ⟨rn_drew h.rW q, rn_drew h.rH q, rn_drew h.rT q, isF_drew h.iW q, isF_drew h.iH q, isF_drew h.iT q, isF_drew h.i0 q, h.nW⟩

/-- The comparisons' loops. -/
def Ri (w0 w : World) (n : Nat) (iv : Value) (rW rH rT : Nat) (aW aH aT av : Option Addr) (nW cW cH cT : Nat) (fs rs fsT : List Bool) (dW fW dH fH dT fT : Bool) : Prop :=
  ∃ i : Nat, i ≤ n ∧ iv = .int .i64 i ∧ Fa w rW rH rT aW aH aT av nW cW cH cT fs rs fsT dW fW dH fH dT fT ∧ Below w0.heap.size w0 w
theorem getD_app {fs rs : List Bool} {i : Nat} (h : i < fs.length) : (fs ++ rs).getD i false = fs.getD i false := by
  rw [List.getD_eq_getElem?_getD, List.getD_eq_getElem?_getD, List.getElem?_append_left h]
theorem getD_app2 {fs rs : List Bool} {i : Nat} : (fs ++ rs).getD (fs.length + i) false = rs.getD i false := by
  rw [List.getD_eq_getElem?_getD, List.getD_eq_getElem?_getD, List.getElem?_append_right (by omega)]
  congr 2
  omega

theorem below_drewN (B : Nat) (w : World) (n : Nat) : Below B w (w.drewN n) := ⟨rfl, rfl, rfl, Nat.le_refl _, fun _ _ => rfl⟩

/-- One field more. -/
theorem lp_step {w wr w6 : World} {B N k g p v m cv : Nat} {Z : Nat → Nat} {fs : List Bool} {av : Option Addr} {o : Obj} {v1 pv bv : Value} (_ : p + g = k) (hrs : Reads Z N fs 0 p) (hf : IsField (shift Z p) (N - p) v m) (hown : OwnF wr B (.slice av fs.length cv) fs) (hbel : Below B w wr) (hsz : B ≤ wr.heap.size)
    (hown6 : OwnF w6 B v1 (fs ++ [((v : Int) == 1)])) (hg : (wr.alloc o).grownBy w6 (Value.slice av fs.length cv).ownBlock) (hle : p + (m + 1) ≤ k) (hpv : pv = .int .i64 ((p + (m + 1) : Nat) : Int)) (hbv : bv = .bool (decide (p + (m + 1) = k))) :
    Lp w B N k Z (k - (p + (m + 1))) v1 pv bv w6 := by
  refine ⟨p + (m + 1), _, by omega, hpv, hbv, reads_snoc hrs hf, hown6, ?_, ?_⟩
  · exact (hbel.alloc hsz _).grown hg (by simp; omega) (fun k hk => (World.ownsRow.lt hown k hk).1)
  · have := hg.size
    simp at this
    omega

theorem start_eq (k : Nat) : Value.bool ((k : Int) == 0) = .bool (decide (0 = k)) := by
  by_cases h : k = 0
  · subst h; rfl
  · have : ((k : Int) == 0) = false := by rw [beq_eq_false_iff_ne]; omega
    rw [this, decide_eq_false (by omega)]

set_option maxRecDepth 100000 in
set_option maxHeartbeats 2000000 in
theorem cut_main (a : Option Addr) (N c k : Nat) (Z : Nat → Nat) (hn : N ≤ 1048576) (hk : k ≤ N) (ha : a = none → N = 0) (w : World) (h : IsB w a N Z) :
    Calls Try.prog 4 #[.slice a N c, .int .i64 k] w fun e w' => e = .returned (.bool true) ∧ Below w.heap.size w w' := by
  have hnm : N ≤ maxLen := by unfold maxLen; omega
  have HI : Hid (IsB w a N Z) := h
  have HA : Hid (a = none → N = 0) := ha
  clear h ha
  obtain ⟨i0, hi, hz0, hz1, hz2⟩ := info_parts Try.info4
  go_enter Try.func4, Try.ntmps4
  go_wp2_with (go_at_call 12; refine (zzBytes4_any a N c k hnm _).mono ?_; rintro e w' ⟨⟨r, rfl⟩, hw⟩; obtain rfl := hw.symm)
  · go_ret
    exact ⟨rfl, Below.refl _ _⟩
  refine (clone_any a N c Z hn HA.out _ HI.out).mono ?_
  rintro e w1 ⟨a1, rfl, ha1, hi1, hb1⟩
  have HI1 : Hid (IsB w1 a1 N Z) := hi1
  have HA1 : Hid (a1 = none → N = 0) := ha1
  have HB1 : Hid (Below w.heap.size w w1) := hb1
  clear hi1 ha1 hb1
  go_wp2_with fail
  refine (clone_any a1 N N Z hn HA1.out _ HI1.out).mono ?_
  rintro e w2 ⟨a2, rfl, ha2, hi2, hb2⟩
  have HI2 : Hid (IsB w2 a2 N Z) := hi2
  have HI3 : Hid (IsB w2 a1 N Z) := isB_below HI1.out hb2
  have HB2 : Hid (Below w.heap.size w w2) := HB1.out.trans (hb2.mono HB1.out.size)
  clear ha2 hi2 hb2 HI HA HI1 HB1
  go_upto_block 0 with fail
  go_cut [6, 7, 8] from 39 to 68 (fun fv _ bv wx => Le w2 w2.heap.size N k Z fv bv wx)
  case first =>
    go_wp2_with fail
    go_loopg [6, 7, 8] k (fun g fv pv bv wr => Lp w2 w2.heap.size N k Z g fv pv bv wr)
    case atStart => exact ⟨0, [], by omega, rfl, start_eq k, rfl, World.ownsRow_nil _ _ _ _, Below.refl _ _, Nat.le_refl _⟩
    case round =>
      obtain ⟨p, fs, hpg, rfl, rfl, hrs, hown, hbel, hsz⟩ := hrel
      obtain ⟨av, cv, rfl⟩ := ownF_shape hown
      have HPG : Hid (p + gk = k) := hpg
      have HRS : Hid (Reads Z N fs 0 p) := hrs
      have HOW : Hid (OwnF wr w2.heap.size (.slice av fs.length cv) fs) := hown
      have HBL : Hid (Below w2.heap.size w2 wr) := hbel
      have HSZ : Hid (w2.heap.size ≤ wr.heap.size) := hsz
      have hfl : fs.length ≤ k := by have := reads_len hrs; omega
      have hpk : p ≤ k := by omega
      clear hpg hrs hown hbel hsz
      by_cases hg0 : gk = 0
      · obtain rfl : p = k := by have := HPG.out; omega
        go_wp2_with fail
        go_meet
        case rel => exact ⟨p, fs, Nat.le_refl _, fun h => by omega, by simp, HRS.out, HOW.out, HBL.out, HSZ.out⟩
      have hplt : p < k := by have := HPG.out; omega
      rw [decide_eq_false (show ¬ p = k from by omega)]
      go_wp2_with fail
      refine (model_any a2 N N p Z hn (by omega) _ (isB_below HI2.out HBL.out)).mono ?_
      rintro e w4 ⟨hret, hw⟩
      obtain rfl := hw.symm
      rcases hret with ⟨v, m, hf, rfl⟩ | ⟨hno, rfl⟩
      · have HF : Hid (IsField (shift Z p) (N - p) v m) := hf
        have hmN : m < N - p := hf.1.2.1
        clear hf
        by_cases hover : k < p + (m + 1)
        · go_wp2_with fail
          go_meet
          case rel => exact ⟨p, fs, hpk, fun _ v' m' h => by (obtain ⟨rfl, rfl⟩ := field_one HF.out h; exact hover), by simp; omega, HRS.out, HOW.out, HBL.out, HSZ.out⟩
        · by_cases hend : p + (m + 1) = k
          · have he : ((p : Int) + ((m : Int) + 1) == (k : Int)) = true := by rw [beq_iff_eq]; omega
            go_wp2_with (at_builtin; refine wpList_append_own_at _ rfl (.tmp 58) (.tmp 61) 33 rfl w2.heap.size 4 i0 (.bool false) 1 1 Try.underlying33 hi hz0 hz1 hz2 rfl (by decide) (.slice av fs.length cv) fs.length (fs.map Value.bool) rfl (World.ownsRow.alloc HOW.out _) ⟨wr.heap.size, 0, none⟩ 1 1 [.bool ((v : Int) == 1)] rfl rfl (cell_one_new _ _ _) (one_bool _) (by unfold maxLen; omega) (by omega) (by have := HSZ.out; simp; omega) ?_; intro v1 w6 hown1 hgrow1 _ _; have HOW6 : Hid (OwnF w6 w2.heap.size v1 (fs ++ [((v : Int) == 1)])) := ownF_snoc hown1; clear hown1; have HG : Hid ((wr.alloc (Obj.cells #[Value.bool ((v : Int) == 1)] 4)).grownBy w6 (Value.slice av fs.length cv).ownBlock) := hgrow1; clear hgrow1)
            go_roundg (k - (p + (m + 1)))
            case measure => have := HPG.out; omega
            case rel =>
              exact lp_step HPG.out HRS.out HF.out HOW.out HBL.out HSZ.out HOW6.out HG.out (by omega) (by go_num) (by simp; omega)
          · have he : ((p : Int) + ((m : Int) + 1) == (k : Int)) = false := by rw [beq_eq_false_iff_ne]; omega
            go_wp2_with (at_builtin; refine wpList_append_own_at _ rfl (.tmp 58) (.tmp 61) 33 rfl w2.heap.size 4 i0 (.bool false) 1 1 Try.underlying33 hi hz0 hz1 hz2 rfl (by decide) (.slice av fs.length cv) fs.length (fs.map Value.bool) rfl (World.ownsRow.alloc HOW.out _) ⟨wr.heap.size, 0, none⟩ 1 1 [.bool ((v : Int) == 1)] rfl rfl (cell_one_new _ _ _) (one_bool _) (by unfold maxLen; omega) (by omega) (by have := HSZ.out; simp; omega) ?_; intro v1 w6 hown1 hgrow1 _ _; have HOW6 : Hid (OwnF w6 w2.heap.size v1 (fs ++ [((v : Int) == 1)])) := ownF_snoc hown1; clear hown1; have HG : Hid ((wr.alloc (Obj.cells #[Value.bool ((v : Int) == 1)] 4)).grownBy w6 (Value.slice av fs.length cv).ownBlock) := hgrow1; clear hgrow1)
            go_roundg (k - (p + (m + 1)))
            case measure => have := HPG.out; omega
            case rel =>
              exact lp_step HPG.out HRS.out HF.out HOW.out HBL.out HSZ.out HOW6.out HG.out (by omega) (by go_num) (by simp; omega)
      · have HNO : Hid (NoField (shift Z p) (N - p)) := hno
        clear hno
        go_wp2_with fail
        go_meet
        case rel => exact ⟨p, fs, hpk, fun _ v' m' h => absurd h (HNO.out v' m'), by simp; omega, HRS.out, HOW.out, HBL.out, HSZ.out⟩
  case rest =>
    obtain ⟨p, fs, hpk, hstop, rfl, hrs, hown, hbel, hsz⟩ := hcut
    obtain ⟨av, cv, rfl⟩ := ownF_shape hown
    have HST : Hid (p < k → ∀ v m, IsField (shift Z p) (N - p) v m → k < p + (m + 1)) := hstop
    have HRS : Hid (Reads Z N fs 0 p) := hrs
    have HF0 : Hid (IsF wc av fs) := ownF_isF hown
    have HBC : Hid (Below w.heap.size w wc) := HB2.out.trans (hbel.mono HB2.out.size)
    have HIC : Hid (IsB wc a1 N Z) := isB_below HI3.out hbel
    have hfl : fs.length ≤ k := by have := reads_len hrs; omega
    clear hstop hrs hown hbel hsz HI2 HI3 HB2
    go_wp2_with fail
    refine (readAll_any a1 N N Z hn (Nat.le_refl _) hnm _ HIC.out).mono ?_
    rintro e w3 ⟨⟨fsW, aW, cW, dW, fW, rfl, hfW, hlW, hfullW⟩, hb3⟩
    have HW3 : Hid (IsF w3 aW fsW ∧ Full Z N 0 fsW dW fW ∧ Below wc.heap.size wc w3) := ⟨hfW, hfullW, hb3⟩
    clear hfW hfullW hb3
    go_wp2_with fail
    have hb4 : Below wc.heap.size wc (w3.alloc (Obj.cells #[Value.slice aW fsW.length cW, Value.bool dW, Value.bool fW, Value.bool false] 35)) := HW3.out.2.2.alloc HW3.out.2.2.size _
    refine (readAll_any a1 k N Z (by omega) hk hnm _ (isB_less (isB_below HIC.out hb4) hk)).mono ?_
    rintro e w5 ⟨⟨fsH, aH, cH, dH, fH, rfl, hfH, hlH, hfullH⟩, hb5⟩
    have HW5 : Hid (IsF w5 aH fsH ∧ Full Z k 0 fsH dH fH ∧ Below (w3.alloc (Obj.cells #[Value.slice aW fsW.length cW, Value.bool dW, Value.bool fW, Value.bool false] 35)).heap.size (w3.alloc (Obj.cells #[Value.slice aW fsW.length cW, Value.bool dW, Value.bool fW, Value.bool false] 35)) w5) := ⟨hfH, hfullH, hb5⟩
    clear hfH hfullH hb5 hb4
    go_upto_region 22 with fail
    go_cut [15] from 77 to 80 (fun tv wx => Rec (shift Z k) (N - k) wx tv ∧ Below (w5.alloc (Obj.cells #[Value.slice aH fsH.length cH, Value.bool dH, Value.bool fH, Value.bool false] 35)).heap.size (w5.alloc (Obj.cells #[Value.slice aH fsH.length cH, Value.bool dH, Value.bool fH, Value.bool false] 35)) wx)
    case first =>
      have HI6 : Hid (IsB (w5.alloc (Obj.cells #[Value.slice aH fsH.length cH, Value.bool dH, Value.bool fH, Value.bool false] 35)) a1 N Z) := by
        have b3 := HW3.out.2.2
        have b5 := HW5.out.2.2
        have b4 : Below wc.heap.size wc (w3.alloc (Obj.cells #[Value.slice aW fsW.length cW, Value.bool dW, Value.bool fW, Value.bool false] 35)) := b3.alloc b3.size _
        have b6 := b4.trans (b5.mono b4.size)
        exact isB_below HIC.out (b6.alloc b6.size _)
      by_cases hkN : k = N
      · subst hkN
        go_wp2_with fail
        refine (readAll_any a1 0 0 (shift Z k) (by omega) (Nat.le_refl _) (Nat.zero_le _) _ (.inl rfl)).mono ?_
        rintro e w7 ⟨⟨fsT, aT, cT, dT, fT, rfl, hfT, hlT, hfullT⟩, hb7⟩
        have HW7 : Hid (IsF w7 aT fsT ∧ fsT.length ≤ 0 ∧ Full (shift Z k) 0 0 fsT dT fT ∧ Below (w5.alloc (Obj.cells #[Value.slice aH fsH.length cH, Value.bool dH, Value.bool fH, Value.bool false] 35)).heap.size (w5.alloc (Obj.cells #[Value.slice aH fsH.length cH, Value.bool dH, Value.bool fH, Value.bool false] 35)) w7) := ⟨hfT, hlT, hfullT, hb7⟩
        clear hfT hlT hfullT hb7
        go_wp2_with fail
        go_meet
        case rel => exact ⟨rec_new HW7.out.1 (by rw [Nat.sub_self]; exact HW7.out.2.1) (by rw [Nat.sub_self]; exact HW7.out.2.2.1), HW7.out.2.2.2.alloc HW7.out.2.2.2.size _⟩
      · have hkN' : k < N := by omega
        go_wp2_with fail
        refine (readAll_any _ (N - k) (N - k) (shift Z k) (by omega) (Nat.le_refl _) (by omega) _ (isB_tail HI6.out hk)).mono ?_
        rintro e w7 ⟨⟨fsT, aT, cT, dT, fT, rfl, hfT, hlT, hfullT⟩, hb7⟩
        have HW7 : Hid (IsF w7 aT fsT ∧ fsT.length ≤ N - k ∧ Full (shift Z k) (N - k) 0 fsT dT fT ∧ Below (w5.alloc (Obj.cells #[Value.slice aH fsH.length cH, Value.bool dH, Value.bool fH, Value.bool false] 35)).heap.size (w5.alloc (Obj.cells #[Value.slice aH fsH.length cH, Value.bool dH, Value.bool fH, Value.bool false] 35)) w7) := ⟨hfT, hlT, hfullT, hb7⟩
        clear hfT hlT hfullT hb7
        go_wp2_with fail
        go_meet
        case rel => exact ⟨rec_new HW7.out.1 HW7.out.2.1 HW7.out.2.2.1, HW7.out.2.2.2.alloc HW7.out.2.2.2.size _⟩
    case rest =>
      obtain ⟨⟨rT, fsT, aT, cT, dT, fT, rfl, hrT, hfT, hlT, hfullT⟩, hbT⟩ := hcut
      obtain ⟨hfs, hhead⟩ := head_law HRS.out hpk hk HST.out HW5.out.2.1
      obtain ⟨rs, hws, hrest⟩ := full_head HRS.out HW3.out.2.1
      have HHEAD : Hid ((p = k ∧ dH = true ∧ fH = false) ∨ (p < k ∧ dH = false ∧ fH = true)) := hhead
      have HREST : Hid (Full Z N p rs dW fW) := hrest
      have HTAIL : Hid (Full (shift Z k) (N - k) 0 fsT dT fT) := hfullT
      have b3 := HW3.out.2.2
      have b5 := HW5.out.2.2
      have b6 := ((Below.refl _ _).alloc (Nat.le_refl _) _).trans (hbT.mono (by simp))
      have b4 := b5.trans (b6.mono b5.size)
      have b3' := ((Below.refl _ _).alloc (Nat.le_refl _) _).trans (b4.mono (by simp))
      have bc := b3.trans (b3'.mono b3.size)
      have HBW : Hid (Below w.heap.size w wc) := HBC.out.trans (bc.mono HBC.out.size)
      have hrW := rn_below (rn_new w3 (.slice aW fsW.length cW) dW fW) b4
      have hrH := rn_below (rn_new w5 (.slice aH fsH.length cH) dH fH) hbT
      have hiW := isF_below HW3.out.1 b3'
      have hiH := isF_below HW5.out.1 b6
      have hi0 := isF_below HF0.out bc
      clear hhead hrest hfullT b3 b5 b6 b4 b3' bc hbT
      obtain ⟨rW, hrWe⟩ : ∃ x, x = w3.heap.size := ⟨_, rfl⟩
      obtain ⟨rH, hrHe⟩ : ∃ x, x = w5.heap.size := ⟨_, rfl⟩
      rw [← hrWe] at hrW ⊢
      rw [← hrHe] at hrH ⊢
      clear hrWe hrHe HW3 HW5 HBC HF0 HIC HST HRS
      subst hfs
      obtain ⟨nW, hnW⟩ : ∃ x, x = fsW.length := ⟨_, rfl⟩
      rw [← hnW] at hrW hlW ⊢
      rw [hws] at hnW hiW
      rw [List.length_append] at hnW
      have HALL : Hid (Fa wc rW rH rT aW aH aT av nW cW cH cT fsH rs fsT dW fW dH fH dT fT) := ⟨hrW, hrH, hrT, hiW, hiH, hfT, hi0, hnW⟩
      have hnW' : fsH.length ≤ nW := by omega
      clear hrW hrH hrT hiW hiH hfT hi0 hnW hws
      have x0 := HALL.out.rW.c0
      have x3 := HALL.out.rW.c3
      have y0 := HALL.out.rH.c0
      have y3 := HALL.out.rH.c3
      have z3 := HALL.out.rT.c3
      have hge : decide ((nW : Int) < (fsH.length : Int)) = false := by rw [decide_eq_false_iff_not]; omega
      go_wp2_with fail
      clear x0 x3 y0 y3 z3 hge
      go_loopw [16] (fun iv wr => Ri w wr fsH.length iv rW rH rT aW aH aT av nW cW cH cT fsH rs fsT dW fW dH fH dT fT) (fun iv _ => fsH.length - (intOf iv).toNat)
      case atStart => exact ⟨0, Nat.zero_le _, rfl, HALL.out, HBW.out⟩
      case round =>
        clear HALL HBW
        obtain ⟨i, hin, rfl, hall, hbw⟩ := hrel
        have HALL : Hid (Fa wr rW rH rT aW aH aT av nW cW cH cT fsH rs fsT dW fW dH fH dT fT) := hall
        have HBW : Hid (Below w.heap.size w wr) := hbw
        clear hall hbw
        by_cases hlt : i < fsH.length
        · obtain ⟨B, hB⟩ : ∃ B : Bool, B = fsH.getD i false := ⟨_, rfl⟩
          rcases HALL.out.iH with hx | ⟨bH, hbH, hcH⟩
          · rw [hx] at hlt; simp at hlt
          rcases HALL.out.i0 with hx | ⟨b0, hb0, hc0⟩
          · rw [hx] at hlt; simp at hlt
          rcases HALL.out.iW with hx | ⟨bW, hbW, hcW⟩
          · have := congrArg List.length hx; simp at this; rw [this.1] at hlt; simp at hlt
          have cH' := hcH i hlt
          have c0' := hc0 i hlt
          have cW' := hcW i (by simp; omega)
          rw [getD_app hlt] at cW'
          rw [← hB] at cH' c0' cW'
          clear hcH hc0 hcW hB
          have x0 := HALL.out.rW.c0
          have y0 := HALL.out.rH.c0
          subst hbH hb0 hbW
          have hlt' : (i : Int) < (fsH.length : Int) := by omega
          have hltW : (i : Int) < (nW : Int) := by omega
          have hBB : (B != B) = false := by simp
          go_wp2_with fail
          go_quiet (fail)
          go_wp2_with fail
          go_roundw
          case rel => exact ⟨i + 1, by omega, by go_num, fa_drew HALL.out _, HBW.out.trans (below_drewN _ _ _)⟩
          case measure => simp [intOf]; omega
        · obtain rfl : i = fsH.length := by omega
          have y1 := HALL.out.rH.c1
          have y2 := HALL.out.rH.c2
          rcases HHEAD.out with ⟨hpe, hd, hf⟩ | ⟨hpl, hd, hf⟩
          · obtain ⟨hrs, hdd, hff⟩ := tail_law hk HTAIL.out (by rw [← hpe]; exact HREST.out)
            subst hrs hdd hff hd hf
            have hb : decide (p = k) = true := decide_eq_true hpe
            have x0 := HALL.out.rW.c0
            have x1 := HALL.out.rW.c1
            have x2 := HALL.out.rW.c2
            have z0 := HALL.out.rT.c0
            have z1 := HALL.out.rT.c1
            have z2 := HALL.out.rT.c2
            have hsum : ((nW : Int) != ((fsH.length : Int) + (rs.length : Int))) = false := by have := HALL.out.nW; rw [bne_eq_false_iff_eq]; omega
            have hddb : (dW != dW) = false := by simp
            have hffb : (fW != fW) = false := by simp
            go_wp2_with fail
            clear x0 x1 x2 y1 y2 z0 z1 z2 hsum hddb hffb hb hin hlt HTAIL HREST
            go_loopw [17] (fun iv wr' => Ri w wr' rs.length iv rW rH rT aW aH aT av nW cW cH cT fsH rs rs dW fW true false dW fW) (fun iv _ => rs.length - (intOf iv).toNat)
            case atStart => exact ⟨0, Nat.zero_le _, rfl, HALL.out, HBW.out⟩
            case round =>
              clear HALL HBW
              obtain ⟨i, hin, rfl, hall, hbw⟩ := hrel
              rename World => wz
              have HALL : Hid (Fa wz rW rH rT aW aH aT av nW cW cH cT fsH rs rs dW fW true false dW fW) := hall
              have HBW : Hid (Below w.heap.size w wz) := hbw
              clear hall hbw
              have z0 := HALL.out.rT.c0
              by_cases hlt : i < rs.length
              · obtain ⟨B, hB⟩ : ∃ B : Bool, B = rs.getD i false := ⟨_, rfl⟩
                have hnW2 := HALL.out.nW
                rcases HALL.out.iT with hx | ⟨bT, hbT, hcT⟩
                · rw [hx] at hlt; simp at hlt
                rcases HALL.out.iW with hx | ⟨bW, hbW, hcW⟩
                · have := congrArg List.length hx; simp at this; rw [this.2] at hlt; simp at hlt
                have cT' := hcT i hlt
                have cW' := hcW (fsH.length + i) (by simp; omega)
                rw [getD_app2] at cW'
                rw [← hB] at cT' cW'
                clear hcT hcW hB
                have x0 := HALL.out.rW.c0
                subst hbT hbW
                have hlt' : (i : Int) < (rs.length : Int) := by omega
                have hltW : (fsH.length : Int) + (i : Int) < (nW : Int) := by omega
                have hBB : (B != B) = false := by simp
                clear hnW2
                go_wp2_with fail
                go_quiet (fail)
                go_wp2_with fail
                go_roundw
                case rel => exact ⟨i + 1, by omega, by go_num, fa_drew HALL.out _, HBW.out.trans (below_drewN _ _ _)⟩
                case measure => simp [intOf]; omega
              · obtain rfl : i = rs.length := by omega
                go_wp2_with fail
                go_ret
                exact ⟨rfl, HBW.out⟩
          · subst hd hf
            have hb : decide (p = k) = false := decide_eq_false (by omega)
            go_wp2_with fail
            go_ret
            exact ⟨rfl, HBW.out⟩

set_option maxRecDepth 100000 in
/-- What the guards let go: too long; a cut that is none. -/
theorem cut_out (a : Option Addr) (N c : Nat) (k : Int) (hn : N ≤ maxLen) (hg : 1048576 < N ∨ k < 0 ∨ (N : Int) < k) (w : World) :
    Calls Try.prog 4 #[.slice a N c, .int .i64 k] w fun e w' => e = .returned (.bool true) ∧ Below w.heap.size w w' := by
  by_cases h1 : 1048576 < N
  · go_enter Try.func4, Try.ntmps4
    go_wp2_with (go_at_call 12; refine (zzBytes4_any a N c k hn _).mono ?_; rintro e w' ⟨⟨r, rfl⟩, hw⟩; obtain rfl := hw.symm)
    all_goals (go_ret; exact ⟨rfl, Below.refl _ _⟩)
  · by_cases h2 : k < 0
    · go_enter Try.func4, Try.ntmps4
      go_wp2_with (go_at_call 12; refine (zzBytes4_any a N c k hn _).mono ?_; rintro e w' ⟨⟨r, rfl⟩, hw⟩; obtain rfl := hw.symm)
      all_goals (go_ret; exact ⟨rfl, Below.refl _ _⟩)
    · have h3 : (N : Int) < k := by omega
      go_enter Try.func4, Try.ntmps4
      go_wp2_with (go_at_call 12; refine (zzBytes4_any a N c k hn _).mono ?_; rintro e w' ⟨⟨r, rfl⟩, hw⟩; obtain rfl := hw.symm)
      all_goals (go_ret; exact ⟨rfl, Below.refl _ _⟩)

theorem cut_any (a : Option Addr) (N c : Nat) (k : Int) (Z : Nat → Nat) (hn : N ≤ maxLen) (ha : a = none → N = 0) (w : World) (h : IsB w a N Z) :
    Calls Try.prog 4 #[.slice a N c, .int .i64 k] w fun e w' => e = .returned (.bool true) ∧ Below w.heap.size w w' := by
  by_cases hg : 1048576 < N ∨ k < 0 ∨ (N : Int) < k
  · exact cut_out a N c k hn hg w
  · obtain ⟨j, rfl⟩ : ∃ j : Nat, k = (j : Int) := ⟨k.toNat, by omega⟩
    exact cut_main a N c j Z (by omega) (by omega) ha w h
end Go.Proofs.Qxb6616629a
