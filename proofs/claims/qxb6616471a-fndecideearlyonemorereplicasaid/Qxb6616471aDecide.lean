/-
  Contracts: DecideEarly and ZZdecideEarlyAtLeast.
-/
import Derived.Test.Qxb6616471aMakes
namespace Go.Proofs.Qxb6616471a
open Go.RowKit

/-- Two slices of strings of the call's own, of h and p elements, in rows of their own. -/
def Two (B : Nat) (w : World) (hv pv : Value) (h p : Nat) : Prop :=
  (∃ xs, w.ownsRow B 9 1 hv h xs) ∧ (∃ ys, w.ownsRow B 9 1 pv p ys) ∧ ∀ g, hv.ownBlock = some g → pv.ownBlock = some g → False

theorem two_start (B : Nat) (w : World) : Two B w (.slice none 0 0) (.slice none 0 0) 0 0 :=
  ⟨⟨[], World.ownsRow_nil _ _ _ _⟩, ⟨[], World.ownsRow_nil _ _ _ _⟩, fun g h => by simp [Value.ownBlock] at h⟩

theorem two_swap {B : Nat} {w : World} {hv pv : Value} {h p : Nat} (H : Two B w hv pv h p) : Two B w pv hv p h := ⟨H.2.1, H.1, fun g h1 h2 => H.2.2 g h2 h1⟩

/-- One more onto the first. -/
theorem two_append {B : Nat} {w w1 : World} {hv pv v' : Value} {h p : Nat} {o : Obj} {xs : List Value} (H : Two B w hv pv h p) (hown : w1.ownsRow B 9 1 v' (h + 1) xs) (hg : (w.alloc o).grownBy w1 hv.ownBlock)
    (hloc : v'.ownBlock = hv.ownBlock ∨ v'.ownBlock = some (w.alloc o).heap.size) : Two B w1 v' pv (h + 1) p := by
  obtain ⟨⟨xs0, h0⟩, ⟨ys, hp⟩, hap⟩ := H
  refine ⟨⟨_, hown⟩, ⟨ys, (hp.alloc o).kept hg ?_⟩, fun g h1 h2 => ?_⟩
  · cases e : pv.ownBlock with
    | none => exact .inl rfl
    | some g => exact .inr fun e2 => hap g (by rw [← e2]) e
  · rcases hloc with e | e
    · exact hap g (by rw [← e]; exact h1) h2
    · rw [e] at h1
      have := (hp.lt g h2).2
      simp at h1
      omega

theorem undS_toList : undS.toList = [117, 110, 100, 101, 99, 105, 100, 101, 100] := by decide +kernel
theorem comS_toList : comS.toList = [99, 111, 109, 109, 105, 116, 116, 101, 100] := by decide +kernel
theorem aboS_toList : aboS.toList = [97, 98, 111, 114, 116, 101, 100] := by decide +kernel

theorem hold_no {A : Nat → ByteArray} {M : Nat → Bool} {k : Nat} {a : ByteArray} (_ : a = A k) (h2 : false = M k) : holdP (A k) (M k) = false := by rw [← h2]; simp [holdP]
theorem hold_yes {A : Nat → ByteArray} {M : Nat → Bool} {k : Nat} {a : ByteArray} (h1 : a = A k) (h2 : true = M k) (h : (a.toList == [117, 110, 100, 101, 99, 105, 100, 101, 100]) = true) : holdP (A k) (M k) = true := by
  rw [← h2, ← h1]; unfold holdP; rw [undS_toList, h]; rfl
theorem hold_not {A : Nat → ByteArray} {M : Nat → Bool} {k : Nat} {a : ByteArray} (h1 : a = A k) (h : (a.toList == [117, 110, 100, 101, 99, 105, 100, 101, 100]) = false) : holdP (A k) (M k) = false := by
  rw [← h1]; unfold holdP; rw [undS_toList, h]; rfl
theorem poss_und {A : Nat → ByteArray} {M : Nat → Bool} {k : Nat} {a : ByteArray} (h1 : a = A k) (h : (a.toList == [117, 110, 100, 101, 99, 105, 100, 101, 100]) = true) : possP (A k) (M k) = true := by
  rw [← h1]; unfold possP; rw [undS_toList, h]; rfl
theorem poss_nil {A : Nat → ByteArray} {M : Nat → Bool} {k : Nat} {a : ByteArray} (h1 : a = A k) (h : a.toList.isEmpty = true) : possP (A k) (M k) = true := by
  rw [← h1]; unfold possP; rw [List.isEmpty_iff] at h; rw [h]; simp
theorem poss_not {A : Nat → ByteArray} {M : Nat → Bool} {k : Nat} {a : ByteArray} (h1 : a = A k) (h : (a.toList == [117, 110, 100, 101, 99, 105, 100, 101, 100]) = false) (h2 : a.toList.isEmpty = false) : possP (A k) (M k) = false := by
  rw [← h1]; unfold possP; rw [undS_toList, h]; cases e : a.toList <;> simp_all

/-- What the decision's words are. -/
def kstr (k : Nat) : ByteArray := if k = 0 then comS else if k = 1 then aboS else ⟨#[]⟩
def kok (k : Nat) : Bool := if k = 2 then false else true

theorem ret_0 {k : Nat} (h : k = 0) : Ending.returned (.tuple #[.string ⟨#[99, 111, 109, 109, 105, 116, 116, 101, 100]⟩, .bool true]) = .returned (.tuple #[.string (kstr k), .bool (kok k)]) := by subst h; rfl
theorem ret_1 {k : Nat} (h : k = 1) : Ending.returned (.tuple #[.string ⟨#[97, 98, 111, 114, 116, 101, 100]⟩, .bool true]) = .returned (.tuple #[.string (kstr k), .bool (kok k)]) := by subst h; rfl
theorem ret_2 {k : Nat} (h : k = 2) : Ending.returned (.tuple #[.string ⟨#[]⟩, .bool false]) = .returned (.tuple #[.string (kstr k), .bool (kok k)]) := by subst h; rfl

theorem shape_of {w : World} {B m : Nat} {v : Value} (h : ∃ xs, w.ownsRow B 9 1 v m xs) : ∃ a c, v = .slice a m c := by
  obtain ⟨xs, h⟩ := h
  rcases h.2 with ⟨rfl, rfl⟩ | ⟨g, cap, cur, rfl, _⟩
  · exact ⟨_, _, rfl⟩
  · exact ⟨_, _, rfl⟩

set_option maxHeartbeats 4000000 in
theorem decide_any (ar aa am : Option Addr) (n cr ca cm qb : Nat) (R A : Nat → ByteArray) (M : Nat → Bool) (q : Int) (hn : n ≤ 65537) (w : World) (hr : IsRow w ar n (strV R)) (ha : IsRow w aa n (strV A)) (hm : IsRow w am n (boolV M)) (hq : w.cell? ⟨qb, 0, none⟩ = some (.int .i64 q)) :
    Calls Try.prog 20 #[.slice ar n cr, .slice aa n ca, .slice am n cm, .func (.func 21) #[] #[.pointer (some ⟨qb, 0, none⟩)]] w fun e w' =>
      e = .returned (.tuple #[.string (kstr (kind n A M q)), .bool (kok (kind n A M q))]) ∧ Below w.heap.size w w' := by
  obtain ⟨i0, hi, hz0, hz1, hz2⟩ := info_parts Try.info9
  go_enter Try.func20, Try.ntmps20
  go_wp2
  go_loopw [10, 11, 16] (fun hv pv i wr => ∃ k : Nat, k ≤ n ∧ i = .int .i64 k ∧ Two w.heap.size wr hv pv (cnt holdP A M k) (cnt possP A M k) ∧ Below w.heap.size w wr) (fun _ _ i _ => n - (intOf i).toNat)
  case atStart => exact ⟨0, Nat.zero_le _, rfl, two_start _ _, Below.refl _ _⟩
  case round =>
    obtain ⟨k, hk, rfl, htwo, hbel⟩ := hrel
    have hsz := hbel.size
    have HB : Hid (Below w.heap.size w wr) := hbel
    have HT : Hid (Two w.heap.size wr u10 u11 (cnt holdP A M k) (cnt possP A M k)) := htwo
    clear hbel htwo
    by_cases hlt : k < n
    · rcases hr with hr | ⟨br, offr, rfl, hcr⟩
      · omega
      rcases ha with ha | ⟨ba, offa, rfl, hca⟩
      · omega
      rcases hm with hm | ⟨bm, offm, rfl, hcm⟩
      · omega
      have cellr : wr.cell? ⟨br, offr + k, none⟩ = some (.string (R k)) := (HB.out.cell (p := ⟨br, offr + k, none⟩) (cell_lt (hcr k hlt))).trans (hcr k hlt)
      have cella : wr.cell? ⟨ba, offa + k, none⟩ = some (.string (A k)) := (HB.out.cell (p := ⟨ba, offa + k, none⟩) (cell_lt (hca k hlt))).trans (hca k hlt)
      have cellm : wr.cell? ⟨bm, offm + k, none⟩ = some (.bool (M k)) := (HB.out.cell (p := ⟨bm, offm + k, none⟩) (cell_lt (hcm k hlt))).trans (hcm k hlt)
      have brlt : br < w.heap.size := cell_lt (hcr k hlt)
      have HR : Hid (w.cell? ⟨br, offr + k, none⟩ = some (.string (R k))) := hcr k hlt
      clear hcr hca hcm hq
      obtain ⟨A0, hA0⟩ : ∃ s, s = A k := ⟨_, rfl⟩
      obtain ⟨M0, hM0⟩ : ∃ s, s = M k := ⟨_, rfl⟩
      rw [← hA0] at cella
      rw [← hM0] at cellm
      have HA : Hid (A0 = A k) := hA0
      have HM : Hid (M0 = M k) := hM0
      clear hA0 hM0
      have hc1 := cnt_le holdP A M k
      have hc2 := cnt_le possP A M k
      obtain ⟨xs, hxs⟩ := HT.out.1
      obtain ⟨ys, hys⟩ := HT.out.2.1
      have HX : Hid (wr.ownsRow w.heap.size 9 1 u10 (cnt holdP A M k) xs) := hxs
      have HY : Hid (wr.ownsRow w.heap.size 9 1 u11 (cnt possP A M k) ys) := hys
      clear hxs hys
      by_cases hu : (A0.toList == [117, 110, 100, 101, 99, 105, 100, 101, 100]) = true
      · cases M0
        · go_wp2_with (at_builtin; refine wpList_append_own_at _ rfl (.tmp 49) (.tmp 54) 22 rfl w.heap.size 9 i0 (.string ⟨#[]⟩) 1 16 Try.underlying22 hi hz0 hz1 hz2 rfl (by decide) u11 (cnt possP A M k) ys rfl (HY.out.alloc _) ⟨wr.heap.size, 0, none⟩ 1 1 [.string (R k)] rfl rfl (cell_one_new _ _ _) (one_str _) (by unfold maxLen; omega) (by omega) (by simp; omega) ?_; intro v1 w1 hown1 hgrow1 _ hloc1)
          have b1 : Below w.heap.size w w1 := (HB.out.alloc hsz _).grown hgrow1 (by simp; omega) (fun g hg => (HY.out.lt g hg).1)
          have t1 := two_swap (two_append (two_swap HT.out) hown1 hgrow1 hloc1)
          clear hown1 hgrow1 hloc1
          have HB1 : Hid (Below w.heap.size w w1) := b1
          have HT1 : Hid (Two w.heap.size w1 u10 v1 (cnt holdP A M k) (cnt possP A M k + 1)) := t1
          clear b1 t1
          go_wp2
          go_roundw
          case rel => exact ⟨k + 1, by omega, by go_num, by rw [cnt_no (p := holdP) (hold_no HA.out HM.out), cnt_yes (p := possP) (poss_und HA.out hu)]; exact HT1.out, HB1.out⟩
          case measure => simp [intOf]; omega
        · go_wp2_with (first | (at_builtin; refine wpList_append_own_at _ rfl (.tmp 30) (.tmp 35) 22 rfl w.heap.size 9 i0 (.string ⟨#[]⟩) 1 16 Try.underlying22 hi hz0 hz1 hz2 rfl (by decide) u10 (cnt holdP A M k) xs rfl (HX.out.alloc _) ⟨wr.heap.size, 0, none⟩ 1 1 [.string (R k)] rfl rfl (cell_one_new _ _ _) (one_str _) (by unfold maxLen; omega) (by omega) (by simp; omega) ?_; intro v1 w1 hown1 hgrow1 _ hloc1; have b1 : Below w.heap.size w w1 := (HB.out.alloc hsz _).grown hgrow1 (by simp; omega) (fun g hg => (HX.out.lt g hg).1); have hsz1 := b1.size; have cellr1 : w1.cell? ⟨br, offr + k, none⟩ = some (.string (R k)) := (b1.cell (p := ⟨br, offr + k, none⟩) brlt).trans HR.out; have HB1 : Hid (Below w.heap.size w w1) := b1; have HT1 : Hid (Two w.heap.size w1 v1 u11 (cnt holdP A M k + 1) (cnt possP A M k)) := two_append HT.out hown1 hgrow1 hloc1; clear hown1 hgrow1 hloc1 b1; obtain ⟨ys1, hys1⟩ := HT1.out.2.1; have HY1 : Hid (w1.ownsRow w.heap.size 9 1 u11 (cnt possP A M k) ys1) := hys1; clear hys1) | (at_builtin; refine wpList_append_own_at _ rfl (.tmp 37) (.tmp 42) 22 rfl w.heap.size 9 i0 (.string ⟨#[]⟩) 1 16 Try.underlying22 hi hz0 hz1 hz2 rfl (by decide) u11 (cnt possP A M k) ys1 rfl (HY1.out.alloc _) ⟨w1.heap.size, 0, none⟩ 1 1 [.string (R k)] rfl rfl (cell_one_new _ _ _) (one_str _) (by unfold maxLen; omega) (by omega) (by simp; omega) ?_; intro v2 w2 hown2 hgrow2 _ hloc2))
          have b2 : Below w.heap.size w w2 := (HB1.out.alloc hsz1 _).grown hgrow2 (by simp; omega) (fun g hg => (HY1.out.lt g hg).1)
          have t2 := two_swap (two_append (two_swap HT1.out) hown2 hgrow2 hloc2)
          clear hown2 hgrow2 hloc2
          have HB2 : Hid (Below w.heap.size w w2) := b2
          have HT2 : Hid (Two w.heap.size w2 v1 v2 (cnt holdP A M k + 1) (cnt possP A M k + 1)) := t2
          clear b2 t2
          go_wp2
          go_roundw
          case rel => exact ⟨k + 1, by omega, by go_num, by rw [cnt_yes (p := holdP) (hold_yes HA.out HM.out hu), cnt_yes (p := possP) (poss_und HA.out hu)]; exact HT2.out, HB2.out⟩
          case measure => simp [intOf]; omega
      · have hu' : (A0.toList == [117, 110, 100, 101, 99, 105, 100, 101, 100]) = false := by simpa using hu
        clear hu
        cases he : A0.toList.isEmpty
        · go_wp2_with fail
          go_roundw
          case rel => exact ⟨k + 1, by omega, by go_num, by rw [cnt_no (p := holdP) (hold_not HA.out hu'), cnt_no (p := possP) (poss_not HA.out hu' he)]; exact HT.out, HB.out⟩
          case measure => simp [intOf]; omega
        · go_wp2_with (at_builtin; refine wpList_append_own_at _ rfl (.tmp 49) (.tmp 54) 22 rfl w.heap.size 9 i0 (.string ⟨#[]⟩) 1 16 Try.underlying22 hi hz0 hz1 hz2 rfl (by decide) u11 (cnt possP A M k) ys rfl (HY.out.alloc _) ⟨wr.heap.size, 0, none⟩ 1 1 [.string (R k)] rfl rfl (cell_one_new _ _ _) (one_str _) (by unfold maxLen; omega) (by omega) (by simp; omega) ?_; intro v1 w1 hown1 hgrow1 _ hloc1)
          have b1 : Below w.heap.size w w1 := (HB.out.alloc hsz _).grown hgrow1 (by simp; omega) (fun g hg => (HY.out.lt g hg).1)
          have t1 := two_swap (two_append (two_swap HT.out) hown1 hgrow1 hloc1)
          clear hown1 hgrow1 hloc1
          have HB1 : Hid (Below w.heap.size w w1) := b1
          have HT1 : Hid (Two w.heap.size w1 u10 v1 (cnt holdP A M k) (cnt possP A M k + 1)) := t1
          clear b1 t1
          go_wp2
          go_roundw
          case rel => exact ⟨k + 1, by omega, by go_num, by rw [cnt_no (p := holdP) (hold_not HA.out hu'), cnt_yes (p := possP) (poss_nil HA.out he)]; exact HT1.out, HB1.out⟩
          case measure => simp [intOf]; omega
    · obtain rfl : k = n := by omega
      have cq : wr.cell? ⟨qb, 0, none⟩ = some (.int .i64 q) := (HB.out.cell (p := ⟨qb, 0, none⟩) (cell_lt hq)).trans hq
      have HA : Hid (IsRow wr aa k (strV A)) := isRow_below ha HB.out
      clear hq hr ha hm
      obtain ⟨a1, c1, e1⟩ := shape_of HT.out.1
      obtain ⟨a2, c2, e2⟩ := shape_of HT.out.2.1
      subst e1
      subst e2
      clear HT
      have hkm : k ≤ maxLen := by unfold maxLen; omega
      go_wp2_with fail
      refine (contains_any aa k ca A M comS hkm _ HA.out).mono ?_
      rintro e w1 ⟨rfl, rfl⟩
      by_cases d1 : 0 < cnt (isP comS) A M k
      · have d1' : decide (0 < cnt (isP comS) A M k) = true := decide_eq_true d1
        go_wp2_with fail
        go_ret2
        exact ⟨ret_0 (by unfold kind; rw [if_pos (.inl d1)]), HB.out⟩
      · have d1' : decide (0 < cnt (isP comS) A M k) = false := decide_eq_false d1
        go_wp2_with fail
        refine (quorum_any a1 _ c1 qb q _ cq).mono ?_
        rintro e w1 ⟨rfl, rfl⟩
        by_cases d2 : q ≤ cnt holdP A M k
        · have d2' : decide (q ≤ (cnt holdP A M k : Int)) = true := decide_eq_true d2
          go_wp2_with fail
          go_ret2
          exact ⟨ret_0 (by unfold kind; rw [if_pos (.inr d2)]), HB.out⟩
        · have d2' : decide (q ≤ (cnt holdP A M k : Int)) = false := decide_eq_false d2
          have k0 : ¬ (0 < cnt (isP comS) A M k ∨ q ≤ cnt holdP A M k) := fun h => h.elim d1 d2
          have K0 : Hid (¬ (0 < cnt (isP comS) A M k ∨ q ≤ cnt holdP A M k)) := k0
          clear k0
          go_wp2_with fail
          refine (contains_any aa k ca A M aboS hkm _ HA.out).mono ?_
          rintro e w1 ⟨rfl, rfl⟩
          by_cases d3 : 0 < cnt (isP aboS) A M k
          · have d3' : decide (0 < cnt (isP aboS) A M k) = true := decide_eq_true d3
            go_wp2_with fail
            go_ret2
            exact ⟨ret_1 (by unfold kind; rw [if_neg K0.out, if_pos (.inl d3)]), HB.out⟩
          · have d3' : decide (0 < cnt (isP aboS) A M k) = false := decide_eq_false d3
            go_wp2_with fail
            refine (quorum_any a2 _ c2 qb q _ cq).mono ?_
            rintro e w1 ⟨rfl, rfl⟩
            by_cases d4 : q ≤ cnt possP A M k
            · have d4' : decide (q ≤ (cnt possP A M k : Int)) = true := decide_eq_true d4
              go_wp2_with fail
              go_ret2
              exact ⟨ret_2 (by unfold kind; rw [if_neg K0.out, if_neg (fun h => h.elim d3 (fun h => h d4))]), HB.out⟩
            · have d4' : decide (q ≤ (cnt possP A M k : Int)) = false := decide_eq_false d4
              go_wp2_with fail
              go_ret2
              exact ⟨ret_1 (by unfold kind; rw [if_neg K0.out, if_pos (.inr (by omega))]), HB.out⟩

/-- ZZdecideEarlyAtLeast. -/
theorem zzdecide_any (ar aa am : Option Addr) (n cr ca cm : Nat) (R A : Nat → ByteArray) (M : Nat → Bool) (q : Int) (hn : n ≤ 65537) (w : World) (hr : IsRow w ar n (strV R)) (ha : IsRow w aa n (strV A)) (hm : IsRow w am n (boolV M)) :
    Calls Try.prog 9 #[.slice ar n cr, .slice aa n ca, .slice am n cm, .int .i64 q] w fun e w' =>
      e = .returned (.tuple #[.string (kstr (kind n A M q)), .bool (kok (kind n A M q))]) ∧ Below w.heap.size w w' := by
  have hmf : ∀ (fn : Fn) (first cap : Array Value) (w : World), (Instr.makeFunc fn first cap).run Try.prog w = .ok (.func fn first cap) w := fun _ _ _ _ => rfl
  have hb : ∀ o, Below w.heap.size w (w.alloc o) := fun o => (Below.refl _ _).alloc (Nat.le_refl _) o
  have HBA : Hid (∀ o, Below w.heap.size w (w.alloc o)) := hb
  have HR : Hid (IsRow w ar n (strV R)) := hr
  have HA : Hid (IsRow w aa n (strV A)) := ha
  have HM : Hid (IsRow w am n (boolV M)) := hm
  clear hb hr ha hm
  go_enter Try.func9, Try.ntmps9
  go_wp2_with fail
  refine (decide_any ar aa am n cr ca cm w.heap.size R A M q hn _ (by exact isRow_below HR.out (HBA.out _)) (by exact isRow_below HA.out (HBA.out _)) (by exact isRow_below HM.out (HBA.out _)) (by simp)).mono ?_
  rintro e w1 ⟨rfl, hb1⟩
  have HB1 : Hid (Below w.heap.size w w1) := (HBA.out _).trans (hb1.mono (by simp))
  clear hb1
  go_wp2
  go_ret2
  exact ⟨rfl, HB1.out⟩
end Go.Proofs.Qxb6616471a
