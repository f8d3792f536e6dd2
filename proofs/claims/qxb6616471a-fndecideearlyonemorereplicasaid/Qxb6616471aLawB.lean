/-
  The walk of 'FnDecideEarlyOneMoreReplica', the cases 'replicas nil'.
-/
import Derived.Test.Qxb6616471aLaw
namespace Go.Proofs.Qxb6616471a
open Go.RowKit

set_option maxRecDepth 100000 in
set_option maxHeartbeats 8000000 in
theorem law_ns (x2 : Addr) (a1 : Option Addr) (n0 c0 n1 c1 n2 c2 : Nat) (q k : Int) (x : ByteArray) (b : Bool) (R A : Nat → ByteArray) (M : Nat → Bool) (h0 : n0 ≤ 65536) (h1 : n1 ≤ 65536) (h2 : n2 ≤ 65536) (hqb : -9223372036854775808 ≤ q ∧ q ≤ 9223372036854775807) (hkb : -9223372036854775808 ≤ k ∧ k ≤ 9223372036854775807) (w : World) (r0 : IsRow w none n0 (strV R)) (r1 : IsRow w a1 n1 (strV A)) (r2 : IsRow w (some x2) n2 (boolV M)) (z1 : a1 = none → n1 = 0) :
    Calls Try.prog 3 #[.slice none n0 c0, .slice a1 n1 c1, .slice (some x2) n2 c2, .int .i64 q, .int .i64 k, .string x, .bool b] w fun e w' => e = .returned (.bool true) ∧ Below w.heap.size w w' := by
  have m0 : n0 ≤ maxLen := by unfold maxLen; omega
  have m1 : n1 ≤ maxLen := by unfold maxLen; omega
  obtain ⟨i9, hi9, hz90, hz91, hz92⟩ := info_parts Try.info9
  obtain ⟨i4, hi4, hz40, hz41, hz42⟩ := info_parts Try.info4
  have q22 := fun w a n c => run_neq_slice_nil_any (P := Try.prog) w 22 9 a n c 0 0 Try.underlying22
  have q23 := fun w a n c => run_neq_slice_nil_any (P := Try.prog) w 23 4 a n c 0 0 Try.underlying23
  have HR0 : Hid (IsRow w none n0 (strV R)) := r0
  have HR1 : Hid (IsRow w a1 n1 (strV A)) := r1
  have HR2 : Hid (IsRow w (some x2) n2 (boolV M)) := r2
  have HZ : Hid (a1 = none → n1 = 0) := z1
  clear r0 r1 r2 z1
  have HB0 : Hid (Below w.heap.size w w) := Below.refl _ _
  have HW0 : Hid (IsRow w none n0 (strV R)) := HR0.out
  go_enter Try.func3, Try.ntmps3
  go_wp2_with (first
    | (go_at_call 5; refine (zzBytes_any none a1 (some x2) n0 c0 n1 c1 n2 c2 q k x b R A m0 m1 _ HR0.out HR1.out).mono ?_; rintro e w' ⟨⟨r, rfl⟩, hw⟩; obtain rfl := hw.symm)
    | (at_make; refine wpList_make_full _ rfl (.tmp 65) (.tmp 65) 23 rfl w.heap.size 4 i4 (.bool false) 1 Try.underlying23 hi4 hz40 hz41 .i64 .i64 _ _ n2 rfl rfl (by omega) (by omega) (by rw [hz42]; omega) (by unfold maxLen; omega) (Nat.le_refl _) ?_; intro w3 hown3 hgrow3; have hb3 : Below w.heap.size w w3 := (Below.refl _ _).grown hgrow3 (Nat.le_refl _) (fun k hk => by cases hk); obtain ⟨cur3, hcur3, hlen3⟩ := row_of hown3; have HB3 : Hid (Below w.heap.size w w3) := hb3; have HC3 : Hid (w3.heap[w.heap.size]? = some (.cells cur3.toArray 4 (0, 0)) ∧ cur3.length = n2) := ⟨hcur3, hlen3⟩; clear hown3 hgrow3 hb3 hcur3 hlen3)
    | (have _t := HC3; refine wpList_copy_splice rfl (.tmp 67) (.tmp 68) 23 23 rfl 4 Try.underlying23 (by kernel_rfl) _ _ n2 n2 n2 c2 rfl rfl w.heap.size 0 cur3 4 HC3.out.1 (vals (boolV M) n2) (by rw [vals_length]; simp) (src_at (isRow_below (isRow_below HR2.out HB0.out) HB3.out) _) (by rw [vals_length, HC3.out.2]; omega) (vals_bool _ _) w.heap.size w HB3.out (Nat.le_refl _) ?_; intro w4 HG4 hb4; have HB4 : Hid (Below w.heap.size w w4) := hb4; have HW4 : Hid (IsRow w4 (some ⟨w.heap.size, 0, none⟩) n2 (boolV M)) := isRow_splice HC3.out.2 HG4.out; clear hb4 HG4 HC3 HB3))
  · go_ret
    exact ⟨rfl, Below.refl _ _⟩
  have hbel : Below w.heap.size w w4 := HB0.out.trans (HB4.out.mono HB0.out.size)
  have hrowR : IsRow w4 none n0 (strV R) := isRow_below HW0.out HB4.out
  have hrowM : IsRow w4 (some ⟨w.heap.size, 0, none⟩) n2 (boolV M) := HW4.out
  have hrowA : IsRow w4 a1 n1 (strV A) := isRow_below HR1.out hbel
  have XB : Hid (Below w.heap.size w w4) := hbel
  have XR : Hid (IsRow w4 none n0 (strV R)) := hrowR
  have XM : Hid (IsRow w4 (some ⟨w.heap.size, 0, none⟩) n2 (boolV M)) := hrowM
  have XA : Hid (IsRow w4 a1 n1 (strV A)) := hrowA
  clear hbel hrowR hrowM hrowA HR0 HR1 HR2
  refine (stringsBytes_any _ none n0 c0 R m0 _ XR.out).mono ?_
  rintro e w' ⟨⟨t1, rfl⟩, hw⟩
  obtain rfl := hw.symm
  go_wp2_with fail
  refine (stringsBytes_any _ a1 n1 c1 A m1 _ XA.out).mono ?_
  rintro e w' ⟨⟨t2, rfl⟩, hw⟩
  obtain rfl := hw.symm
  by_cases g1 : n1 = n0
  case neg =>
    have g1' : ((n1 : Int) != (n0 : Int)) = true := by rw [bne_iff_ne]; omega
    go_wp2_with (go_at_call 7; refine (add_any _ _ _).mono ?_; rintro e w' ⟨⟨t3, rfl⟩, hw⟩; obtain rfl := hw.symm)
    all_goals (go_ret; exact ⟨rfl, XB.out⟩)
  obtain rfl := g1.symm
  by_cases g2 : n2 = n0
  case neg =>
    have g2' : ((n2 : Int) != (n0 : Int)) = true := by rw [bne_iff_ne]; omega
    go_wp2_with (go_at_call 7; refine (add_any _ _ _).mono ?_; rintro e w' ⟨⟨t3, rfl⟩, hw⟩; obtain rfl := hw.symm)
    all_goals (go_ret; exact ⟨rfl, XB.out⟩)
  obtain rfl := g2.symm
  by_cases g3 : k < 0
  case pos =>
    go_wp2_with (go_at_call 7; refine (add_any _ _ _).mono ?_; rintro e w' ⟨⟨t3, rfl⟩, hw⟩; obtain rfl := hw.symm)
    all_goals (go_ret; exact ⟨rfl, XB.out⟩)
  obtain ⟨kk, rfl⟩ := Int.eq_ofNat_of_zero_le (show 0 ≤ k by omega)
  by_cases g4 : n0 < kk
  case pos =>
    go_wp2_with (go_at_call 7; refine (add_any _ _ _).mono ?_; rintro e w' ⟨⟨t3, rfl⟩, hw⟩; obtain rfl := hw.symm)
    all_goals (go_ret; exact ⟨rfl, XB.out⟩)
  have hkk : kk ≤ n0 := by omega
  by_cases g5 : q < -9223372036854775807
  case pos =>
    have g5' : q < wrap64 (q - 1) := by unfold wrap64; omega
    clear hqb hkb
    go_wp2_with (go_at_call 7; refine (add_any _ _ _).mono ?_; rintro e w' ⟨⟨t3, rfl⟩, hw⟩; obtain rfl := hw.symm)
    all_goals (go_ret; exact ⟨rfl, XB.out⟩)
  have E0 : Hid (Env w w4 none n0 R a1 A (some ⟨w.heap.size, 0, none⟩) M) := ⟨XR.out, XA.out, XM.out, XB.out⟩
  clear XR XA XM XB g3 g4
  go_wp2_with (go_at_call 7; refine (add_any _ _ _).mono ?_; rintro e w' ⟨⟨t3, rfl⟩, hw⟩; obtain rfl := hw.symm)
  · go_ret
    exact ⟨rfl, E0.out.b⟩
  obtain ⟨K0, hK0⟩ : ∃ K0, kind n0 A M q = K0 := ⟨_, rfl⟩
  obtain ⟨KL, hKL⟩ : ∃ KL, kind n0 A M (q - 1) = KL := ⟨_, rfl⟩
  have HK0 : Hid (kind n0 A M q = K0) := hK0
  have HKL : Hid (kind n0 A M (q - 1) = KL) := hKL
  clear hK0 hKL
  have hn1 : n0 ≤ 65537 := by omega
  have hn2 : n0 + 1 ≤ 65537 := by omega
  refine (insertStrings_any none n0 c0 kk R x h0 hkk _ E0.out.r).mono ?_
  rintro e v10 ⟨rfl, hrow, hb⟩
  have E11 : Hid (Env w v10 none n0 R a1 A (some ⟨w.heap.size, 0, none⟩) M) := env_next E0.out hb
  have P0 : Hid (IsRow v10 (some ⟨w4.heap.size, 0, none⟩) (n0 + 1) (strV (ins R kk x))) := hrow
  clear hb hrow E0
  go_wp2_with fail
  refine (outcomes_any a1 n0 c1 A hn1 HZ.out _ E11.out.a).mono ?_
  rintro e v11 ⟨o1, d1, rfl, hrow, hb⟩
  have E12 : Hid (Env w v11 none n0 R a1 A (some ⟨w.heap.size, 0, none⟩) M) := env_next E11.out hb
  have P1 : Hid (IsRow v11 (some ⟨w4.heap.size, 0, none⟩) (n0 + 1) (strV (ins R kk x))) := isRow_below P0.out hb
  have O1 : Hid (IsRow v11 o1 n0 (strV A)) := hrow
  clear hb hrow E11
  go_wp2_with fail
  refine (zzdecide_k K0 none o1 (some ⟨w.heap.size, 0, none⟩) n0 c0 d1 n0 R A M q HK0.out hn1 _ E12.out.r O1.out E12.out.m).mono ?_
  rintro e v12 ⟨rfl, hb⟩
  have E13 : Hid (Env w v12 none n0 R a1 A (some ⟨w.heap.size, 0, none⟩) M) := env_next E12.out hb
  have P2 : Hid (IsRow v12 (some ⟨w4.heap.size, 0, none⟩) (n0 + 1) (strV (ins R kk x))) := isRow_below P1.out hb
  clear hb E12
  go_wp2_with fail
  refine (outcomes_any a1 n0 c1 A hn1 HZ.out _ E13.out.a).mono ?_
  rintro e v13 ⟨o2, d2, rfl, hrow, hb⟩
  have E14 : Hid (Env w v13 none n0 R a1 A (some ⟨w.heap.size, 0, none⟩) M) := env_next E13.out hb
  have P3 : Hid (IsRow v13 (some ⟨w4.heap.size, 0, none⟩) (n0 + 1) (strV (ins R kk x))) := isRow_below P2.out hb
  have O2 : Hid (IsRow v13 o2 n0 (strV A)) := hrow
  clear hb hrow E13
  go_wp2_with fail
  refine (zzdecide_k KL none o2 (some ⟨w.heap.size, 0, none⟩) n0 c0 d2 n0 R A M (q - 1) HKL.out hn1 _ E14.out.r O2.out E14.out.m).mono ?_
  rintro e v14 ⟨rfl, hb⟩
  have E15 : Hid (Env w v14 none n0 R a1 A (some ⟨w.heap.size, 0, none⟩) M) := env_next E14.out hb
  have P4 : Hid (IsRow v14 (some ⟨w4.heap.size, 0, none⟩) (n0 + 1) (strV (ins R kk x))) := isRow_below P3.out hb
  clear hb E14
  go_wp2_with fail
  refine (insertStrings_any a1 n0 c1 kk A ⟨#[99, 111, 109, 109, 105, 116, 116, 101, 100]⟩ h0 hkk _ E15.out.a).mono ?_
  rintro e v15 ⟨rfl, hrow, hb⟩
  have E16 : Hid (Env w v15 none n0 R a1 A (some ⟨w.heap.size, 0, none⟩) M) := env_next E15.out hb
  have P5 : Hid (IsRow v15 (some ⟨w4.heap.size, 0, none⟩) (n0 + 1) (strV (ins R kk x))) := isRow_below P4.out hb
  have I3 : Hid (IsRow v15 (some ⟨v14.heap.size, 0, none⟩) (n0 + 1) (strV (ins A kk comS))) := hrow
  clear hb hrow E15
  go_wp2_with fail
  refine (outcomes_any (some ⟨v14.heap.size, 0, none⟩) (n0 + 1) (n0 + 1) (ins A kk comS) hn2 (fun h => by cases h) _ I3.out).mono ?_
  rintro e v16 ⟨o3, d3, rfl, hrow, hb⟩
  have E17 : Hid (Env w v16 none n0 R a1 A (some ⟨w.heap.size, 0, none⟩) M) := env_next E16.out hb
  have P6 : Hid (IsRow v16 (some ⟨w4.heap.size, 0, none⟩) (n0 + 1) (strV (ins R kk x))) := isRow_below P5.out hb
  have O3 : Hid (IsRow v16 o3 (n0 + 1) (strV (ins A kk comS))) := hrow
  clear hb hrow E16
  go_wp2_with fail
  refine (insertBools_any (some ⟨w.heap.size, 0, none⟩) n0 n0 kk M b h0 hkk _ E17.out.m).mono ?_
  rintro e v17 ⟨rfl, hrow, hb⟩
  have E18 : Hid (Env w v17 none n0 R a1 A (some ⟨w.heap.size, 0, none⟩) M) := env_next E17.out hb
  have P7 : Hid (IsRow v17 (some ⟨w4.heap.size, 0, none⟩) (n0 + 1) (strV (ins R kk x))) := isRow_below P6.out hb
  have Q3 : Hid (IsRow v17 o3 (n0 + 1) (strV (ins A kk comS))) := isRow_below O3.out hb
  have J3 : Hid (IsRow v17 (some ⟨v16.heap.size, 0, none⟩) (n0 + 1) (boolV (ins M kk b))) := hrow
  clear hb hrow E17
  go_wp2_with fail
  refine (zzdecide_k 0 (some ⟨w4.heap.size, 0, none⟩) o3 (some ⟨v16.heap.size, 0, none⟩) (n0 + 1) (n0 + 1) d3 (n0 + 1) (ins R kk x) (ins A kk comS) (ins M kk b) q (kind_com n0 kk A M q b hkk) hn2 _ P7.out Q3.out J3.out).mono ?_
  rintro e v18 ⟨rfl, hb⟩
  have E19 : Hid (Env w v18 none n0 R a1 A (some ⟨w.heap.size, 0, none⟩) M) := env_next E18.out hb
  have P8 : Hid (IsRow v18 (some ⟨w4.heap.size, 0, none⟩) (n0 + 1) (strV (ins R kk x))) := isRow_below P7.out hb
  clear hb E18
  go_wp2_with fail
  obtain ⟨KA, hKA⟩ : ∃ KA, (if K0 = 0 then 0 else 1) = KA := ⟨_, rfl⟩
  have HKA : Hid ((if K0 = 0 then 0 else 1) = KA) := hKA
  clear hKA
  refine (insertStrings_any a1 n0 c1 kk A ⟨#[97, 98, 111, 114, 116, 101, 100]⟩ h0 hkk _ E19.out.a).mono ?_
  rintro e v19 ⟨rfl, hrow, hb⟩
  have E20 : Hid (Env w v19 none n0 R a1 A (some ⟨w.heap.size, 0, none⟩) M) := env_next E19.out hb
  have P9 : Hid (IsRow v19 (some ⟨w4.heap.size, 0, none⟩) (n0 + 1) (strV (ins R kk x))) := isRow_below P8.out hb
  have I4 : Hid (IsRow v19 (some ⟨v18.heap.size, 0, none⟩) (n0 + 1) (strV (ins A kk aboS))) := hrow
  clear hb hrow E19
  go_wp2_with fail
  refine (outcomes_any (some ⟨v18.heap.size, 0, none⟩) (n0 + 1) (n0 + 1) (ins A kk aboS) hn2 (fun h => by cases h) _ I4.out).mono ?_
  rintro e v20 ⟨o4, d4, rfl, hrow, hb⟩
  have E21 : Hid (Env w v20 none n0 R a1 A (some ⟨w.heap.size, 0, none⟩) M) := env_next E20.out hb
  have P10 : Hid (IsRow v20 (some ⟨w4.heap.size, 0, none⟩) (n0 + 1) (strV (ins R kk x))) := isRow_below P9.out hb
  have O4 : Hid (IsRow v20 o4 (n0 + 1) (strV (ins A kk aboS))) := hrow
  clear hb hrow E20
  go_wp2_with fail
  refine (insertBools_any (some ⟨w.heap.size, 0, none⟩) n0 n0 kk M b h0 hkk _ E21.out.m).mono ?_
  rintro e v21 ⟨rfl, hrow, hb⟩
  have E22 : Hid (Env w v21 none n0 R a1 A (some ⟨w.heap.size, 0, none⟩) M) := env_next E21.out hb
  have P11 : Hid (IsRow v21 (some ⟨w4.heap.size, 0, none⟩) (n0 + 1) (strV (ins R kk x))) := isRow_below P10.out hb
  have Q4 : Hid (IsRow v21 o4 (n0 + 1) (strV (ins A kk aboS))) := isRow_below O4.out hb
  have J4 : Hid (IsRow v21 (some ⟨v20.heap.size, 0, none⟩) (n0 + 1) (boolV (ins M kk b))) := hrow
  clear hb hrow E21
  go_wp2_with fail
  refine (zzdecide_k KA (some ⟨w4.heap.size, 0, none⟩) o4 (some ⟨v20.heap.size, 0, none⟩) (n0 + 1) (n0 + 1) d4 (n0 + 1) (ins R kk x) (ins A kk aboS) (ins M kk b) q ((kind_abo n0 kk A M q b hkk).trans (by rw [HK0.out]; exact HKA.out)) hn2 _ P11.out Q4.out J4.out).mono ?_
  rintro e v22 ⟨rfl, hb⟩
  have E23 : Hid (Env w v22 none n0 R a1 A (some ⟨w.heap.size, 0, none⟩) M) := env_next E22.out hb
  have P12 : Hid (IsRow v22 (some ⟨w4.heap.size, 0, none⟩) (n0 + 1) (strV (ins R kk x))) := isRow_below P11.out hb
  clear hb E22
  go_wp2_with fail
  refine (insertStrings_any a1 n0 c1 kk A ⟨#[117, 110, 100, 101, 99, 105, 100, 101, 100]⟩ h0 hkk _ E23.out.a).mono ?_
  rintro e v23 ⟨rfl, hrow, hb⟩
  have E24 : Hid (Env w v23 none n0 R a1 A (some ⟨w.heap.size, 0, none⟩) M) := env_next E23.out hb
  have P13 : Hid (IsRow v23 (some ⟨w4.heap.size, 0, none⟩) (n0 + 1) (strV (ins R kk x))) := isRow_below P12.out hb
  have I5 : Hid (IsRow v23 (some ⟨v22.heap.size, 0, none⟩) (n0 + 1) (strV (ins A kk undS))) := hrow
  clear hb hrow E23
  go_wp2_with fail
  refine (outcomes_any (some ⟨v22.heap.size, 0, none⟩) (n0 + 1) (n0 + 1) (ins A kk undS) hn2 (fun h => by cases h) _ I5.out).mono ?_
  rintro e v24 ⟨o5, d5, rfl, hrow, hb⟩
  have E25 : Hid (Env w v24 none n0 R a1 A (some ⟨w.heap.size, 0, none⟩) M) := env_next E24.out hb
  have P14 : Hid (IsRow v24 (some ⟨w4.heap.size, 0, none⟩) (n0 + 1) (strV (ins R kk x))) := isRow_below P13.out hb
  have O5 : Hid (IsRow v24 o5 (n0 + 1) (strV (ins A kk undS))) := hrow
  clear hb hrow E24
  go_wp2_with fail
  refine (insertBools_any (some ⟨w.heap.size, 0, none⟩) n0 n0 kk M true h0 hkk _ E25.out.m).mono ?_
  rintro e v25 ⟨rfl, hrow, hb⟩
  have E26 : Hid (Env w v25 none n0 R a1 A (some ⟨w.heap.size, 0, none⟩) M) := env_next E25.out hb
  have P15 : Hid (IsRow v25 (some ⟨w4.heap.size, 0, none⟩) (n0 + 1) (strV (ins R kk x))) := isRow_below P14.out hb
  have Q5 : Hid (IsRow v25 o5 (n0 + 1) (strV (ins A kk undS))) := isRow_below O5.out hb
  have J5 : Hid (IsRow v25 (some ⟨v24.heap.size, 0, none⟩) (n0 + 1) (boolV (ins M kk true))) := hrow
  clear hb hrow E25
  go_wp2_with fail
  refine (zzdecide_k KL (some ⟨w4.heap.size, 0, none⟩) o5 (some ⟨v24.heap.size, 0, none⟩) (n0 + 1) (n0 + 1) d5 (n0 + 1) (ins R kk x) (ins A kk undS) (ins M kk true) q ((kind_und n0 kk A M q hkk).trans HKL.out) hn2 _ P15.out Q5.out J5.out).mono ?_
  rintro e v26 ⟨rfl, hb⟩
  have E27 : Hid (Env w v26 none n0 R a1 A (some ⟨w.heap.size, 0, none⟩) M) := env_next E26.out hb
  have P16 : Hid (IsRow v26 (some ⟨w4.heap.size, 0, none⟩) (n0 + 1) (strV (ins R kk x))) := isRow_below P15.out hb
  clear hb E26
  have hk3 : K0 = 0 ∨ K0 = 1 ∨ K0 = 2 := by have := kind_lt n0 A M q; rw [HK0.out] at this; exact this
  have c0 : ((kstr 0).toList == [99, 111, 109, 109, 105, 116, 116, 101, 100]) = true := by decide +kernel
  have o0 : kok 0 = true := rfl
  rcases hk3 with rfl | rfl | rfl
  · obtain rfl : KA = 0 := HKA.out.symm.trans (if_pos rfl)
    go_wp2_with fail
    go_ret
    exact ⟨rfl, E27.out.b⟩
  · obtain rfl : KA = 1 := HKA.out.symm.trans (if_neg (by decide))
    have c1' : ((kstr 1).toList == [99, 111, 109, 109, 105, 116, 116, 101, 100]) = false := by decide +kernel
    have a1' : ((kstr 1).toList == [97, 98, 111, 114, 116, 101, 100]) = true := by decide +kernel
    have o1' : kok 1 = true := rfl
    go_wp2_with fail
    go_ret
    exact ⟨rfl, E27.out.b⟩
  · obtain rfl : KA = 1 := HKA.out.symm.trans (if_neg (by decide))
    have c2' : ((kstr 2).toList == [99, 111, 109, 109, 105, 116, 116, 101, 100]) = false := by decide +kernel
    have a1' : ((kstr 1).toList == [97, 98, 111, 114, 116, 101, 100]) = true := by decide +kernel
    have o1' : kok 1 = true := rfl
    have o2' : kok 2 = false := rfl
    go_wp2_with fail
    go_ret
    exact ⟨rfl, E27.out.b⟩

set_option maxRecDepth 100000 in
set_option maxHeartbeats 8000000 in
theorem law_nn (a1 : Option Addr) (n0 c0 n1 c1 n2 c2 : Nat) (q k : Int) (x : ByteArray) (b : Bool) (R A : Nat → ByteArray) (M : Nat → Bool) (h0 : n0 ≤ 65536) (h1 : n1 ≤ 65536) (h2 : n2 ≤ 65536) (hqb : -9223372036854775808 ≤ q ∧ q ≤ 9223372036854775807) (hkb : -9223372036854775808 ≤ k ∧ k ≤ 9223372036854775807) (w : World) (r0 : IsRow w none n0 (strV R)) (r1 : IsRow w a1 n1 (strV A)) (r2 : IsRow w none n2 (boolV M)) (z1 : a1 = none → n1 = 0) :
    Calls Try.prog 3 #[.slice none n0 c0, .slice a1 n1 c1, .slice none n2 c2, .int .i64 q, .int .i64 k, .string x, .bool b] w fun e w' => e = .returned (.bool true) ∧ Below w.heap.size w w' := by
  have m0 : n0 ≤ maxLen := by unfold maxLen; omega
  have m1 : n1 ≤ maxLen := by unfold maxLen; omega
  obtain ⟨i9, hi9, hz90, hz91, hz92⟩ := info_parts Try.info9
  obtain ⟨i4, hi4, hz40, hz41, hz42⟩ := info_parts Try.info4
  have q22 := fun w a n c => run_neq_slice_nil_any (P := Try.prog) w 22 9 a n c 0 0 Try.underlying22
  have q23 := fun w a n c => run_neq_slice_nil_any (P := Try.prog) w 23 4 a n c 0 0 Try.underlying23
  have HR0 : Hid (IsRow w none n0 (strV R)) := r0
  have HR1 : Hid (IsRow w a1 n1 (strV A)) := r1
  have HR2 : Hid (IsRow w none n2 (boolV M)) := r2
  have HZ : Hid (a1 = none → n1 = 0) := z1
  clear r0 r1 r2 z1
  have HB0 : Hid (Below w.heap.size w w) := Below.refl _ _
  have HW0 : Hid (IsRow w none n0 (strV R)) := HR0.out
  go_enter Try.func3, Try.ntmps3
  go_wp2_with (first
    | (go_at_call 5; refine (zzBytes_any none a1 none n0 c0 n1 c1 n2 c2 q k x b R A m0 m1 _ HR0.out HR1.out).mono ?_; rintro e w' ⟨⟨r, rfl⟩, hw⟩; obtain rfl := hw.symm))
  · go_ret
    exact ⟨rfl, Below.refl _ _⟩
  have hbel : Below w.heap.size w w := HB0.out
  have hrowR : IsRow w none n0 (strV R) := HW0.out
  have hrowM : IsRow w none n2 (boolV M) := isRow_below HR2.out HB0.out
  have hrowA : IsRow w a1 n1 (strV A) := isRow_below HR1.out hbel
  have XB : Hid (Below w.heap.size w w) := hbel
  have XR : Hid (IsRow w none n0 (strV R)) := hrowR
  have XM : Hid (IsRow w none n2 (boolV M)) := hrowM
  have XA : Hid (IsRow w a1 n1 (strV A)) := hrowA
  clear hbel hrowR hrowM hrowA HR0 HR1 HR2
  refine (stringsBytes_any _ none n0 c0 R m0 _ XR.out).mono ?_
  rintro e w' ⟨⟨t1, rfl⟩, hw⟩
  obtain rfl := hw.symm
  go_wp2_with fail
  refine (stringsBytes_any _ a1 n1 c1 A m1 _ XA.out).mono ?_
  rintro e w' ⟨⟨t2, rfl⟩, hw⟩
  obtain rfl := hw.symm
  by_cases g1 : n1 = n0
  case neg =>
    have g1' : ((n1 : Int) != (n0 : Int)) = true := by rw [bne_iff_ne]; omega
    go_wp2_with (go_at_call 7; refine (add_any _ _ _).mono ?_; rintro e w' ⟨⟨t3, rfl⟩, hw⟩; obtain rfl := hw.symm)
    all_goals (go_ret; exact ⟨rfl, XB.out⟩)
  obtain rfl := g1.symm
  by_cases g2 : n2 = n0
  case neg =>
    have g2' : ((n2 : Int) != (n0 : Int)) = true := by rw [bne_iff_ne]; omega
    go_wp2_with (go_at_call 7; refine (add_any _ _ _).mono ?_; rintro e w' ⟨⟨t3, rfl⟩, hw⟩; obtain rfl := hw.symm)
    all_goals (go_ret; exact ⟨rfl, XB.out⟩)
  obtain rfl := g2.symm
  by_cases g3 : k < 0
  case pos =>
    go_wp2_with (go_at_call 7; refine (add_any _ _ _).mono ?_; rintro e w' ⟨⟨t3, rfl⟩, hw⟩; obtain rfl := hw.symm)
    all_goals (go_ret; exact ⟨rfl, XB.out⟩)
  obtain ⟨kk, rfl⟩ := Int.eq_ofNat_of_zero_le (show 0 ≤ k by omega)
  by_cases g4 : n0 < kk
  case pos =>
    go_wp2_with (go_at_call 7; refine (add_any _ _ _).mono ?_; rintro e w' ⟨⟨t3, rfl⟩, hw⟩; obtain rfl := hw.symm)
    all_goals (go_ret; exact ⟨rfl, XB.out⟩)
  have hkk : kk ≤ n0 := by omega
  by_cases g5 : q < -9223372036854775807
  case pos =>
    have g5' : q < wrap64 (q - 1) := by unfold wrap64; omega
    clear hqb hkb
    go_wp2_with (go_at_call 7; refine (add_any _ _ _).mono ?_; rintro e w' ⟨⟨t3, rfl⟩, hw⟩; obtain rfl := hw.symm)
    all_goals (go_ret; exact ⟨rfl, XB.out⟩)
  have E0 : Hid (Env w w none n0 R a1 A none M) := ⟨XR.out, XA.out, XM.out, XB.out⟩
  clear XR XA XM XB g3 g4
  go_wp2_with (go_at_call 7; refine (add_any _ _ _).mono ?_; rintro e w' ⟨⟨t3, rfl⟩, hw⟩; obtain rfl := hw.symm)
  · go_ret
    exact ⟨rfl, E0.out.b⟩
  obtain ⟨K0, hK0⟩ : ∃ K0, kind n0 A M q = K0 := ⟨_, rfl⟩
  obtain ⟨KL, hKL⟩ : ∃ KL, kind n0 A M (q - 1) = KL := ⟨_, rfl⟩
  have HK0 : Hid (kind n0 A M q = K0) := hK0
  have HKL : Hid (kind n0 A M (q - 1) = KL) := hKL
  clear hK0 hKL
  have hn1 : n0 ≤ 65537 := by omega
  have hn2 : n0 + 1 ≤ 65537 := by omega
  refine (insertStrings_any none n0 c0 kk R x h0 hkk _ E0.out.r).mono ?_
  rintro e v10 ⟨rfl, hrow, hb⟩
  have E11 : Hid (Env w v10 none n0 R a1 A none M) := env_next E0.out hb
  have P0 : Hid (IsRow v10 (some ⟨w.heap.size, 0, none⟩) (n0 + 1) (strV (ins R kk x))) := hrow
  clear hb hrow E0
  go_wp2_with fail
  refine (outcomes_any a1 n0 c1 A hn1 HZ.out _ E11.out.a).mono ?_
  rintro e v11 ⟨o1, d1, rfl, hrow, hb⟩
  have E12 : Hid (Env w v11 none n0 R a1 A none M) := env_next E11.out hb
  have P1 : Hid (IsRow v11 (some ⟨w.heap.size, 0, none⟩) (n0 + 1) (strV (ins R kk x))) := isRow_below P0.out hb
  have O1 : Hid (IsRow v11 o1 n0 (strV A)) := hrow
  clear hb hrow E11
  go_wp2_with fail
  refine (zzdecide_k K0 none o1 none n0 c0 d1 c2 R A M q HK0.out hn1 _ E12.out.r O1.out E12.out.m).mono ?_
  rintro e v12 ⟨rfl, hb⟩
  have E13 : Hid (Env w v12 none n0 R a1 A none M) := env_next E12.out hb
  have P2 : Hid (IsRow v12 (some ⟨w.heap.size, 0, none⟩) (n0 + 1) (strV (ins R kk x))) := isRow_below P1.out hb
  clear hb E12
  go_wp2_with fail
  refine (outcomes_any a1 n0 c1 A hn1 HZ.out _ E13.out.a).mono ?_
  rintro e v13 ⟨o2, d2, rfl, hrow, hb⟩
  have E14 : Hid (Env w v13 none n0 R a1 A none M) := env_next E13.out hb
  have P3 : Hid (IsRow v13 (some ⟨w.heap.size, 0, none⟩) (n0 + 1) (strV (ins R kk x))) := isRow_below P2.out hb
  have O2 : Hid (IsRow v13 o2 n0 (strV A)) := hrow
  clear hb hrow E13
  go_wp2_with fail
  refine (zzdecide_k KL none o2 none n0 c0 d2 c2 R A M (q - 1) HKL.out hn1 _ E14.out.r O2.out E14.out.m).mono ?_
  rintro e v14 ⟨rfl, hb⟩
  have E15 : Hid (Env w v14 none n0 R a1 A none M) := env_next E14.out hb
  have P4 : Hid (IsRow v14 (some ⟨w.heap.size, 0, none⟩) (n0 + 1) (strV (ins R kk x))) := isRow_below P3.out hb
  clear hb E14
  go_wp2_with fail
  refine (insertStrings_any a1 n0 c1 kk A ⟨#[99, 111, 109, 109, 105, 116, 116, 101, 100]⟩ h0 hkk _ E15.out.a).mono ?_
  rintro e v15 ⟨rfl, hrow, hb⟩
  have E16 : Hid (Env w v15 none n0 R a1 A none M) := env_next E15.out hb
  have P5 : Hid (IsRow v15 (some ⟨w.heap.size, 0, none⟩) (n0 + 1) (strV (ins R kk x))) := isRow_below P4.out hb
  have I3 : Hid (IsRow v15 (some ⟨v14.heap.size, 0, none⟩) (n0 + 1) (strV (ins A kk comS))) := hrow
  clear hb hrow E15
  go_wp2_with fail
  refine (outcomes_any (some ⟨v14.heap.size, 0, none⟩) (n0 + 1) (n0 + 1) (ins A kk comS) hn2 (fun h => by cases h) _ I3.out).mono ?_
  rintro e v16 ⟨o3, d3, rfl, hrow, hb⟩
  have E17 : Hid (Env w v16 none n0 R a1 A none M) := env_next E16.out hb
  have P6 : Hid (IsRow v16 (some ⟨w.heap.size, 0, none⟩) (n0 + 1) (strV (ins R kk x))) := isRow_below P5.out hb
  have O3 : Hid (IsRow v16 o3 (n0 + 1) (strV (ins A kk comS))) := hrow
  clear hb hrow E16
  go_wp2_with fail
  refine (insertBools_any none n0 c2 kk M b h0 hkk _ E17.out.m).mono ?_
  rintro e v17 ⟨rfl, hrow, hb⟩
  have E18 : Hid (Env w v17 none n0 R a1 A none M) := env_next E17.out hb
  have P7 : Hid (IsRow v17 (some ⟨w.heap.size, 0, none⟩) (n0 + 1) (strV (ins R kk x))) := isRow_below P6.out hb
  have Q3 : Hid (IsRow v17 o3 (n0 + 1) (strV (ins A kk comS))) := isRow_below O3.out hb
  have J3 : Hid (IsRow v17 (some ⟨v16.heap.size, 0, none⟩) (n0 + 1) (boolV (ins M kk b))) := hrow
  clear hb hrow E17
  go_wp2_with fail
  refine (zzdecide_k 0 (some ⟨w.heap.size, 0, none⟩) o3 (some ⟨v16.heap.size, 0, none⟩) (n0 + 1) (n0 + 1) d3 (n0 + 1) (ins R kk x) (ins A kk comS) (ins M kk b) q (kind_com n0 kk A M q b hkk) hn2 _ P7.out Q3.out J3.out).mono ?_
  rintro e v18 ⟨rfl, hb⟩
  have E19 : Hid (Env w v18 none n0 R a1 A none M) := env_next E18.out hb
  have P8 : Hid (IsRow v18 (some ⟨w.heap.size, 0, none⟩) (n0 + 1) (strV (ins R kk x))) := isRow_below P7.out hb
  clear hb E18
  go_wp2_with fail
  obtain ⟨KA, hKA⟩ : ∃ KA, (if K0 = 0 then 0 else 1) = KA := ⟨_, rfl⟩
  have HKA : Hid ((if K0 = 0 then 0 else 1) = KA) := hKA
  clear hKA
  refine (insertStrings_any a1 n0 c1 kk A ⟨#[97, 98, 111, 114, 116, 101, 100]⟩ h0 hkk _ E19.out.a).mono ?_
  rintro e v19 ⟨rfl, hrow, hb⟩
  have E20 : Hid (Env w v19 none n0 R a1 A none M) := env_next E19.out hb
  have P9 : Hid (IsRow v19 (some ⟨w.heap.size, 0, none⟩) (n0 + 1) (strV (ins R kk x))) := isRow_below P8.out hb
  have I4 : Hid (IsRow v19 (some ⟨v18.heap.size, 0, none⟩) (n0 + 1) (strV (ins A kk aboS))) := hrow
  clear hb hrow E19
  go_wp2_with fail
  refine (outcomes_any (some ⟨v18.heap.size, 0, none⟩) (n0 + 1) (n0 + 1) (ins A kk aboS) hn2 (fun h => by cases h) _ I4.out).mono ?_
  rintro e v20 ⟨o4, d4, rfl, hrow, hb⟩
  have E21 : Hid (Env w v20 none n0 R a1 A none M) := env_next E20.out hb
  have P10 : Hid (IsRow v20 (some ⟨w.heap.size, 0, none⟩) (n0 + 1) (strV (ins R kk x))) := isRow_below P9.out hb
  have O4 : Hid (IsRow v20 o4 (n0 + 1) (strV (ins A kk aboS))) := hrow
  clear hb hrow E20
  go_wp2_with fail
  refine (insertBools_any none n0 c2 kk M b h0 hkk _ E21.out.m).mono ?_
  rintro e v21 ⟨rfl, hrow, hb⟩
  have E22 : Hid (Env w v21 none n0 R a1 A none M) := env_next E21.out hb
  have P11 : Hid (IsRow v21 (some ⟨w.heap.size, 0, none⟩) (n0 + 1) (strV (ins R kk x))) := isRow_below P10.out hb
  have Q4 : Hid (IsRow v21 o4 (n0 + 1) (strV (ins A kk aboS))) := isRow_below O4.out hb
  have J4 : Hid (IsRow v21 (some ⟨v20.heap.size, 0, none⟩) (n0 + 1) (boolV (ins M kk b))) := hrow
  clear hb hrow E21
  go_wp2_with fail
  refine (zzdecide_k KA (some ⟨w.heap.size, 0, none⟩) o4 (some ⟨v20.heap.size, 0, none⟩) (n0 + 1) (n0 + 1) d4 (n0 + 1) (ins R kk x) (ins A kk aboS) (ins M kk b) q ((kind_abo n0 kk A M q b hkk).trans (by rw [HK0.out]; exact HKA.out)) hn2 _ P11.out Q4.out J4.out).mono ?_
  rintro e v22 ⟨rfl, hb⟩
  have E23 : Hid (Env w v22 none n0 R a1 A none M) := env_next E22.out hb
  have P12 : Hid (IsRow v22 (some ⟨w.heap.size, 0, none⟩) (n0 + 1) (strV (ins R kk x))) := isRow_below P11.out hb
  clear hb E22
  go_wp2_with fail
  refine (insertStrings_any a1 n0 c1 kk A ⟨#[117, 110, 100, 101, 99, 105, 100, 101, 100]⟩ h0 hkk _ E23.out.a).mono ?_
  rintro e v23 ⟨rfl, hrow, hb⟩
  have E24 : Hid (Env w v23 none n0 R a1 A none M) := env_next E23.out hb
  have P13 : Hid (IsRow v23 (some ⟨w.heap.size, 0, none⟩) (n0 + 1) (strV (ins R kk x))) := isRow_below P12.out hb
  have I5 : Hid (IsRow v23 (some ⟨v22.heap.size, 0, none⟩) (n0 + 1) (strV (ins A kk undS))) := hrow
  clear hb hrow E23
  go_wp2_with fail
  refine (outcomes_any (some ⟨v22.heap.size, 0, none⟩) (n0 + 1) (n0 + 1) (ins A kk undS) hn2 (fun h => by cases h) _ I5.out).mono ?_
  rintro e v24 ⟨o5, d5, rfl, hrow, hb⟩
  have E25 : Hid (Env w v24 none n0 R a1 A none M) := env_next E24.out hb
  have P14 : Hid (IsRow v24 (some ⟨w.heap.size, 0, none⟩) (n0 + 1) (strV (ins R kk x))) := isRow_below P13.out hb
  have O5 : Hid (IsRow v24 o5 (n0 + 1) (strV (ins A kk undS))) := hrow
  clear hb hrow E24
  go_wp2_with fail
  refine (insertBools_any none n0 c2 kk M true h0 hkk _ E25.out.m).mono ?_
  rintro e v25 ⟨rfl, hrow, hb⟩
  have E26 : Hid (Env w v25 none n0 R a1 A none M) := env_next E25.out hb
  have P15 : Hid (IsRow v25 (some ⟨w.heap.size, 0, none⟩) (n0 + 1) (strV (ins R kk x))) := isRow_below P14.out hb
  have Q5 : Hid (IsRow v25 o5 (n0 + 1) (strV (ins A kk undS))) := isRow_below O5.out hb
  have J5 : Hid (IsRow v25 (some ⟨v24.heap.size, 0, none⟩) (n0 + 1) (boolV (ins M kk true))) := hrow
  clear hb hrow E25
  go_wp2_with fail
  refine (zzdecide_k KL (some ⟨w.heap.size, 0, none⟩) o5 (some ⟨v24.heap.size, 0, none⟩) (n0 + 1) (n0 + 1) d5 (n0 + 1) (ins R kk x) (ins A kk undS) (ins M kk true) q ((kind_und n0 kk A M q hkk).trans HKL.out) hn2 _ P15.out Q5.out J5.out).mono ?_
  rintro e v26 ⟨rfl, hb⟩
  have E27 : Hid (Env w v26 none n0 R a1 A none M) := env_next E26.out hb
  have P16 : Hid (IsRow v26 (some ⟨w.heap.size, 0, none⟩) (n0 + 1) (strV (ins R kk x))) := isRow_below P15.out hb
  clear hb E26
  have hk3 : K0 = 0 ∨ K0 = 1 ∨ K0 = 2 := by have := kind_lt n0 A M q; rw [HK0.out] at this; exact this
  have c0 : ((kstr 0).toList == [99, 111, 109, 109, 105, 116, 116, 101, 100]) = true := by decide +kernel
  have o0 : kok 0 = true := rfl
  rcases hk3 with rfl | rfl | rfl
  · obtain rfl : KA = 0 := HKA.out.symm.trans (if_pos rfl)
    go_wp2_with fail
    go_ret
    exact ⟨rfl, E27.out.b⟩
  · obtain rfl : KA = 1 := HKA.out.symm.trans (if_neg (by decide))
    have c1' : ((kstr 1).toList == [99, 111, 109, 109, 105, 116, 116, 101, 100]) = false := by decide +kernel
    have a1' : ((kstr 1).toList == [97, 98, 111, 114, 116, 101, 100]) = true := by decide +kernel
    have o1' : kok 1 = true := rfl
    go_wp2_with fail
    go_ret
    exact ⟨rfl, E27.out.b⟩
  · obtain rfl : KA = 1 := HKA.out.symm.trans (if_neg (by decide))
    have c2' : ((kstr 2).toList == [99, 111, 109, 109, 105, 116, 116, 101, 100]) = false := by decide +kernel
    have a1' : ((kstr 1).toList == [97, 98, 111, 114, 116, 101, 100]) = true := by decide +kernel
    have o1' : kok 1 = true := rfl
    have o2' : kok 2 = false := rfl
    go_wp2_with fail
    go_ret
    exact ⟨rfl, E27.out.b⟩
end Go.Proofs.Qxb6616471a
