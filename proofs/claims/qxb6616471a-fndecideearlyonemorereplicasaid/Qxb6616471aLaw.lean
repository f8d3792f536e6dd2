/-
  The walk of 'FnDecideEarlyOneMoreReplica'.
-/
import Derived.Test.Qxb6616471aDecide
import Derived.Laws.CopyOwn
namespace Go.Proofs.Qxb6616471a
open Go.RowKit

theorem row_of {w : World} {B e g n : Nat} {xs : List Value} (h : w.ownsRow B e 1 (.slice (some ⟨g, 0, none⟩) n n) n xs) : ∃ cur : List Value, w.heap[g]? = some (.cells cur.toArray e (0, 0)) ∧ cur.length = n := by
  rcases h.2 with ⟨h', _⟩ | ⟨g', cap, cur, h', _, hg, _, _, hs, _⟩
  · simp at h'
  · simp only [Value.slice.injEq, Option.some.injEq, Addr.mk.injEq, and_true, true_and] at h'
    obtain ⟨rfl, rfl⟩ := h'
    exact ⟨cur.toList, by simpa using hg, by simpa using hs⟩

theorem vals_length (V : Nat → Value) (m : Nat) : (vals V m).length = m := by simp [vals]

theorem isRow_splice {w : World} {g n e : Nat} {cur : List Value} {V : Nat → Value} (hl : cur.length = n) (h : w.heap[g]? = some (.cells (splice cur 0 (vals V n)).toArray e (0, 0))) : IsRow w (some ⟨g, 0, none⟩) n V := by
  right
  refine ⟨g, 0, rfl, fun i hi => ?_⟩
  have e1 : splice cur 0 (vals V n) = vals V n := by
    have : cur.drop (0 + (vals V n).length) = [] := List.drop_eq_nil_of_le (by rw [vals_length]; omega)
    unfold splice
    rw [this]
    simp
  rw [e1] at h
  rw [Nat.zero_add, cell_of_row w g i _ e (0, 0) h]
  simp [vals, hi]

theorem vals_str (S : Nat → ByteArray) (n : Nat) : ∀ v ∈ vals (strV S) n, v.oneCell' = true := by
  intro v hv
  simp [vals] at hv
  obtain ⟨i, _, rfl⟩ := hv
  rfl
theorem vals_bool (S : Nat → Bool) (n : Nat) : ∀ v ∈ vals (boolV S) n, v.oneCell' = true := by
  intro v hv
  simp [vals] at hv
  obtain ⟨i, _, rfl⟩ := hv
  rfl

/-- Where a cell goes over at all, the source has an address, and its cells lie there. -/
theorem src_at {w : World} {x : Addr} {n : Nat} {V : Nat → Value} (h : IsRow w (some x) n V) (g : Nat) : 0 < (vals V n).length → (some ⟨g, 0, none⟩ : Option Addr) = some ⟨g, 0, none⟩ ∧ ∃ ad, (some x : Option Addr) = some ad ∧ ∀ j v, (vals V n)[j]? = some v → w.cell? (ad.add j) = some v := by
  intro h0
  rw [vals_length] at h0
  refine ⟨rfl, x, rfl, fun j v hj => ?_⟩
  rcases h with rfl | ⟨b, off, hx, hc⟩
  · omega
  cases hx
  have hjn : j < n := by
    have := (List.getElem?_eq_some_iff.1 hj).1
    rwa [vals_length] at this
  rw [vals_at V n j hjn] at hj
  cases hj
  rw [Addr.add_lit]
  exact hc j hjn

set_option maxRecDepth 100000 in
set_option maxHeartbeats 1000000 in
/-- Too long: true at once. -/
theorem law_long (a0 a1 a2 : Option Addr) (n0 c0 n1 c1 n2 c2 : Nat) (q k : Int) (x : ByteArray) (b : Bool) (R A : Nat → ByteArray) (h0 : n0 ≤ maxLen) (h1 : n1 ≤ maxLen) (w : World) (r0 : IsRow w a0 n0 (strV R)) (r1 : IsRow w a1 n1 (strV A))
    (hg : 65536 < n0 ∨ 65536 < n1 ∨ 65536 < n2) :
    Calls Try.prog 3 #[.slice a0 n0 c0, .slice a1 n1 c1, .slice a2 n2 c2, .int .i64 q, .int .i64 k, .string x, .bool b] w fun e w' => e = .returned (.bool true) ∧ Below w.heap.size w w' := by
  by_cases g0 : 65536 < n0
  · clear hg
    go_enter Try.func3, Try.ntmps3
    go_wp2_with (go_at_call 5; refine (zzBytes_any a0 a1 a2 n0 c0 n1 c1 n2 c2 q k x b R A h0 h1 _ r0 r1).mono ?_; rintro e w' ⟨⟨r, rfl⟩, rfl⟩)
    all_goals (go_ret; exact ⟨rfl, Below.refl _ _⟩)
  by_cases g1 : 65536 < n1
  · clear hg
    go_enter Try.func3, Try.ntmps3
    go_wp2_with (go_at_call 5; refine (zzBytes_any a0 a1 a2 n0 c0 n1 c1 n2 c2 q k x b R A h0 h1 _ r0 r1).mono ?_; rintro e w' ⟨⟨r, rfl⟩, rfl⟩)
    all_goals (go_ret; exact ⟨rfl, Below.refl _ _⟩)
  by_cases g2 : 65536 < n2
  · clear hg
    go_enter Try.func3, Try.ntmps3
    go_wp2_with (go_at_call 5; refine (zzBytes_any a0 a1 a2 n0 c0 n1 c1 n2 c2 q k x b R A h0 h1 _ r0 r1).mono ?_; rintro e w' ⟨⟨r, rfl⟩, rfl⟩)
    all_goals (go_ret; exact ⟨rfl, Below.refl _ _⟩)
  omega

/-- What stays in reach through the law's walk: the three slices' rows, and that nothing old has turned. -/
structure Env (w W : World) (ar : Option Addr) (n : Nat) (R : Nat → ByteArray) (aa : Option Addr) (A : Nat → ByteArray) (am : Option Addr) (M : Nat → Bool) : Prop where
  r : IsRow W ar n (strV R)
  a : IsRow W aa n (strV A)
  m : IsRow W am n (boolV M)
  b : Below w.heap.size w W

theorem env_next {w W W' : World} {ar aa am : Option Addr} {n : Nat} {R A : Nat → ByteArray} {M : Nat → Bool} (H : Env w W ar n R aa A am M) (hb : Below W.heap.size W W') : Env w W' ar n R aa A am M :=
  ⟨isRow_below H.r hb, isRow_below H.a hb, isRow_below H.m hb, H.b.trans (hb.mono H.b.size)⟩

/-- ZZdecideEarlyAtLeast, the decision named. -/
theorem zzdecide_k (κ : Nat) (ar aa am : Option Addr) (n cr ca cm : Nat) (R A : Nat → ByteArray) (M : Nat → Bool) (q : Int) (hκ : kind n A M q = κ) (hn : n ≤ 65537) (w : World) (hr : IsRow w ar n (strV R)) (ha : IsRow w aa n (strV A)) (hm : IsRow w am n (boolV M)) :
    Calls Try.prog 9 #[.slice ar n cr, .slice aa n ca, .slice am n cm, .int .i64 q] w fun e w' =>
      e = .returned (.tuple #[.string (kstr κ), .bool (kok κ)]) ∧ Below w.heap.size w w' := by
  subst hκ
  exact zzdecide_any ar aa am n cr ca cm R A M q hn w hr ha hm
end Go.Proofs.Qxb6616471a
