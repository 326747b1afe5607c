/-
  Seat b6608868a: three 'latencies' of the call's own, apart from one another.
-/
import Derived.Test.Qxb6608868aMerge
import Derived.Test.Qxb6608868aNearLaw
namespace Go.Proofs.Qxb6608868a
open Go.RowKit

theorem Lat.congr {w : World} {b : Nat} {c c' : Int} {G : Nat → Option Nat} {C C' : Nat → Int} (h : Lat w b c G C) (hc : c = c') (he : ∀ j, j < 3712 → C j = C' j) : Lat w b c' G C' := by
  subst hc
  refine ⟨h.lt, h.cc, h.gp, fun g x hg hx => ?_, fun g hg hn i hi => ?_, h.inj⟩
  · obtain ⟨h1, h2, h3⟩ := h.row g x hg hx
    refine ⟨h1, h2, fun i hi => ⟨?_, (h3 i hi).2⟩⟩
    rw [(h3 i hi).1]
    show some (Value.int .i64 (C (64 * g + i))) = some (Value.int .i64 (C' (64 * g + i)))
    rw [he _ (by omega)]
  · rw [← he _ (by omega)]
    exact h.nil g hg hn i hi

/-- Three of the call's own: block, count, bins each. -/
structure Trio (w0 w : World) (b1 b2 b3 : Nat) (c1 c2 c3 : Int) (C1 C2 C3 : Nat → Int) : Prop where
  ex : ∃ G1 G2 G3, Lat w b1 c1 G1 C1 ∧ Lat w b2 c2 G2 C2 ∧ Lat w b3 c3 G3 C3 ∧ Apart b1 G1 b2 G2 ∧ Apart b2 G2 b3 G3 ∧ Apart b3 G3 b1 G1 ∧
    (∀ j, Own b1 G1 j → w0.heap.size ≤ j) ∧ (∀ j, Own b2 G2 j → w0.heap.size ≤ j) ∧ (∀ j, Own b3 G3 j → w0.heap.size ≤ j)
  bel : Below w0.heap.size w0 w

theorem Trio.rot {w0 w : World} {b1 b2 b3 : Nat} {c1 c2 c3 : Int} {C1 C2 C3 : Nat → Int} (h : Trio w0 w b1 b2 b3 c1 c2 c3 C1 C2 C3) : Trio w0 w b2 b3 b1 c2 c3 c1 C2 C3 C1 := by
  obtain ⟨⟨G1, G2, G3, h1, h2, h3, a1, a2, a3, o1, o2, o3⟩, hb⟩ := h
  exact ⟨⟨G2, G3, G1, h2, h3, h1, a2, a3, a1, o2, o3, o1⟩, hb⟩

theorem Trio.drewN {w0 w : World} {b1 b2 b3 : Nat} {c1 c2 c3 : Int} {C1 C2 C3 : Nat → Int} (h : Trio w0 w b1 b2 b3 c1 c2 c3 C1 C2 C3) (q : Nat) : Trio w0 (w.drewN q) b1 b2 b3 c1 c2 c3 C1 C2 C3 := by
  obtain ⟨⟨G1, G2, G3, h1, h2, h3, a1, a2, a3, o1, o2, o3⟩, hb⟩ := h
  exact ⟨⟨G1, G2, G3, h1.drewN q, h2.drewN q, h3.drewN q, a1, a2, a3, o1, o2, o3⟩, ⟨hb.os, hb.tape, hb.output, hb.size, hb.block⟩⟩

theorem Trio.below {w0 w w' : World} {b1 b2 b3 : Nat} {c1 c2 c3 : Int} {C1 C2 C3 : Nat → Int} (h : Trio w0 w b1 b2 b3 c1 c2 c3 C1 C2 C3) (hb' : Below w.heap.size w w') : Trio w0 w' b1 b2 b3 c1 c2 c3 C1 C2 C3 := by
  obtain ⟨⟨G1, G2, G3, h1, h2, h3, a1, a2, a3, o1, o2, o3⟩, hb⟩ := h
  exact ⟨⟨G1, G2, G3, h1.below hb', h2.below hb', h3.below hb', a1, a2, a3, o1, o2, o3⟩, hb.trans (hb'.mono hb.size)⟩

/-- The first has turned, and nothing else. -/
theorem Trio.step {w0 w w' : World} {b1 b2 b3 : Nat} {c2 c3 c1' : Int} {C2 C3 C1' : Nat → Int} {G1 G2 G3 G1' : Nat → Option Nat}
    (h2 : Lat w b2 c2 G2 C2) (h3 : Lat w b3 c3 G3 C3) (a1 : Apart b1 G1 b2 G2) (a2 : Apart b2 G2 b3 G3) (a3 : Apart b3 G3 b1 G1)
    (o1 : ∀ j, Own b1 G1 j → w0.heap.size ≤ j) (o2 : ∀ j, Own b2 G2 j → w0.heap.size ≤ j) (o3 : ∀ j, Own b3 G3 j → w0.heap.size ≤ j) (hb : Below w0.heap.size w0 w)
    (h1' : Lat w' b1 c1' G1' C1') (hm : More w.heap.size G1 G1') (ho : Only w w' b1 G1) : Trio w0 w' b1 b2 b3 c1' c2 c3 C1' C2 C3 := by
  refine ⟨⟨G1', G2, G3, h1', h2.only ho a1.symm, h3.only ho a3, (a1.symm.more h2 hm).symm, a2, a3.more h3 hm, fun j hj => ?_, o2, o3⟩, hb.trans (ho.below hb.size (o1 b1 (.inl rfl)) (fun g x hg hx => o1 x (.inr ⟨g, hg, hx⟩)))⟩
  rcases hj with e | ⟨g, hg, e⟩
  · exact o1 j (.inl e)
  · rcases hm g j hg e with e' | e'
    · exact o1 j (.inr ⟨g, hg, e'⟩)
    · have := hb.size
      omega

theorem trioAdd {w0 w : World} {b1 b2 b3 : Nat} {c1 c2 c3 : Int} {C1 C2 C3 : Nat → Int} (h : Trio w0 w b1 b2 b3 c1 c2 c3 C1 C2 C3) (k : Nat) (hk : k < 3712) (hc0 : 0 ≤ c1) (hc1 : c1 ≤ 1000000) (hC0 : 0 ≤ C1 k) (hC1 : C1 k ≤ 1000000) :
    Calls Try.prog 9 #[.pointer (some ⟨b1, 0, none⟩), .int .i64 k, .int .i64 1] w fun e w' => e = .returned (.tuple #[]) ∧ Trio w0 w' b1 b2 b3 (c1 + 1) c2 c3 (upd C1 k (C1 k + 1)) C2 C3 := by
  obtain ⟨⟨G1, G2, G3, h1, h2, h3, a1, a2, a3, o1, o2, o3⟩, hb⟩ := h
  refine (zzAdd b1 c1 G1 C1 k hk 1 w h1 hc0 hc1 hC0 hC1 (by omega) (by omega)).mono ?_
  rintro e w' ⟨rfl, G', hl, hm, ho⟩
  exact ⟨rfl, Trio.step h2 h3 a1 a2 a3 o1 o2 o3 hb hl hm ho⟩

theorem trioMerge {w0 w : World} {b1 b2 b3 : Nat} {c1 c2 c3 : Int} {C1 C2 C3 : Nat → Int} (h : Trio w0 w b1 b2 b3 c1 c2 c3 C1 C2 C3) (hC : ∀ j, 0 ≤ C1 j ∧ C1 j ≤ 100000) (hD : ∀ j, 0 ≤ C2 j ∧ C2 j ≤ 100000) (hc0 : 0 ≤ c1) (hc1 : c1 ≤ 100000) (hp : pre C2 3712 ≤ 100000) :
    Calls Try.prog 15 #[.pointer (some ⟨b1, 0, none⟩), .pointer (some ⟨b2, 0, none⟩)] w fun e w' => e = .returned (.tuple #[]) ∧ Trio w0 w' b1 b2 b3 (c1 + pre C2 3712) c2 c3 (mix C1 C2 3712) C2 C3 := by
  obtain ⟨⟨G1, G2, G3, h1, h2, h3, a1, a2, a3, o1, o2, o3⟩, hb⟩ := h
  refine (zzMerge b1 c1 G1 C1 b2 c2 G2 C2 w h1 h2 a1.symm hC hD hc0 hc1 hp).mono ?_
  rintro e w' ⟨rfl, G', hl, hm, ho⟩
  exact ⟨rfl, Trio.step h2 h3 a1 a2 a3 o1 o2 o3 hb hl hm ho⟩

theorem Trio.congr {w0 w : World} {b1 b2 b3 : Nat} {c1 c2 c3 c1' : Int} {C1 C2 C3 C1' : Nat → Int} (h : Trio w0 w b1 b2 b3 c1 c2 c3 C1 C2 C3) (hc : c1 = c1') (he : ∀ j, j < 3712 → C1 j = C1' j) : Trio w0 w b1 b2 b3 c1' c2 c3 C1' C2 C3 := by
  obtain ⟨⟨G1, G2, G3, h1, h2, h3, a1, a2, a3, o1, o2, o3⟩, hb⟩ := h
  exact ⟨⟨G1, G2, G3, h1.congr hc he, h2, h3, a1, a2, a3, o1, o2, o3⟩, hb⟩

theorem trioRank {w0 w : World} {b1 b2 b3 : Nat} {c1 c2 c3 : Int} {C1 C2 C3 : Nat → Int} (h : Trio w0 w b1 b2 b3 c1 c2 c3 C1 C2 C3) (r : Int) (hC : ∀ j, 0 ≤ C1 j ∧ C1 j ≤ 1000000) (hr0 : 1 ≤ r) (hr1 : r ≤ 1000000) (hr : r ≤ pre C1 3712) (hp : pre C1 3712 ≤ 1000000) :
    Calls Try.prog 12 #[.pointer (some ⟨b1, 0, none⟩), .int .i64 r] w fun e w' => (∃ B, Falls C1 r B ∧ e = .returned (.int .i64 (midOf B))) ∧ ∃ q, w' = w.drewN q := by
  obtain ⟨⟨G1, G2, G3, h1, _⟩, _⟩ := h
  exact zzAtRank b1 c1 G1 C1 r w h1 hC hr0 hr1 hr hp

theorem own_none (b j : Nat) : Own b (fun _ => none) j ↔ j = b := by
  refine ⟨fun h => ?_, fun e => .inl e⟩
  rcases h with e | ⟨g, _, e⟩
  · exact e
  · cases e

/-- Three new ones. -/
theorem Trio.new {w0 w1 w2 w3 : World} (h1 : Lat w1 w0.heap.size 0 (fun _ => none) (fun _ => 0)) (b1 : Below w0.heap.size w0 w1) (h2 : Lat w2 w1.heap.size 0 (fun _ => none) (fun _ => 0)) (b2 : Below w1.heap.size w1 w2) (h3 : Lat w3 w2.heap.size 0 (fun _ => none) (fun _ => 0)) (b3 : Below w2.heap.size w2 w3) :
    Trio w0 w3 w0.heap.size w1.heap.size w2.heap.size 0 0 0 (fun _ => 0) (fun _ => 0) (fun _ => 0) := by
  have l1 := h1.lt
  have l2 := h2.lt
  refine ⟨⟨fun _ => none, fun _ => none, fun _ => none, (h1.below b2).below b3, h2.below b3, h3, fun j e e' => ?_, fun j e e' => ?_, fun j e e' => ?_, fun j e => ?_, fun j e => ?_, fun j e => ?_⟩, (b1.trans (b2.mono (by omega))).trans (b3.mono (by omega))⟩
  all_goals
    rw [own_none] at e
    try rw [own_none] at e'
    omega

/-! ### bins of the two together -/
theorem join_left (A B : Nat → Int) (n : Nat) : binsTo (join n A B) n = binsTo A n := by
  funext b
  show ((cnt _ _ n : Nat) : Int) = ((cnt _ _ n : Nat) : Int)
  rw [join_nil]
theorem join_at (A B : Nat → Int) (n i : Nat) : join n A B (n + i) = B i := by
  show (if n + i < n then _ else _) = _
  rw [if_neg (by omega), show n + i - n = i by omega]
theorem join_bins (A B : Nat → Int) (n m : Nat) (j : Nat) (hj : j < 3712) : mix (binsTo A n) (binsTo B m) 3712 j = binsTo (join n A B) (n + m) j := by
  show (if j < 3712 then _ else _) = _
  rw [if_pos hj]
  show ((cnt _ A n : Nat) : Int) + ((cnt _ B m : Nat) : Int) = ((cnt _ (join n A B) (n + m) : Nat) : Int)
  rw [cnt_add, join_nil, cnt_congr (A := fun i => join n A B (n + i)) (B := B) _ (fun i _ => join_at A B n i)]
  omega
theorem join_range {A B : Nat → Int} {n m : Nat} (hA : ∀ j, j < n → 0 ≤ A j ∧ A j ≤ 9223372036854775807) (hB : ∀ j, j < m → 0 ≤ B j ∧ B j ≤ 9223372036854775807) : ∀ j, j < n + m → 0 ≤ join n A B j ∧ join n A B j ≤ 9223372036854775807 := fun j hj => by
  by_cases e : j < n
  · have : join n A B j = A j := if_pos e
    rw [this]
    exact hA j e
  · have : join n A B j = B (j - n) := if_neg e
    rw [this]
    exact hB _ (by omega)

end Go.Proofs.Qxb6608868a
