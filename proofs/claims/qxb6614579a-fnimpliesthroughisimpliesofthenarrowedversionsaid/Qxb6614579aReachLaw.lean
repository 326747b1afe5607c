/-
  Seat b6614579a: FnImpliesIsReachabilityInTheLineage (3): the walk.
-/
import Derived.Test.Qxb6614579aBytesI
import Derived.Test.Qxb6614579aModelWalk
namespace Go.Proofs.Qxb6614579a
open Go.RowKit Go.Maps

theorem goal_plain (ks : List ByteArray) (vs : List Int) (th : List ByteArray) : goalOf ks vs th false = fun t => decide (0 < (lkTo ks vs (min ks.length vs.length) t).getD 0) := by
  funext t
  unfold goalOf
  simp

theorem edTo_mem {fs ts : List ByteArray} {zs : List Int} {k : Nat} (hk : k ≤ ts.length) {u v : ByteArray} {x : Int} (h : edTo fs ts zs k u v = some x) : v ∈ ts := by
  obtain ⟨i, hi, _, rfl⟩ := edTo_some h
  unfold nth
  rw [List.getD, List.getElem?_eq_getElem (by omega)]
  exact List.getElem_mem _

theorem tells_same {a b : Bool} {P : Prop} (ha : a = true ↔ P) (hb : b = true ↔ P) : a = b := by
  cases a <;> cases b
  · rfl
  · exact absurd (ha.2 (hb.1 rfl)) (by simp)
  · exact absurd (hb.2 (ha.1 rfl)) (by simp)
  · rfl

theorem Lin.below' {w w' : World} {L B n : Nat} {g : ByteArray → Option Nat} {E : ByteArray → ByteArray → Option Int} (h : Lin w L B n g E) (hb : Below w.heap.size w w') : Lin w' L B n g E :=
  h.grown (row := none) ⟨hb.os, hb.tape, hb.output, hb.size, fun k hk _ => hb.block k hk⟩ (fun j hj => by cases hj)

theorem bel_alloc' {a w : World} (h : Below a.heap.size a w) (o : Obj) : Below a.heap.size a (w.alloc o) := h.alloc h.size o

theorem strs_nil (B : Nat) (w : World) : Strs B w none [] := ⟨fun _ h => (by cases h), Nat.zero_le _, fun h => (by cases h)⟩

set_option maxHeartbeats 1000000 in
theorem reachLaw (a0 a1 a2 a3 a4 : Option Addr) (fs ts : List ByteArray) (zs : List Int) (ks : List ByteArray) (vs : List Int) (cap0 cap1 cap2 cap3 cap4 : Nat) (nd : ByteArray) (sq : Int) (w : World)
    (h0 : Strs w.heap.size w a0 fs) (h1 : Strs w.heap.size w a1 ts) (h2 : Words w.heap.size w a2 zs) (h3 : Strs w.heap.size w a3 ks) (h4 : Words w.heap.size w a4 vs) (hnd : nd.size ≤ maxLen) :
    Calls Try.prog 3 #[.slice a0 fs.length cap0, .slice a1 ts.length cap1, .slice a2 zs.length cap2, .slice a3 ks.length cap3, .slice a4 vs.length cap4, .string nd, .int .u64 sq] w fun e w' => e = .returned (.bool true) ∧ Below w.heap.size w w' := by
  have H0 := hid h0
  have H1 := hid h1
  have H2 := hid h2
  have H3 := hid h3
  have H4 := hid h4
  have HN := hid hnd
  clear h0 h1 h2 h3 h4 hnd
  by_cases hbig : 4096 < (fs.length : Int) ∨ 4096 < (ts.length : Int) ∨ 4096 < (zs.length : Int) ∨ 4096 < (ks.length : Int) ∨ 4096 < (vs.length : Int)
  · go_enter Try.func3, Try.ntmps3
    go_wp2_with fail
    refine (bytes9 a0 a1 a2 a3 a4 fs ts zs ks vs cap0 cap1 cap2 cap3 cap4 nd sq _ _ H0.out H1.out H2.out H3.out H4.out HN.out).mono ?_
    rintro e w1 ⟨⟨b, rfl⟩, rfl⟩
    cases b
    · go_wp2
      go_ret
      exact ⟨rfl, Below.refl _ _⟩
    · by_cases l0 : 4096 < (fs.length : Int)
      · clear hbig
        go_wp2
        go_ret
        exact ⟨rfl, Below.refl _ _⟩
      by_cases l1 : 4096 < (ts.length : Int)
      · clear hbig
        go_wp2
        go_ret
        exact ⟨rfl, Below.refl _ _⟩
      by_cases l2 : 4096 < (zs.length : Int)
      · clear hbig
        go_wp2
        go_ret
        exact ⟨rfl, Below.refl _ _⟩
      by_cases l3 : 4096 < (ks.length : Int)
      · clear hbig
        go_wp2
        go_ret
        exact ⟨rfl, Below.refl _ _⟩
      have l4 : 4096 < (vs.length : Int) := by omega
      clear hbig
      go_wp2
      go_ret
      exact ⟨rfl, Below.refl _ _⟩
  have l0 : (fs.length : Int) ≤ 4096 := by omega
  have l1 : (ts.length : Int) ≤ 4096 := by omega
  have l2 : (zs.length : Int) ≤ 4096 := by omega
  have l3 : (ks.length : Int) ≤ 4096 := by omega
  have l4 : (vs.length : Int) ≤ 4096 := by omega
  clear hbig
  go_enter Try.func3, Try.ntmps3
  go_wp2_with fail
  refine (bytes9 a0 a1 a2 a3 a4 fs ts zs ks vs cap0 cap1 cap2 cap3 cap4 nd sq _ _ H0.out H1.out H2.out H3.out H4.out HN.out).mono ?_
  rintro e w1 ⟨⟨b, rfl⟩, rfl⟩
  cases b
  · go_wp2
    go_ret
    exact ⟨rfl, Below.refl _ _⟩
  go_wp2_with fail
  refine (impliesBytes a0 a1 a2 a3 a4 fs ts zs ks vs cap0 cap1 cap2 cap3 cap4 nd _ _ H0.out H1.out H2.out H3.out H4.out HN.out).mono ?_
  rintro e w1 ⟨⟨r, _, _, rfl⟩, rfl⟩
  by_cases hr : 1048576 < r
  · go_wp2
    go_ret
    exact ⟨rfl, Below.refl _ _⟩
  go_wp2_with fail
  refine (lineage a0 a1 a2 fs ts zs cap0 cap1 cap2 _ w1.heap.size (Nat.le_refl _) H0.out H1.out H2.out (by omega)).mono ?_
  rintro e w2 ⟨rfl, ⟨g, hlin⟩, hb2⟩
  have HL := hid hlin
  have HB2 := hid hb2
  clear hlin hb2
  go_wp2_with fail
  refine (version a3 a4 ks vs cap3 cap4 _ w1.heap.size HB2.out.size (H3.out.below HB2.out) (H4.out.below HB2.out)).mono ?_
  rintro e w3 ⟨rfl, hv3, hb3⟩
  have HL3 := hid (HL.out.below' hb3)
  have HV3 := hid hv3
  have HB3 := hid (HB2.out.trans (hb3.mono HB2.out.size))
  have hz3 : w2.heap.size ≤ w3.heap.size := hb3.size
  clear hv3 hb3 HL HB2
  go_wp2_with fail
  refine (zzImplies w1.heap.size w2.heap.size w2.heap.size 8192 g _ (lkTo ks vs (min ks.length vs.length)) ts (by omega) (fun u v x h => edTo_mem (by omega) h) nd sq _ HN.out (HL3.out.alloc _) (by simp; omega) ((HV3.out.alloc _).mono (by omega))).mono ?_
  rintro e w4 ⟨⟨b4, rfl, ht4⟩, hb4⟩
  have HT4 := hid ht4
  have HB4 := hid ((bel_alloc' HB3.out (Obj.cells #[Value.string nd, Value.int IntKind.u64 sq] 34)).trans (hb4.mono (by have := HB3.out.size; simp; omega)))
  have d0 : w4.cell? ⟨w3.heap.size, 0, none⟩ = some (.string nd) := (hb4.cell (p := ⟨w3.heap.size, 0, none⟩) (by simp)).trans (by simp)
  have d1 : w4.cell? ⟨w3.heap.size, 0 + 1, none⟩ = some (.int .u64 sq) := (hb4.cell (p := ⟨w3.heap.size, 0 + 1, none⟩) (by simp)).trans (by simp)
  clear ht4 hb4 HL3 HV3 HB3
  go_wp2_with fail
  refine (reachModel a0 a1 a2 a3 a4 none fs ts zs ks vs [] cap0 cap1 cap2 cap3 cap4 0 false nd sq _ w1.heap.size HB4.out.size (H0.out.below HB4.out) (H1.out.below HB4.out) (H2.out.below HB4.out) (H3.out.below HB4.out) (H4.out.below HB4.out) (strs_nil _ _) (by omega)).mono ?_
  rintro e w5 ⟨⟨b5, rfl, ht5⟩, hb5⟩
  rw [goal_plain] at ht5
  obtain rfl : b4 = b5 := tells_same HT4.out ht5
  have HB5 := hid (HB4.out.trans (hb5.mono HB4.out.size))
  clear ht5 hb5 HT4 d0 d1
  go_wp2
  go_ret
  exact ⟨ret_bool (by simp), HB5.out⟩

end Go.Proofs.Qxb6614579a
