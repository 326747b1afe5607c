/-
  Seat b6608868a: FnWindowSumSlidesBySecond (6): the walk.
-/
import Derived.Test.Qxb6608868aWindow
import Derived.Deep.RegionWith
import Derived.Deep.CutRange
namespace Go.Proofs.Qxb6608868a
open Go.RowKit

/-! ### the plain law -/
theorem slides (s : Int) (S V : Nat → Int) : ∀ k, sumIn (inWin (s + 1)) S V k = sumIn (inWin s) S V k + sumIn (isSlot (s + 1)) S V k - sumIn (isSlot (s - 9)) S V k
  | 0 => rfl
  | k + 1 => by
    have ih := slides s S V k
    show sumIn (inWin (s + 1)) S V k + (if inWin (s + 1) (S k) = true then V k else 0) = sumIn (inWin s) S V k + (if inWin s (S k) = true then V k else 0) + (sumIn (isSlot (s + 1)) S V k + (if isSlot (s + 1) (S k) = true then V k else 0)) - (sumIn (isSlot (s - 9)) S V k + (if isSlot (s - 9) (S k) = true then V k else 0))
    by_cases h1 : S k = s + 1
    · rw [inWin_true (s := s + 1) (by omega), inWin_false (s := s) (by omega), isSlot_true h1, isSlot_false (s := s - 9) (by omega)]
      simp
      omega
    · by_cases h2 : S k = s - 9
      · rw [inWin_false (s := s + 1) (by omega), inWin_true (s := s) (by omega), isSlot_false h1, isSlot_true h2]
        simp
        omega
      · rw [isSlot_false h1, isSlot_false h2]
        by_cases h3 : s - 10 < S k ∧ S k ≤ s
        · rw [inWin_true h3, inWin_true (s := s + 1) (by omega)]
          simp
          omega
        · rw [inWin_false h3, inWin_false (s := s + 1) (by omega)]
          simp
          omega

def pfx (V : Nat → Int) (k : Nat) : Nat → Int := fun j => if j < k then V j else 0
theorem pfx_zero (V : Nat → Int) : pfx V 0 = fun _ => 0 := by
  funext j
  exact if_neg (by omega)
theorem pfx_step (V : Nat → Int) (k : Nat) : upd (pfx V k) k (V k) = pfx V (k + 1) := by
  funext j
  by_cases e : j = k
  · subst e
    rw [upd_same]
    exact (if_pos (by omega)).symm
  · rw [upd_other _ _ e]
    unfold pfx
    by_cases h : j < k
    · rw [if_pos h, if_pos (by omega)]
    · rw [if_neg h, if_neg (by omega)]
theorem pfx_at (V : Nat → Int) {k j : Nat} (h : j < k) : pfx V k j = V j := if_pos h

theorem Win.congr {w : World} {b : Nat} {o : Int} {S R E S' R' E' : Nat → Int} (h : Win w b o S R E) (hs : ∀ j, j < 10 → S j = S' j) (hr : ∀ j, j < 10 → R j = R' j) (he : ∀ j, j < 10 → E j = E' j) : Win w b o S' R' E' :=
  ⟨h.lt, h.org, fun i hi => ⟨by rw [← hs i hi]; exact (h.slot i hi).1, (h.slot i hi).2⟩, fun i hi => ⟨by rw [← hr i hi]; exact (h.req i hi).1, (h.req i hi).2⟩, fun i hi => ⟨by rw [← he i hi]; exact (h.err i hi).1, (h.err i hi).2⟩, h.sts, h.grp⟩

/-- The three arrays in variables of the call's own. -/
structure Boxes (w : World) (b : Nat) (S R E : Nat → Int) : Prop where
  lt : b + 3 ≤ w.heap.size
  s : ∀ j, j < 10 → w.cell? ⟨b, j, none⟩ = some (.int .i64 (S j))
  r : ∀ j, j < 10 → w.cell? ⟨b + 1, j, none⟩ = some (.int .i64 (R j))
  e : ∀ j, j < 10 → w.cell? ⟨b + 1 + 1, j, none⟩ = some (.int .i64 (E j))
theorem Boxes.below {w w' : World} {b : Nat} {S R E : Nat → Int} (h : Boxes w b S R E) {n : Nat} (hn : b + 3 ≤ n) (hb : Below n w w') : Boxes w' b S R E :=
  ⟨Nat.le_trans h.lt hb.size, fun j hj => (hb.cell (p := ⟨b, j, none⟩) (by show b < n; omega)).trans (h.s j hj), fun j hj => (hb.cell (p := ⟨b + 1, j, none⟩) (by show b + 1 < n; omega)).trans (h.r j hj), fun j hj => (hb.cell (p := ⟨b + 1 + 1, j, none⟩) (by show b + 1 + 1 < n; omega)).trans (h.e j hj)⟩
theorem Boxes.mk3 (w : World) (S R E : Nat → Int) : Boxes (((w.alloc (.cells (arr10 S) 33)).alloc (.cells (arr10 R) 33)).alloc (.cells (arr10 E) 33)) w.heap.size S R E := by
  have e1 : (w.alloc (.cells (arr10 S) 33)).heap.size = w.heap.size + 1 := by simp
  have e2 : ((w.alloc (.cells (arr10 S) 33)).alloc (.cells (arr10 R) 33)).heap.size = w.heap.size + 1 + 1 := by simp
  have g : ∀ (w : World) (o : Obj) (a : Addr) v, w.cell? a = some v → (w.alloc o).cell? a = some v := fun w o a v hv => (World.grownBy_alloc w o none).cell hv (by simp)
  refine ⟨by simp, fun j hj => ?_, fun j hj => ?_, fun j hj => ?_⟩
  · exact g _ _ _ _ (g _ _ _ _ ((World.cell?_alloc_new _ _ _ _).trans (arr10_at S hj)))
  · refine g _ _ _ _ ?_
    rw [← e1]
    exact (World.cell?_alloc_new _ _ _ _).trans (arr10_at R hj)
  · rw [← e2]
    exact (World.cell?_alloc_new _ _ _ _).trans (arr10_at E hj)

def l10 (V : Nat → Int) : List Value := (List.range 10).map fun j => Value.int .i64 (V j)
theorem l10_cells {w : World} {b : Nat} {V : Nat → Int} (h : ∀ j, j < 10 → w.cell? ⟨b, j, none⟩ = some (.int .i64 (V j))) : ∀ j v, (l10 V)[j]? = some v → w.cell? ⟨b, 0 + j, none⟩ = some v := fun j v hv => by
  have hj : j < 10 := by
    have := (List.getElem?_eq_some_iff.1 hv).1
    simpa [l10] using this
  rw [Nat.zero_add, h j hj, ← hv]
  simp [l10, hj]
theorem size33 : (Try.prog.info? 33).map (·.size) = some 10 := by kernel_rfl

theorem sum_step_true {p : Int → Bool} {S V : Nat → Int} {k : Nat} (h : p (S k) = true) : Value.int .i64 (sumIn p S V k + V k) = Value.int .i64 (sumIn p S V (k + 1)) := by
  show _ = Value.int .i64 (sumIn p S V k + (if p (S k) = true then V k else 0))
  rw [if_pos h]
theorem sum_step_false {p : Int → Bool} {S V : Nat → Int} {k : Nat} (h : p (S k) = false) : Value.int .i64 (sumIn p S V k) = Value.int .i64 (sumIn p S V (k + 1)) := by
  show _ = Value.int .i64 (sumIn p S V k + (if p (S k) = true then V k else 0))
  rw [if_neg (by rw [h]; decide), Int.add_zero]

theorem Win.drew {w : World} {b : Nat} {o : Int} {S R E : Nat → Int} (h : Win w b o S R E) : Win w.drew b o S R E := ⟨h.lt, h.org, h.slot, h.req, h.err, h.sts, h.grp⟩
theorem Boxes.drew {w : World} {b : Nat} {S R E : Nat → Int} (h : Boxes w b S R E) : Boxes w.drew b S R E := ⟨h.lt, h.s, h.r, h.e⟩

set_option maxHeartbeats 4000000 in
set_option maxRecDepth 100000 in
theorem slidesLaw (o now : Int) (S R E : Nat → Int) (w : World) (ho0 : -9223372036854775808 ≤ o) (ho1 : o ≤ 9223372036854775807) (hn0 : -9223372036854775808 ≤ now) (hn1 : now ≤ 9223372036854775807)
    (hS : ∀ j, j < 10 → -9223372036854775808 ≤ S j ∧ S j ≤ 9223372036854775807) (hR : ∀ j, j < 10 → -9223372036854775808 ≤ R j ∧ R j ≤ 9223372036854775807) (hE : ∀ j, j < 10 → -9223372036854775808 ≤ E j ∧ E j ≤ 9223372036854775807) :
    Calls Try.prog 6 #[.int .i64 o, .int .i64 now, .agg (arr10 S), .agg (arr10 R), .agg (arr10 E)] w fun e w' => e = .returned (.bool true) ∧ Below w.heap.size w w' := by
  have HS := hid hS
  have HR := hid hR
  have HE := hid hE
  have HB := hid (Boxes.mk3 w S R E)
  have HW := hid ((((Below.refl w.heap.size w).alloc (Nat.le_refl _) (.cells (arr10 S) 33)).alloc (by simp) (.cells (arr10 R) 33)).alloc (by simp; omega) (.cells (arr10 E) 33))
  clear hS hR hE
  have HLR : Hid (arr10 R = (l10 R).toArray) := rfl
  have HLE : Hid (arr10 E = (l10 E).toArray) := rfl
  generalize ha0 : arr10 S = a0 at *
  generalize ha1 : arr10 R = a1 at *
  generalize ha2 : arr10 E = a2 at *
  have HA1 := hid ha1
  have HA2 := hid ha2
  clear ha0 ha1 ha2
  go_enter Try.func6, Try.ntmps6
  go_upto_region 1 with fail
  obtain ⟨W, hW⟩ : ∃ W, W = ((w.alloc (.cells a0 33)).alloc (.cells a1 33)).alloc (.cells a2 33) := ⟨_, rfl⟩
  rw [← hW] at HB HW
  rw [← hW]
  clear hW
  by_cases h1 : o < 0
  · go_wp2_with fail
    go_ret
    exact ⟨rfl, HW.out⟩
  have d1 : decide (o < 0) = false := decide_eq_false h1
  by_cases h2 : now < o
  · go_wp2_with fail
    go_ret
    exact ⟨rfl, HW.out⟩
  have d2 : decide (now < o) = false := decide_eq_false h2
  by_cases h3 : 9223372035854775807 < now
  · go_wp2_with fail
    go_ret
    exact ⟨rfl, HW.out⟩
  have d3 : decide (9223372035854775807 < now) = false := decide_eq_false h3
  have hl1 := l10_cells HB.out.r
  have hlen : (Try.prog.info? 33).map (·.size) = some (l10 R).length := by simp [l10, size33]
  go_wp2_with (refine wpList_load_mid rfl 33 _ rfl (w.heap.size + 1) 0 rfl (l10 R) _ hl1 Try.underlying33 rfl hlen ?_)
  clear hl1 hlen
  refine (valsOK R HR.out _).mono ?_
  rintro e w1 ⟨hv, hw1⟩
  rcases hv with rfl | ⟨rfl, hvR⟩
  · go_wp2_with fail
    go_ret
    exact ⟨rfl, HW.out.alloc HW.out.size _⟩
  have HVR := hid hvR
  have HB1 := hid (HB.out.below HB.out.lt (hw1 ▸ (Below.refl _ W).alloc (Nat.le_refl _) _))
  have HW1 : Hid (Below w.heap.size w w1) := by show Below _ _ _; rw [hw1]; exact HW.out.alloc HW.out.size _
  clear hvR hw1 HB HW
  have e0 := HB1.out.e 0 (by omega)
  have e1 := HB1.out.e 1 (by omega)
  have e2 := HB1.out.e 2 (by omega)
  have e3 := HB1.out.e 3 (by omega)
  have e4 := HB1.out.e 4 (by omega)
  have e5 := HB1.out.e 5 (by omega)
  have e6 := HB1.out.e 6 (by omega)
  have e7 := HB1.out.e 7 (by omega)
  have e8 := HB1.out.e 8 (by omega)
  have e9 := HB1.out.e 9 (by omega)
  go_wp2_with fail
  clear e0 e1 e2 e3 e4 e5 e6 e7 e8 e9
  refine (valsOK E HE.out _).mono ?_
  rintro e w2 ⟨hv, hw2⟩
  rcases hv with rfl | ⟨rfl, hvE⟩
  · go_wp2_with fail
    go_ret
    exact ⟨rfl, HW1.out.alloc HW1.out.size _⟩
  have HVE := hid hvE
  have HB2 := hid (HB1.out.below HB1.out.lt (hw2 ▸ (Below.refl _ w1).alloc (Nat.le_refl _) _))
  have HW2 : Hid (Below w.heap.size w w2) := by show Below _ _ _; rw [hw2]; exact HW1.out.alloc HW1.out.size _
  clear hvE hw2 HB1 HW1
  obtain ⟨d, hd⟩ : ∃ d, now - o = d := ⟨_, rfl⟩
  have hd0 : 0 ≤ d := by omega
  have hd1 : d ≤ 9223372035854775807 := by omega
  go_wp2_with fail
  obtain ⟨s, hs⟩ : ∃ s, d / 1000000000 = s := ⟨_, rfl⟩
  have HD := hid hd
  have HSS := hid hs
  clear hd hs
  refine (newWindow o _).mono ?_
  rintro e w3 ⟨rfl, hwin, hb3⟩
  have HB3 := hid (HB2.out.below HB2.out.lt hb3)
  have HW3 := hid (HW2.out.trans (hb3.mono HW2.out.size))
  have HWIN := hid hwin
  have hsz := HB2.out.lt
  clear hwin hb3 HB2 HW2
  generalize hbw : w2.heap.size = bw at *
  clear hbw
  go_wp2_with fail
  go_loopw [13] (fun i wr => ∃ k : Nat, k ≤ 10 ∧ i = .int .i64 k ∧ Win wr bw o (pfx S k) (pfx R k) (pfx E k) ∧ Boxes wr w.heap.size S R E ∧ Below w.heap.size w wr) (fun i _ => 10 - (intOf i).toNat)
  case atStart => exact ⟨0, by omega, rfl, by rw [pfx_zero, pfx_zero, pfx_zero]; exact HWIN.out, HB3.out, HW3.out⟩
  case round =>
    clear HWIN HB3 HW3
    obtain ⟨k, hk, rfl, hwin, hbox, hbel⟩ := hrel
    have HWIN := hid hwin
    have HBOX := hid hbox
    have HBEL := hid hbel
    clear hwin hbox hbel
    by_cases hlt : k < 10
    · have cs := HBOX.out.s k hlt
      have cr := HBOX.out.r k hlt
      have ce := HBOX.out.e k hlt
      have ik : (k : Int) < 10 := by omega
      have ik0 : 0 ≤ (k : Int) := by omega
      go_wp2_with fail
      go_region_with ((go_at_call 18; refine (setBucket bw o (pfx S k) (pfx R k) (pfx E k) k hlt (S k) (R k) (E k) _ HWIN.out.drew).mono ?_; rintro e w5 ⟨rfl, hwin5, hb5⟩))
      all_goals
        rw [pfx_step, pfx_step, pfx_step] at hwin5
        have HX := hid (And.intro hwin5 (And.intro (HBOX.out.drew.below hsz (hb5 bw (Nat.le_refl _))) (HBEL.out.drew.trans (hb5 _ (by omega)))))
        clear hwin5 hb5
        go_wp2_with fail
        go_roundw
        case rel => exact ⟨k + 1, by omega, by go_num, HX.out.1, HX.out.2.1, HX.out.2.2⟩
        case measure => simp [intOf]; omega
    · have hk10 : k = 10 := by omega
      have HWIN' : Hid (Win wr bw o S R E) := by
        have := HWIN.out
        rw [hk10] at this
        exact this.congr (fun j hj => pfx_at S hj) (fun j hj => pfx_at R hj) (fun j hj => pfx_at E hj)
      clear hk10 HWIN
      have hkd : decide ((k : Int) < 10) = false := decide_eq_false (by omega)
      have n1 : now + 1000000000 ≤ 9223372036854775807 := by omega
      go_wp2_with fail
      refine (zzSum bw o now s S R E _ HWIN'.out (by omega) (by omega) (by omega) (by rw [HD.out]; exact HSS.out) HS.out HVR.out HVE.out).mono ?_
      rintro e w4 ⟨t1, rfl, ht1, ht1', c1r, c1e, hb4⟩
      obtain ⟨r1, hr1⟩ : ∃ r, sumIn (inWin s) S R 10 = r := ⟨_, rfl⟩
      obtain ⟨e1, he1⟩ : ∃ r, sumIn (inWin s) S E 10 = r := ⟨_, rfl⟩
      obtain ⟨r2, hr2⟩ : ∃ r, sumIn (inWin (s + 1)) S R 10 = r := ⟨_, rfl⟩
      obtain ⟨e2, he2⟩ : ∃ r, sumIn (inWin (s + 1)) S E 10 = r := ⟨_, rfl⟩
      rw [hr1] at c1r
      rw [he1] at c1e
      have HEQ := hid (And.intro hr1 (And.intro he1 (And.intro hr2 he2)))
      have HWIN4 := hid (HWIN'.out.below hb4 HWIN'.out.lt)
      have HBOX4 := hid (HBOX.out.below HBOX.out.lt hb4)
      have HBEL4 := hid (HBEL.out.trans (hb4.mono HBEL.out.size))
      have HC1 := hid (And.intro c1r c1e)
      have HT1 := hid ht1'
      clear ht1 ht1' c1r c1e hb4 HWIN' HBOX HBEL hr1 he1 hr2 he2
      go_wp2_with fail
      refine (zzSum bw o (now + 1000000000) (s + 1) S R E _ HWIN4.out (by omega) (by omega) (by omega) (by have := HD.out; have := HSS.out; omega) HS.out HVR.out HVE.out).mono ?_
      rintro e w5 ⟨t2, rfl, ht2, ht2', c2r, c2e, hb5⟩
      rw [HEQ.out.2.2.1] at c2r
      rw [HEQ.out.2.2.2] at c2e
      have c1r := (hb5.cell (p := ⟨t1, 0, none⟩) HT1.out).trans HC1.out.1
      have c1e := (hb5.cell (p := ⟨t1, 1, none⟩) HT1.out).trans HC1.out.2
      have HC := hid (And.intro (And.intro c1r c1e) (And.intro c2r c2e))
      have HBOX5 := hid (HBOX4.out.below HBOX4.out.lt hb5)
      have HBEL5 := hid (HBEL4.out.trans (hb5.mono HBEL4.out.size))
      clear c1r c1e c2r c2e ht2 ht2' hb5 HWIN4 HBOX4 HBEL4 HC1 HT1
      go_wp2_with fail
      refine (tallyCounts t1 r1 e1 _ HC.out.1.1 HC.out.1.2).mono ?_
      rintro e w6 ⟨rfl, q6, hw6⟩
      have HC2 : Hid (w6.cell? ⟨t2, 0, none⟩ = some (.int .i64 r2) ∧ w6.cell? ⟨t2, 1, none⟩ = some (.int .i64 e2)) := by show _ ∧ _; rw [hw6]; exact HC.out.2
      have HBOX6 : Hid (Boxes w6 w.heap.size S R E) := by show Boxes _ _ _ _ _; rw [hw6]; exact ⟨HBOX5.out.lt, HBOX5.out.s, HBOX5.out.r, HBOX5.out.e⟩
      have HBEL6 : Hid (Below w.heap.size w w6) := by show Below _ _ _; rw [hw6]; exact ⟨HBEL5.out.os, HBEL5.out.tape, HBEL5.out.output, HBEL5.out.size, HBEL5.out.block⟩
      clear hw6 HC HBOX5 HBEL5
      go_wp2_with fail
      refine (tallyCounts t2 r2 e2 _ HC2.out.1 HC2.out.2).mono ?_
      rintro e w7 ⟨rfl, q7, hw7⟩
      have HBOX7 : Hid (Boxes w7 w.heap.size S R E) := by show Boxes _ _ _ _ _; rw [hw7]; exact ⟨HBOX6.out.lt, HBOX6.out.s, HBOX6.out.r, HBOX6.out.e⟩
      have HBEL7 : Hid (Below w.heap.size w w7) := by show Below _ _ _; rw [hw7]; exact ⟨HBEL6.out.os, HBEL6.out.tape, HBEL6.out.output, HBEL6.out.size, HBEL6.out.block⟩
      clear hw7 HC2 HBOX6 HBEL6
      go_wp2_with fail
      go_loop [20, 21, 22, 23, 24, 25, 26] (fun x1 x2 x3 x4 x5 x6 i => ∃ k : Nat, k ≤ 10 ∧ i = .int .i64 k ∧ x1 = .int .i64 (sumIn (inWin s) S R k) ∧ x2 = .int .i64 (sumIn (inWin s) S E k) ∧ x3 = .int .i64 (sumIn (isSlot (s + 1)) S R k) ∧ x4 = .int .i64 (sumIn (isSlot (s + 1)) S E k) ∧ x5 = .int .i64 (sumIn (isSlot (s - 9)) S R k) ∧ x6 = .int .i64 (sumIn (isSlot (s - 9)) S E k)) (fun _ _ _ _ _ _ i => 10 - (intOf i).toNat)
      case atStart => exact ⟨0, by omega, rfl, rfl, rfl, rfl, rfl, rfl, rfl⟩
      case round =>
        obtain ⟨k2, hk2, rfl, rfl, rfl, rfl, rfl, rfl, rfl⟩ := hrel
        obtain ⟨p1, p1'⟩ := sumIn_bound (inWin s) S HVR.out k2 hk2
        obtain ⟨p2, p2'⟩ := sumIn_bound (inWin s) S HVE.out k2 hk2
        obtain ⟨p3, p3'⟩ := sumIn_bound (isSlot (s + 1)) S HVR.out k2 hk2
        obtain ⟨p4, p4'⟩ := sumIn_bound (isSlot (s + 1)) S HVE.out k2 hk2
        obtain ⟨p5, p5'⟩ := sumIn_bound (isSlot (s - 9)) S HVR.out k2 hk2
        obtain ⟨p6, p6'⟩ := sumIn_bound (isSlot (s - 9)) S HVE.out k2 hk2
        replace p1' : sumIn (inWin s) S R k2 ≤ 10995116277760 := by omega
        replace p2' : sumIn (inWin s) S E k2 ≤ 10995116277760 := by omega
        replace p3' : sumIn (isSlot (s + 1)) S R k2 ≤ 10995116277760 := by omega
        replace p4' : sumIn (isSlot (s + 1)) S E k2 ≤ 10995116277760 := by omega
        replace p5' : sumIn (isSlot (s - 9)) S R k2 ≤ 10995116277760 := by omega
        replace p6' : sumIn (isSlot (s - 9)) S E k2 ≤ 10995116277760 := by omega
        by_cases hlt2 : k2 < 10
        · have cs := HBOX7.out.s k2 hlt2
          have cr := HBOX7.out.r k2 hlt2
          have ce := HBOX7.out.e k2 hlt2
          have ik : (k2 : Int) < 10 := by omega
          have ik0 : 0 ≤ (k2 : Int) := by omega
          obtain ⟨v1, v1'⟩ := HVR.out k2 hlt2
          obtain ⟨v2, v2'⟩ := HVE.out k2 hlt2
          have HSB := hid (HS.out k2 hlt2)
          have q1 : (d + 1000000000) / 1000000000 = s + 1 := by have := HSS.out; omega
          have q2 : (d - 9000000000) / 1000000000 = s - 9 := by have := HSS.out; omega
          have HQ := hid (And.intro q1 q2)
          clear q1 q2
          go_wp2_with fail
          refine (counts (S k2) d HSB.out.1 HSB.out.2 (by omega) (by omega) _).mono ?_
          rintro e w8 ⟨rfl, hw8⟩
          subst hw8
          rw [HSS.out]
          rcases hb1 : inWin s (S k2) with _ | _
          all_goals
            have HB1 := hid hb1
            clear hb1
            go_wp2_with fail
            refine (slotIs (S k2) (d + 1000000000) HSB.out.1 HSB.out.2 (by omega) (by omega) _).mono ?_
            rintro e w8 ⟨rfl, hw8⟩
            subst hw8
            rw [HQ.out.1]
            rcases hb2 : isSlot (s + 1) (S k2) with _ | _
            all_goals
              have HB2 := hid hb2
              clear hb2
              go_wp2_with fail
              refine (slotIs (S k2) (d - 9000000000) HSB.out.1 HSB.out.2 (by omega) (by omega) _).mono ?_
              rintro e w8 ⟨rfl, hw8⟩
              subst hw8
              rw [HQ.out.2]
              rcases hb3 : isSlot (s - 9) (S k2) with _ | _
              all_goals
                have HB3 := hid hb3
                clear hb3
                go_wp2_with fail
                go_round
                case rel => exact ⟨k2 + 1, by omega, by go_num, by first | exact sum_step_true HB1.out | exact sum_step_false HB1.out, by first | exact sum_step_true HB1.out | exact sum_step_false HB1.out, by first | exact sum_step_true HB2.out | exact sum_step_false HB2.out, by first | exact sum_step_true HB2.out | exact sum_step_false HB2.out, by first | exact sum_step_true HB3.out | exact sum_step_false HB3.out, by first | exact sum_step_true HB3.out | exact sum_step_false HB3.out⟩
                case measure => simp [intOf]; omega
        · have hk10 : k2 = 10 := by omega
          subst hk10
          have hR2 := slides s S R 10
          have hE2 := slides s S E 10
          rw [HEQ.out.1, HEQ.out.2.2.1] at hR2
          rw [HEQ.out.2.1, HEQ.out.2.2.2] at hE2
          rw [HEQ.out.1] at p1 p1'
          rw [HEQ.out.2.1] at p2 p2'
          rw [HEQ.out.1, HEQ.out.2.1]
          generalize sumIn (isSlot (s + 1)) S R 10 = inR at *
          generalize sumIn (isSlot (s + 1)) S E 10 = inE at *
          generalize sumIn (isSlot (s - 9)) S R 10 = outR at *
          generalize sumIn (isSlot (s - 9)) S E 10 = outE at *
          have dR : decide (r2 = r1 + inR - outR) = true := decide_eq_true hR2
          have dE : decide (e2 = e1 + inE - outE) = true := decide_eq_true hE2
          clear HEQ
          go_wp2_with fail
          go_ret
          exact ⟨rfl, HBEL7.out⟩

end Go.Proofs.Qxb6608868a
