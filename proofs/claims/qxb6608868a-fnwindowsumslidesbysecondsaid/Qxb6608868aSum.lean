/-
  Seat b6608868a: sum (31), ZZsum (20).
-/
import Derived.Test.Qxb6608868aWin
namespace Go.Proofs.Qxb6608868a
open Go.RowKit

theorem results_cell_mid {P : Program} {fn : Func} {p : Tmp} {ty : TypeId} (h : fn.results = #[.cell p ty]) (tmps : Array Value) (w : World) (g : Nat) (vs : List Value) (d : TypeDesc)
    (hp : tmps.getD p undef = .pointer (some ⟨g, 0, none⟩)) (hc : ∀ j v, vs[j]? = some v → w.cell? ⟨g, 0 + j, none⟩ = some v)
    (hu : P.underlying ty = some d) (hd : (match d with | .struct _ | .array _ _ => true | _ => false) = true) (hi : (P.info? ty).map (·.size) = some vs.length) :
    (results fn tmps).run P w = .ok (.agg vs.toArray) w := by
  have hl := run_loadVar_mid (P := P) w g 0 ty vs d hc hu hd hi
  have hp' : tmps[p]?.getD undef = .pointer (some ⟨g, 0, none⟩) := by simpa using hp
  simp [results, h, hp', asAddr, hl]

theorem block_in {w : World} {b off : Nat} {v : Value} (h : w.cell? ⟨b, off, none⟩ = some v) : b < w.heap.size := by
  by_cases hlt : b < w.heap.size
  · exact hlt
  · have e : w.heap[b]? = none := Array.getElem?_eq_none (by omega)
    simp [World.cell?, e] at h

set_option maxHeartbeats 2000000 in
set_option maxRecDepth 100000 in
theorem sum (b : Nat) (o now : Int) (S R E : Nat → Int) (w : World) (h : Win w b o S R E) (ho : 0 ≤ o) (hn : o ≤ now) (hn1 : now ≤ 9223372036854775807)
    (hS : ∀ j, j < 10 → -9223372036854775808 ≤ S j ∧ S j ≤ 9223372036854775807) (hR : ∀ j, j < 10 → 0 ≤ R j ∧ R j ≤ 1099511627776) (hE : ∀ j, j < 10 → 0 ≤ E j ∧ E j ≤ 1099511627776) :
    Calls Try.prog 31 #[.pointer (some ⟨b, 0, none⟩), .int .i64 now] w fun e w' => e = .returned (.agg (tvals (sumIn (inWin ((now - o) / 1000000000)) S R 10) (sumIn (inWin ((now - o) / 1000000000)) S E 10)).toArray) ∧ Below w.heap.size w w' := by
  have hbl := h.lt
  have horg : (w.alloc (.cells tz 63)).cell? ⟨b, 0, none⟩ = some (.int .i64 o) := (World.grownBy_alloc w _ none).cell h.org (by simp)
  have HWIN := hid h
  have HS := hid hS
  have HR := hid hR
  have HE := hid hE
  clear h hS hR hE
  go_enter Try.func31, Try.ntmps31
  rw [tz_lit] at horg
  go_wp2_with fail
  refine (slotAt o now ho hn hn1 _).mono ?_
  rintro e w1 ⟨rfl, hw1⟩
  subst hw1
  obtain ⟨s, hs⟩ : ∃ s, (now - o) / 1000000000 = s := ⟨_, rfl⟩
  rw [hs]
  have hs0 : 0 ≤ s := by omega
  have hs1 : s ≤ 9223372036 := by omega
  have HSS := hid hs
  clear hs horg
  go_wp2_with fail
  rw [← tz_lit]
  go_loopw [15] (fun i wr => ∃ k : Nat, k ≤ 10 ∧ i = .int .i64 k ∧ Part w wr w.heap.size (w.heap.size + 1) (sumIn (inWin s) S R k) (sumIn (inWin s) S E k)) (fun i _ => 10 - (intOf i).toNat)
  case atStart => exact ⟨0, by omega, rfl, Part.start w⟩
  case round =>
    obtain ⟨k, hk, rfl, hpart⟩ := hrel
    have HP := hid hpart
    clear hpart
    by_cases hlt : k < 10
    · have HW := hid (HWIN.out.below HP.out.bel hbl)
      have hsl := (HW.out.slot k hlt).1
      have hsb := HS.out k hlt
      have hkd : decide ((k : Int) < 10) = true := decide_eq_true (by omega)
      have ik : (k : Int) < 10 := by omega
      have ik0 : 0 ≤ (k : Int) := by omega
      by_cases h1 : s - 10 < S k
      · have d1 : decide (s - 10 < S k) = true := decide_eq_true h1
        by_cases h2 : S k ≤ s
        · have d2 : decide (S k ≤ s) = true := decide_eq_true h2
          have HIN := hid (inWin_true ⟨h1, h2⟩)
          obtain ⟨y, hy⟩ : ∃ y, S k = y := ⟨_, rfl⟩
          rw [hy] at hsl hsb h1 h2 d1 d2
          rw [hy] at HIN
          have HY := hid hy
          clear hy
          go_wp2_with fail
          have r1 := sumIn_bound (inWin s) S HR.out k hk
          have e1 := sumIn_bound (inWin s) S HE.out k hk
          have r2 := HR.out k hlt
          have e2 := HE.out k hlt
          refine (mergeT (w.heap.size + 1) b (1 + k * 63 + 1) _ _ (R k) (E k) _ (by omega) HP.out.c0 HP.out.f0 HP.out.c1 HP.out.f1 (HW.out.req k hlt).1 (HW.out.err k hlt).1 (HW.out.sts k hlt) (fun g hg => HW.out.grp k g hlt hg) (by omega) (by omega) (by omega) (by omega) (by omega) (by omega) (by omega) (by omega)).mono ?_
          rintro e w2 ⟨rfl, q, rfl⟩
          have HS' : Hid (Part w ((((wr.setCell ⟨w.heap.size + 1, 0, none⟩ (.int .i64 (sumIn (inWin s) S R k + R k))).setCell ⟨w.heap.size + 1, 1, none⟩ (.int .i64 (sumIn (inWin s) S E k + E k)))).drewN q) w.heap.size (w.heap.size + 1) (sumIn (inWin s) S R (k + 1)) (sumIn (inWin s) S E (k + 1))) := by
            have e3 : sumIn (inWin s) S R (k + 1) = sumIn (inWin s) S R k + R k := by
              show _ + (if inWin s (S k) = true then _ else _) = _
              rw [HY.out, if_pos HIN.out]
            have e4 : sumIn (inWin s) S E (k + 1) = sumIn (inWin s) S E k + E k := by
              show _ + (if inWin s (S k) = true then _ else _) = _
              rw [HY.out, if_pos HIN.out]
            show Part _ _ _ _ _ _
            rw [e3, e4]
            exact (HP.out.step (by omega) (by omega) _ _).drewN q
          clear r1 e1 r2 e2
          go_wp2_with fail
          go_roundw
          case rel => exact ⟨k + 1, by omega, by go_num, HS'.out⟩
          case measure => simp [intOf]; omega
        · have d2 : decide (S k ≤ s) = false := decide_eq_false h2
          have HIN := hid (inWin_false (s := s) (k := S k) (by omega))
          have HS' : Hid (Part w wr w.heap.size (w.heap.size + 1) (sumIn (inWin s) S R (k + 1)) (sumIn (inWin s) S E (k + 1))) := by
            have e3 : sumIn (inWin s) S R (k + 1) = sumIn (inWin s) S R k := by
              show _ + (if inWin s (S k) = true then _ else _) = _
              rw [HIN.out]
              exact Int.add_zero _
            have e4 : sumIn (inWin s) S E (k + 1) = sumIn (inWin s) S E k := by
              show _ + (if inWin s (S k) = true then _ else _) = _
              rw [HIN.out]
              exact Int.add_zero _
            show Part _ _ _ _ _ _
            rw [e3, e4]
            exact HP.out
          clear HIN
          generalize S k = y at hsl hsb h1 h2 d1 d2
          go_wp2_with fail
          go_roundw
          case rel => exact ⟨k + 1, by omega, by go_num, HS'.out⟩
          case measure => simp [intOf]; omega
      · have d1 : decide (s - 10 < S k) = false := decide_eq_false h1
        have HIN := hid (inWin_false (s := s) (k := S k) (by omega))
        have HS' : Hid (Part w wr w.heap.size (w.heap.size + 1) (sumIn (inWin s) S R (k + 1)) (sumIn (inWin s) S E (k + 1))) := by
          have e3 : sumIn (inWin s) S R (k + 1) = sumIn (inWin s) S R k := by
            show _ + (if inWin s (S k) = true then _ else _) = _
            rw [HIN.out]
            exact Int.add_zero _
          have e4 : sumIn (inWin s) S E (k + 1) = sumIn (inWin s) S E k := by
            show _ + (if inWin s (S k) = true then _ else _) = _
            rw [HIN.out]
            exact Int.add_zero _
          show Part _ _ _ _ _ _
          rw [e3, e4]
          exact HP.out
        clear HIN
        generalize S k = y at hsl hsb h1 d1
        go_wp2_with fail
        go_roundw
        case rel => exact ⟨k + 1, by omega, by go_num, HS'.out⟩
        case measure => simp [intOf]; omega
    · have hk10 : k = 10 := by omega
      have HP10 : Hid (Part w wr w.heap.size (w.heap.size + 1) (sumIn (inWin s) S R 10) (sumIn (inWin s) S E 10)) := by have := HP.out; rw [hk10] at this; exact this
      clear HP hk10
      obtain ⟨r, hr⟩ : ∃ r, sumIn (inWin s) S R 10 = r := ⟨_, rfl⟩
      obtain ⟨e, he⟩ : ∃ e, sumIn (inWin s) S E 10 = e := ⟨_, rfl⟩
      rw [hr, he] at HP10
      have HRE := hid (And.intro hr he)
      clear hr he
      have hcells := HP10.out.cells
      have hthere : wr.there w.heap.size 0 (tvals r e).toArray.size := by simpa [tvals_len] using HP10.out.res
      have hlen : (Try.prog.info? 63).map (·.size) = some (tvals r e).length := by rw [tvals_len]; exact size63
      have hone := tvals_one r e
      go_wp2_with (first | (refine wpList_load_mid rfl 63 _ rfl (w.heap.size + 1) 0 rfl (tvals r e) _ hcells Try.underlying63 rfl hlen ?_) | (refine wpList_store_mid rfl 63 _ _ rfl w.heap.size 0 (tvals r e).toArray rfl rfl hthere hlen hone ?_))
      have hc' : ∀ j v, (tvals r e)[j]? = some v → (wr.setCells w.heap.size 0 (tvals r e)).cell? ⟨w.heap.size, 0 + j, none⟩ = some v := World.rangeAt_setCells_same wr w.heap.size 0 (tvals r e) hthere
      refine bodyPost_ret (v := .agg (tvals r e).toArray) (results_cell_mid rfl _ _ w.heap.size (tvals r e) _ rfl hc' Try.underlying63 rfl hlen) rfl ⟨?_, Below.setCells (Nat.le_refl _) _ _ _ HP10.out.bel⟩
      rw [HSS.out, HRE.out.1, HRE.out.2]

set_option maxHeartbeats 2000000 in
set_option maxRecDepth 100000 in
theorem zzSum (b : Nat) (o now s : Int) (S R E : Nat → Int) (w : World) (h : Win w b o S R E) (ho : 0 ≤ o) (hn : o ≤ now) (hn1 : now ≤ 9223372036854775807) (hs : (now - o) / 1000000000 = s)
    (hS : ∀ j, j < 10 → -9223372036854775808 ≤ S j ∧ S j ≤ 9223372036854775807) (hR : ∀ j, j < 10 → 0 ≤ R j ∧ R j ≤ 1099511627776) (hE : ∀ j, j < 10 → 0 ≤ E j ∧ E j ≤ 1099511627776) :
    Calls Try.prog 20 #[.pointer (some ⟨b, 0, none⟩), .int .i64 now] w fun e w' => ∃ t, e = .returned (.pointer (some ⟨t, 0, none⟩)) ∧ w.heap.size ≤ t ∧ t < w'.heap.size ∧ w'.cell? ⟨t, 0, none⟩ = some (.int .i64 (sumIn (inWin s) S R 10)) ∧ w'.cell? ⟨t, 1, none⟩ = some (.int .i64 (sumIn (inWin s) S E 10)) ∧ Below w.heap.size w w' := by
  have HSUM := hid (sum b o now S R E w h ho hn hn1 hS hR hE)
  subst hs
  clear h hS hR hE
  generalize sumIn (inWin ((now - o) / 1000000000)) S R 10 = r at *
  generalize sumIn (inWin ((now - o) / 1000000000)) S E 10 = e at *
  go_enter Try.func20, Try.ntmps20
  go_wp2_with fail
  refine HSUM.out.mono ?_
  rintro x w1 ⟨rfl, hb1⟩
  have HB1 := hid hb1
  clear hb1
  have hlen : (Try.prog.info? 63).map (·.size) = some (tvals r e).length := by rw [tvals_len]; exact size63
  have hone := tvals_one r e
  have hthere : (w1.alloc (.cells tz 63)).there w1.heap.size 0 (tvals r e).toArray.size := fun j hj => (by
    have hj' : j < 62 := by simpa [tvals_len] using hj
    rw [Nat.zero_add]
    refine ⟨?_, World.frozen?_alloc_new _ _ _ _⟩
    rw [World.cell?_alloc_new]
    have : j < (tvals 0 0).length := by rw [tvals_len]; exact hj'
    simp [tz, this])
  have hthere' := hthere
  rw [tz_lit] at hthere'
  go_wp2_with (refine wpList_store_mid rfl 63 _ _ rfl w1.heap.size 0 (tvals r e).toArray rfl rfl hthere' hlen hone ?_)
  rw [← tz_lit]
  go_ret
  have hc' : ∀ j v, (tvals r e)[j]? = some v → ((w1.alloc (.cells tz 63)).setCells w1.heap.size 0 (tvals r e)).cell? ⟨w1.heap.size, 0 + j, none⟩ = some v := World.rangeAt_setCells_same _ w1.heap.size 0 (tvals r e) hthere
  have hbel := Below.setCells (HB1.out.size) (tvals r e) 0 _ (HB1.out.alloc HB1.out.size (.cells tz 63))
  exact ⟨w1.heap.size, rfl, HB1.out.size, block_in (hc' 0 _ rfl), hc' 0 _ rfl, hc' 1 _ rfl, hbel⟩

end Go.Proofs.Qxb6608868a
