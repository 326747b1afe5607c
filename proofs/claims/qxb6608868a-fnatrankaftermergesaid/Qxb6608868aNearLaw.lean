/-
  Seat b6608868a: FnAtRankNearRthFastest (3): the walk.
-/
import Derived.Test.Qxb6608868aRank
namespace Go.Proofs.Qxb6608868a
open Go.RowKit

theorem Lat.below {w w' : World} {b : Nat} {c : Int} {G : Nat → Option Nat} {C : Nat → Int} (h : Lat w b c G C) (hb : Below w.heap.size w w') : Lat w' b c G C := by
  refine ⟨Nat.lt_of_lt_of_le h.lt hb.size, ⟨(hb.cell (p := ⟨b, 0, none⟩) h.lt).trans h.cc.1, (hb.frozen (p := ⟨b, 0, none⟩) h.lt).trans h.cc.2⟩, fun g hg => ⟨(hb.cell (p := ⟨b, 1 + g, none⟩) h.lt).trans (h.gp g hg).1, (hb.frozen (p := ⟨b, 1 + g, none⟩) h.lt).trans (h.gp g hg).2⟩, fun g x hg hx => ?_, h.nil, h.inj⟩
  obtain ⟨h1, h2, h3⟩ := h.row g x hg hx
  exact ⟨h1, Nat.lt_of_lt_of_le h2 hb.size, h3.below hb h2⟩

theorem Only.below {w w' : World} {b : Nat} {G : Nat → Option Nat} (h : Only w w' b G) {n : Nat} (hn : n ≤ w.heap.size) (hb : n ≤ b) (hG : ∀ g x, g < 58 → G g = some x → n ≤ x) : Below n w w' :=
  ⟨h.os, h.tape, h.output, h.size, fun j hj => h.block j (by omega) (by omega) (fun g hg e => by have := hG g j hg e; omega)⟩

theorem bins_step (A : Nat → Int) (k : Nat) : upd (binsTo A k) (binI (A k)) (binsTo A k (binI (A k)) + 1) = binsTo A (k + 1) := by
  funext b
  unfold upd
  show _ = ((cnt (fun x => binI x == b) A k + (if (binI (A k) == b) = true then 1 else 0) : Nat) : Int)
  by_cases e : b = binI (A k)
  · rw [if_pos e]
    subst e
    show ((cnt (fun x => binI x == binI (A k)) A k : Nat) : Int) + 1 = _
    simp
  · rw [if_neg e]
    have : (binI (A k) == b) = false := by simpa using fun h => e h.symm
    rw [this]
    show ((cnt (fun x => binI x == b) A k : Nat) : Int) = _
    simp
theorem bins_zero (A : Nat → Int) : binsTo A 0 = fun _ => 0 := rfl
theorem bins_bound (A : Nat → Int) (k b : Nat) : 0 ≤ binsTo A k b ∧ binsTo A k b ≤ k := by
  have := cnt_le (fun x => binI x == b) A k
  show 0 ≤ ((cnt (fun x => binI x == b) A k : Nat) : Int) ∧ ((cnt (fun x => binI x == b) A k : Nat) : Int) ≤ k
  omega
theorem bins_all {A : Nat → Int} {n : Nat} (h : ∀ j, j < n → 0 ≤ A j ∧ A j ≤ 9223372036854775807) : pre (binsTo A n) 3712 = n := by
  rw [pre_bins, cnt_all]
  intro i hi
  apply decide_eq_true
  have := h i hi
  exact binOf_lt (by omega)

/-- One count, in bin B. -/
theorem falls_single (B : Nat) (h : B < 3712) : Falls (upd (fun _ => 0) B (0 + 1)) 1 B ∧ pre (upd (fun _ => 0) B (0 + 1)) 3712 = 1 := by
  have h0 : pre (upd (fun _ => (0 : Int)) B (0 + 1)) B = 0 := by
    have := pre_zero (C := upd (fun _ => (0 : Int)) B (0 + 1)) (a := 0) (k := B) (fun _ hi => by rw [upd_other _ _ (by omega)])
    rw [Nat.zero_add] at this
    exact this
  have h1 : pre (upd (fun _ => (0 : Int)) B (0 + 1)) (B + 1) = 1 := by
    show pre _ B + upd (fun _ => (0 : Int)) B (0 + 1) B = 1
    rw [h0, upd_same]
    rfl
  refine ⟨⟨h, by omega, by omega⟩, ?_⟩
  have := pre_zero (C := upd (fun _ => (0 : Int)) B (0 + 1)) (a := B + 1) (k := 3712 - (B + 1)) (fun _ hi => by rw [upd_other _ _ (by omega)])
  rw [show B + 1 + (3712 - (B + 1)) = 3712 by omega] at this
  rw [this, h1]

theorem one_bound (B j : Nat) : 0 ≤ upd (fun _ => (0 : Int)) B (0 + 1) j ∧ upd (fun _ => (0 : Int)) B (0 + 1) j ≤ 1000000 := by
  by_cases e : j = B
  · rw [e, upd_same]
    exact ⟨by decide, by decide⟩
  · rw [upd_other _ _ e]
    exact ⟨by decide, by decide⟩

theorem join_nil (n : Nat) (A B : Nat → Int) (p : Int → Bool) : cnt p (join n A B) n = cnt p A n := cnt_congr p (fun _ hi => if_pos hi)

/-- An element of the sorted array is one of the elements. -/
theorem sorted_range {S J : Nat → Int} {n : Nat} (hp : ∀ p, cnt p S n = cnt p J n) (h : ∀ j, j < n → 0 ≤ J j ∧ J j ≤ 9223372036854775807) : ∀ j, j < n → 0 ≤ S j ∧ S j ≤ 9223372036854775807 := fun j hj => by
  by_cases hin : 0 ≤ S j ∧ S j ≤ 9223372036854775807
  · exact hin
  · exfalso
    have h1 : cnt (fun x => decide (0 ≤ x ∧ x ≤ 9223372036854775807)) J n = n := cnt_all (fun i hi => decide_eq_true (h i hi))
    rw [← hp] at h1
    have h2 := cnt_add (fun x => decide (0 ≤ x ∧ x ≤ 9223372036854775807)) S (j + 1) (n - (j + 1))
    rw [show j + 1 + (n - (j + 1)) = n by omega] at h2
    have h3 : cnt (fun x => decide (0 ≤ x ∧ x ≤ 9223372036854775807)) S (j + 1) = cnt (fun x => decide (0 ≤ x ∧ x ≤ 9223372036854775807)) S j := by
      show cnt _ S j + (if decide (0 ≤ S j ∧ S j ≤ 9223372036854775807) = true then 1 else 0) = _
      rw [decide_eq_false hin]
      rfl
    have h4 := cnt_le (fun x => decide (0 ≤ x ∧ x ≤ 9223372036854775807)) S j
    have h5 := cnt_le (fun x => decide (0 ≤ x ∧ x ≤ 9223372036854775807)) (fun i => S (j + 1 + i)) (n - (j + 1))
    omega

theorem ints_nil (B : Nat) (w : World) (A : Nat → Int) : Ints B w none 0 A := ⟨Nat.zero_le _, fun _ h => (by omega), fun h => (by omega)⟩

set_option maxHeartbeats 2000000 in
theorem nearLaw (a : Option Addr) (n cap : Nat) (A : Nat → Int) (r : Int) (w : World) (h : Ints w.heap.size w a n A) (hr0 : -9223372036854775808 ≤ r) (hr1 : r ≤ 9223372036854775807) :
    Calls Try.prog 3 #[.slice a n cap, .int .i64 r] w fun e w' => e = .returned (.bool true) ∧ Below w.heap.size w w' := by
  have hn := h.1
  have hA := h.2.1
  have H := hid h
  have HA := hid hA
  clear h hA
  by_cases hbig : 4096 < (n : Int)
  · go_enter Try.func3, Try.ntmps3
    go_wp2_with fail
    refine (bytes7 a n cap r _ hn).mono ?_
    rintro e w1 ⟨rfl, rfl⟩
    by_cases h20 : n ≤ 1048576
    · rw [decide_eq_true h20]
      go_wp2
      go_ret
      exact ⟨rfl, Below.refl _ _⟩
    · rw [decide_eq_false h20]
      go_wp2
      go_ret
      exact ⟨rfl, Below.refl _ _⟩
  have hbd : decide (4096 < (n : Int)) = false := decide_eq_false hbig
  unfold maxLen at hn
  go_enter Try.func3, Try.ntmps3
  go_wp2_with fail
  refine (bytes7 a n cap r _ (by unfold maxLen; omega)).mono ?_
  rintro e w1 ⟨rfl, hw1⟩
  subst hw1
  rw [decide_eq_true (by omega : n ≤ 1048576)]
  go_wp2
  go_loop [5] (fun i => ∃ k : Nat, k ≤ n ∧ i = .int .i64 k ∧ ∀ j, j < k → 0 ≤ A j) (fun i => n - (intOf i).toNat)
  case atStart => exact ⟨0, Nat.zero_le _, rfl, fun j hj => (by omega)⟩
  case round =>
    obtain ⟨k, hk, rfl, hpos⟩ := hrel
    have HP := hid hpos
    clear hpos
    by_cases hlt : k < n
    · obtain ⟨b0, off0, rfl, hb0, hc0'⟩ := H.out.2.2 (by omega)
      have hc0 := hc0' k hlt
      clear hc0'
      by_cases hneg : A k < 0
      · generalize A k = z at hc0 hneg
        go_wp2
        go_ret
        exact ⟨rfl, Below.refl _ _⟩
      · have HN : Hid (0 ≤ A k) := by show _ ≤ _; omega
        generalize hz : A k = z at hc0 hneg
        have HZ := hid hz
        clear hz
        go_wp2
        go_round
        case rel =>
          exact ⟨k + 1, by omega, by go_num, fun j hj => (by
            by_cases e : j = k
            · rw [e]; exact HN.out
            · exact HP.out j (by omega))⟩
        case measure => simp [intOf]; omega
    · have hkn : k = n := by omega
      have HP' : Hid (∀ j, j < n → 0 ≤ A j ∧ A j ≤ 9223372036854775807) := fun j hj => ⟨HP.out j (by omega), (HA.out j hj).2⟩
      clear HP HA hkn
      by_cases hrl : r < 1
      · go_wp2
        go_ret
        exact ⟨rfl, Below.refl _ _⟩
      by_cases hrh : (n : Int) < r
      · go_wp2
        go_ret
        exact ⟨rfl, Below.refl _ _⟩
      have dl : decide (r < 1) = false := decide_eq_false hrl
      have dh : decide ((n : Int) < r) = false := decide_eq_false hrh
      have hkl : ¬ (k : Int) < n := by omega
      have hkd : decide ((k : Int) < n) = false := decide_eq_false hkl
      obtain ⟨rn, rfl⟩ : ∃ rn : Nat, r = rn := ⟨r.toNat, by omega⟩
      go_wp2_with fail
      refine (newLat _).mono ?_
      rintro e w2 ⟨rfl, hlat, hb2⟩
      have HLAT := hid hlat
      have HB2 := hid hb2
      clear hlat hb2
      go_wp2
      go_loopw [7] (fun i wr => ∃ (m : Nat) (G : Nat → Option Nat), m ≤ n ∧ i = .int .i64 m ∧ Lat wr w1.heap.size m G (binsTo A m) ∧ (∀ g x, g < 58 → G g = some x → w1.heap.size ≤ x) ∧ Below w1.heap.size w1 wr) (fun i _ => n - (intOf i).toNat)
      case atStart => exact ⟨0, fun _ => none, Nat.zero_le _, rfl, HLAT.out, fun g x _ h => (by cases h), HB2.out⟩
      case round =>
        clear HLAT HB2
        obtain ⟨m, G, hm, rfl, hlat, hG, hbel⟩ := hrel
        have HLAT := hid hlat
        have HG := hid hG
        have HBEL := hid hbel
        clear hlat hG hbel
        by_cases hlm : m < n
        · obtain ⟨b0, off0, rfl, hb0, hc0'⟩ := (H.out.below HBEL.out).2.2 (by omega)
          have hc0 := hc0' m hlm
          clear hc0'
          have hAm := HP'.out m hlm
          obtain ⟨v, hv⟩ : ∃ v : Nat, A m = v := ⟨(A m).toNat, by omega⟩
          have HV := hid hv
          rw [hv] at hc0 hAm
          clear hv
          have hv63 : v < 2 ^ 63 := by omega
          have HV63 := hid hv63
          clear hv63 hAm
          go_wp2_with fail
          refine (binOfW v HV63.out _).mono ?_
          rintro e w3 ⟨rfl, hw3⟩
          subst hw3
          go_wp2_with fail
          have hbb := bins_bound A m (binOf v)
          refine (zzAdd w1.heap.size m G (binsTo A m) (binOf v) (binOf_lt HV63.out) 1 _ HLAT.out (by omega) (by omega) (by omega) (by omega) (by omega) (by omega)).mono ?_
          rintro e w4 ⟨rfl, G', hlat', hmore, honly⟩
          have hbi : binI (A m) = binOf v := by show binOf (A m).toNat = _; rw [HV.out]; simp
          have hst := bins_step A m
          rw [hbi] at hst
          rw [hst] at hlat'
          have hG' : ∀ g x, g < 58 → G' g = some x → w1.heap.size ≤ x := fun g x hg hx => by
            rcases hmore g x hg hx with e | e
            · exact HG.out g x hg e
            · have := HBEL.out.size; omega
          have hbel' : Below w1.heap.size w1 w4 := HBEL.out.trans (honly.below HBEL.out.size (Nat.le_refl _) HG.out)
          have HX := hid (And.intro hlat' (And.intro hG' hbel'))
          clear hlat' hG' hbel' hmore honly hst hbi hbb
          go_wp2_with fail
          go_roundw
          case rel => exact ⟨m + 1, G', by omega, by go_num, by have := HX.out.1; rw [show ((m + 1 : Nat) : Int) = (m : Int) + 1 by omega]; exact this, HX.out.2.1, HX.out.2.2⟩
          case measure => simp [intOf]; omega
        · have hmn : m = n := by omega
          have HLAT' : Hid (Lat wr w1.heap.size n G (binsTo A n)) := by have := HLAT.out; rw [hmn] at this; exact this
          clear HLAT hmn
          go_wp2_with fail
          refine (sortedJoin a none n 0 cap 0 A (fun _ => 0) _ w1.heap.size HBEL.out.size (H.out.below HBEL.out) (ints_nil _ _ _) (by omega) (by omega)).mono ?_
          rintro e w5 ⟨rfl, ⟨S, hrow, hsort, hcnt⟩, hb5⟩
          rw [Nat.add_zero] at hrow hsort
          rw [Nat.add_zero]
          have hcnt' : ∀ p, cnt p S n = cnt p A n := fun p => by have := hcnt p; rw [Nat.add_zero, join_nil] at this; exact this
          have hSr := sorted_range hcnt' HP'.out (rn - 1) (by omega)
          have hfall := falls_rank hsort hcnt' (fun i hi => by have := sorted_range hcnt' HP'.out i hi; exact ⟨this.1, by omega⟩) (show 1 ≤ rn by omega) (show rn ≤ n by omega)
          obtain ⟨v, hv⟩ : ∃ v : Nat, S (rn - 1) = v := ⟨(S (rn - 1)).toNat, by omega⟩
          have hbi : binI (S (rn - 1)) = binOf v := by show binOf (S (rn - 1)).toNat = _; rw [hv]; simp
          rw [hbi] at hfall
          have hcv : w5.cell? ⟨wr.heap.size, rn - 1, none⟩ = some (.int .i64 v) := by have := (hrow (rn - 1) (by omega)).1; rw [this]; show some (Value.int .i64 (S (rn - 1))) = _; rw [hv]
          rw [hv] at hSr
          have HV63 : Hid (v < 2 ^ 63) := by show _ < _; omega
          have HFALL := hid hfall
          have HLAT5 := hid (HLAT'.out.below hb5)
          have HB5 := hid (HBEL.out.trans (hb5.mono HBEL.out.size))
          have i1 : (rn : Int) - 1 < n := by omega
          have i2 : 0 ≤ (rn : Int) - 1 := by omega
          have i3 : ((rn : Int) - 1).toNat = rn - 1 := by omega
          clear hcnt hcnt' hsort hrow hfall hbi hv hb5 HLAT' hSr
          go_wp2_with fail
          have hall := bins_all HP'.out
          refine (zzAtRank w1.heap.size n G (binsTo A n) rn _ HLAT5.out (fun j => by have := bins_bound A n j; omega) (by omega) (by omega) (by omega) (by omega)).mono ?_
          rintro e w6 ⟨⟨B, hB, rfl⟩, q6, rfl⟩
          have hBe : B = binOf v := falls_one (fun j => (bins_bound A n j).1) hB HFALL.out
          subst hBe
          clear hB hall HFALL HLAT5 hcv
          go_wp2_with fail
          refine (newLat _).mono ?_
          rintro e w7 ⟨rfl, hlat7, hb7⟩
          have HLAT7 := hid hlat7
          have HB7 := hid (Below.trans (b := w5.drewN q6) ⟨HB5.out.os, HB5.out.tape, HB5.out.output, HB5.out.size, HB5.out.block⟩ (hb7.mono HB5.out.size))
          have hsz5 : w1.heap.size ≤ w5.heap.size := HB5.out.size
          clear hlat7 hb7 HB5
          go_wp2_with fail
          refine (binOfW v HV63.out _).mono ?_
          rintro e w8 ⟨rfl, hw8⟩
          subst hw8
          go_wp2_with fail
          refine (zzAdd _ 0 (fun _ => none) (fun _ => 0) (binOf v) (binOf_lt HV63.out) 1 _ HLAT7.out (by omega) (by omega) (by omega) (by omega) (by omega) (by omega)).mono ?_
          rintro e w9 ⟨rfl, G', hlat9, hmore, honly⟩
          have HLAT9 := hid hlat9
          have HB9 := hid (HB7.out.trans (honly.below HB7.out.size (by simpa using hsz5) (fun g x _ h => by cases h)))
          clear hlat9 hmore honly HLAT7 HB7
          go_wp2_with fail
          have hone := falls_single (binOf v) (binOf_lt HV63.out)
          refine (zzAtRank _ _ G' _ 1 _ HLAT9.out (fun j => ⟨(one_bound (binOf v) j).1, by have := (one_bound (binOf v) j).2; omega⟩) (by omega) (by omega) (by rw [hone.2]; omega) (by rw [hone.2]; omega)).mono ?_
          rintro e w10 ⟨⟨B, hB, rfl⟩, q10, rfl⟩
          have hBe : B = binOf v := falls_one (fun j => (one_bound (binOf v) j).1) hB hone.1
          subst hBe
          have HFIN : Hid (Below w1.heap.size w1 (w9.drewN q10)) := ⟨HB9.out.os, HB9.out.tape, HB9.out.output, HB9.out.size, HB9.out.block⟩
          clear hB hone HLAT9 HB9
          have hnear := mid_near v
          have hmid := mid_lt (binOf_lt HV63.out)
          have HNE := hid (near (midOf (binOf v)) v hmid HV63.out hnear.1 hnear.2)
          clear hnear hmid
          generalize midOf (binOf v) = mm at *
          go_wp2_with fail
          refine (HNE.out _).mono ?_
          rintro e w11 ⟨rfl, hw11⟩
          subst hw11
          go_wp2_with fail
          go_ret
          exact ⟨rfl, HFIN.out⟩

end Go.Proofs.Qxb6608868a
