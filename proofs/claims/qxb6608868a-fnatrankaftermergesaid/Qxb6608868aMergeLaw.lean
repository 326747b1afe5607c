/-
  Seat b6608868a: FnAtRankAfterMerge (4): the walk.
-/
import Derived.Test.Qxb6608868aTrio
namespace Go.Proofs.Qxb6608868a
open Go.RowKit

theorem bins_next {A : Nat → Int} {m v : Nat} (h : A m = v) : upd (binsTo A m) (binOf v) (binsTo A m (binOf v) + 1) = binsTo A (m + 1) := by
  have hbi : binI (A m) = binOf v := by show binOf (A m).toNat = _; rw [h]; simp
  have hst := bins_step A m
  rw [hbi] at hst
  exact hst

set_option maxHeartbeats 8000000 in
theorem mergeLaw (a b : Option Addr) (n m capa capb : Nat) (A B : Nat → Int) (r : Int) (w : World) (ha : Ints w.heap.size w a n A) (hb : Ints w.heap.size w b m B) (hr0 : -9223372036854775808 ≤ r) (hr1 : r ≤ 9223372036854775807) :
    Calls Try.prog 4 #[.slice a n capa, .slice b m capb, .int .i64 r] w fun e w' => e = .returned (.bool true) ∧ Below w.heap.size w w' := by
  have hn := ha.1
  have hm := hb.1
  have HA := hid ha.2.1
  have HB := hid hb.2.1
  have HAA := hid ha
  have HBB := hid hb
  clear ha hb
  go_enter Try.func4, Try.ntmps4
  go_wp2_with fail
  refine (bytes14 a b n m capa capb r _ hn hm).mono ?_
  unfold maxLen at hn hm
  rintro e w1 ⟨hsb, hw1⟩
  subst hw1
  obtain ⟨bv, rfl⟩ := hsb
  cases bv
  · go_wp2
    go_ret
    exact ⟨rfl, Below.refl _ _⟩
  by_cases hbig : 4096 < (n : Int)
  · go_wp2
    go_ret
    exact ⟨rfl, Below.refl _ _⟩
  by_cases hbig' : 4096 < (m : Int)
  · go_wp2
    go_ret
    exact ⟨rfl, Below.refl _ _⟩
  have hbd : decide (4096 < (n : Int)) = false := decide_eq_false hbig
  have hbd' : decide (4096 < (m : Int)) = false := decide_eq_false hbig'
  go_wp2
  go_loop [7] (fun i => ∃ k : Nat, k ≤ n ∧ i = .int .i64 k ∧ ∀ j, j < k → 0 ≤ A j) (fun i => n - (intOf i).toNat)
  case atStart => exact ⟨0, Nat.zero_le _, rfl, fun j hj => (by omega)⟩
  case round =>
    obtain ⟨k, hk, rfl, hpos⟩ := hrel
    have HP := hid hpos
    clear hpos
    by_cases hlt : k < n
    · obtain ⟨b0, off0, rfl, hb0, hc0'⟩ := HAA.out.2.2 (by omega)
      have hc0 := hc0' k hlt
      clear hc0'
      by_cases hneg : A k < 0
      · generalize A k = z at hc0 hneg
        go_wp2
        go_ret
        exact ⟨rfl, Below.refl _ _⟩
      · have HN : Hid (0 ≤ A k) := by show _ ≤ _; omega
        generalize hz : A k = z at hc0 hneg
        have HZ := hid hz
        clear hz
        go_wp2
        go_round
        case rel =>
          exact ⟨k + 1, by omega, by go_num, fun j hj => (by
            by_cases e : j = k
            · rw [e]; exact HN.out
            · exact HP.out j (by omega))⟩
        case measure => simp [intOf]; omega
    · have hkn : k = n := by omega
      have HPA : Hid (∀ j, j < n → 0 ≤ A j ∧ A j ≤ 9223372036854775807) := fun j hj => ⟨HP.out j (by omega), (HA.out j hj).2⟩
      clear HP HA hkn
      have hkl : ¬ (k : Int) < n := by omega
      have hkd : decide ((k : Int) < n) = false := decide_eq_false hkl
      go_wp2
      go_loop [8] (fun i => ∃ k : Nat, k ≤ m ∧ i = .int .i64 k ∧ ∀ j, j < k → 0 ≤ B j) (fun i => m - (intOf i).toNat)
      case atStart => exact ⟨0, Nat.zero_le _, rfl, fun j hj => (by omega)⟩
      case round =>
        obtain ⟨k2, hk2, rfl, hpos⟩ := hrel
        have HP := hid hpos
        clear hpos
        by_cases hlt2 : k2 < m
        · obtain ⟨b0, off0, rfl, hb0, hc0'⟩ := HBB.out.2.2 (by omega)
          have hc0 := hc0' k2 hlt2
          clear hc0'
          by_cases hneg : B k2 < 0
          · generalize B k2 = z at hc0 hneg
            go_wp2
            go_ret
            exact ⟨rfl, Below.refl _ _⟩
          · have HN : Hid (0 ≤ B k2) := by show _ ≤ _; omega
            generalize hz : B k2 = z at hc0 hneg
            have HZ := hid hz
            clear hz
            go_wp2
            go_round
            case rel =>
              exact ⟨k2 + 1, by omega, by go_num, fun j hj => (by
                by_cases e : j = k2
                · rw [e]; exact HN.out
                · exact HP.out j (by omega))⟩
            case measure => simp [intOf]; omega
        · have hkn : k2 = m := by omega
          have HPB : Hid (∀ j, j < m → 0 ≤ B j ∧ B j ≤ 9223372036854775807) := fun j hj => ⟨HP.out j (by omega), (HB.out j hj).2⟩
          clear HP HB hkn
          have hkl2 : ¬ (k2 : Int) < m := by omega
          have hkd2 : decide ((k2 : Int) < m) = false := decide_eq_false hkl2
          by_cases hrl : r < 1
          · go_wp2
            go_ret
            exact ⟨rfl, Below.refl _ _⟩
          by_cases hrh : (n : Int) + m < r
          · go_wp2
            go_ret
            exact ⟨rfl, Below.refl _ _⟩
          have dl : decide (r < 1) = false := decide_eq_false hrl
          have dh : decide ((n : Int) + m < r) = false := decide_eq_false hrh
          obtain ⟨rn, rfl⟩ : ∃ rn : Nat, r = rn := ⟨r.toNat, by omega⟩
          go_wp2_with fail
          refine (newLat _).mono ?_
          rintro e w2 ⟨rfl, hlat1, hbw1⟩
          have H1 := hid hlat1
          have HW1 := hid hbw1
          clear hlat1 hbw1
          go_wp2_with fail
          refine (newLat _).mono ?_
          rintro e w3 ⟨rfl, hlat2, hbw2⟩
          have H2 := hid hlat2
          have HW2 := hid hbw2
          clear hlat2 hbw2
          go_wp2_with fail
          refine (newLat _).mono ?_
          rintro e w4 ⟨rfl, hlat3, hbw3⟩
          have HT0 := hid (Trio.new H1.out HW1.out H2.out HW2.out hlat3 hbw3)
          clear hlat3 hbw3 H1 HW1 H2 HW2
          generalize hb1 : w1.heap.size = b1 at *
          generalize hb2 : w2.heap.size = b2 at *
          generalize hb3 : w3.heap.size = b3 at *
          have HB1 := hid hb1
          clear hb1 hb2 hb3
          go_wp2
          go_loopw [12] (fun i wr => ∃ k : Nat, k ≤ n ∧ i = .int .i64 k ∧ Trio w1 wr b1 b2 b3 k 0 k (binsTo A k) (fun _ => 0) (binsTo A k)) (fun i _ => n - (intOf i).toNat)
          case atStart => exact ⟨0, Nat.zero_le _, rfl, HT0.out⟩
          case round =>
            clear HT0
            obtain ⟨k3, hk3, rfl, htrio⟩ := hrel
            have HT := hid htrio
            clear htrio
            by_cases hlt3 : k3 < n
            · obtain ⟨b0, off0, rfl, hb0, hc0'⟩ := (HAA.out.below (HB1.out ▸ HT.out.bel)).2.2 (by omega)
              have hc0 := hc0' k3 hlt3
              have HC0 := hid hc0'
              clear hc0'
              have hAm := HPA.out k3 hlt3
              obtain ⟨v, hv⟩ : ∃ v : Nat, A k3 = v := ⟨(A k3).toNat, by omega⟩
              have HV := hid hv
              rw [hv] at hc0 hAm
              have HV63 : Hid (v < 2 ^ 63) := by show _ < _; omega
              clear hv hAm
              go_wp2_with fail
              refine (binOfW v HV63.out _).mono ?_
              rintro e w5 ⟨rfl, hw5⟩
              subst hw5
              go_wp2_with fail
              have hbb := bins_bound A k3 (binOf v)
              refine (trioAdd HT.out (binOf v) (binOf_lt HV63.out) (by omega) (by omega) (by omega) (by omega)).mono ?_
              rintro e w6 ⟨rfl, ht6⟩
              rw [bins_next HV.out] at ht6
              have HT6 := hid ht6
              clear ht6 hbb hc0 HT
              obtain ⟨b0', off0', e0, hb0', hc0''⟩ := (HAA.out.below (HB1.out ▸ HT6.out.bel)).2.2 (by omega)
              cases e0
              have hc0 := hc0'' k3 hlt3
              clear hc0'' hb0'
              rw [HV.out] at hc0
              go_wp2_with fail
              refine (binOfW v HV63.out _).mono ?_
              rintro e w7 ⟨rfl, hw7⟩
              subst hw7
              go_wp2_with fail
              have hbb := bins_bound A k3 (binOf v)
              refine (trioAdd HT6.out.rot.rot (binOf v) (binOf_lt HV63.out) (by omega) (by omega) (by omega) (by omega)).mono ?_
              rintro e w8 ⟨rfl, ht8⟩
              rw [bins_next HV.out] at ht8
              have HT8 := hid ht8.rot
              clear ht8 hbb hc0 HT6
              go_wp2_with fail
              go_roundw
              case rel => exact ⟨k3 + 1, by omega, by go_num, by have := HT8.out; rw [show ((k3 + 1 : Nat) : Int) = (k3 : Int) + 1 by omega]; exact this⟩
              case measure => simp [intOf]; omega
            · have hkn3 : k3 = n := by omega
              have HTn : Hid (Trio w1 wr b1 b2 b3 n 0 n (binsTo A n) (fun _ => 0) (binsTo A n)) := by have := HT.out; rw [hkn3] at this; exact this
              clear HT hkn3
              have hkl3 : ¬ (k3 : Int) < n := by omega
              have hkd3 : decide ((k3 : Int) < n) = false := decide_eq_false hkl3
              go_wp2
              obtain ⟨wo, rfl⟩ : ∃ wo : World, wo = wr := ⟨_, rfl⟩
              go_loopw [13] (fun i wr => ∃ k : Nat, k ≤ m ∧ i = .int .i64 k ∧ Trio w1 wr b1 b2 b3 n k (n + k) (binsTo A n) (binsTo B k) (binsTo (join n A B) (n + k))) (fun i _ => m - (intOf i).toNat)
              case atStart => exact ⟨0, Nat.zero_le _, rfl, by have := HTn.out; rw [Nat.add_zero, join_left]; show Trio _ _ _ _ _ _ 0 ((n : Int) + 0) _ _ _; rw [Int.add_zero]; exact this⟩
              case round =>
                clear HTn
                obtain ⟨k4, hk4, rfl, htrio⟩ := hrel
                have HT := hid htrio
                clear htrio
                by_cases hlt4 : k4 < m
                · obtain ⟨b0, off0, rfl, hb0, hc0'⟩ := (HBB.out.below (HB1.out ▸ HT.out.bel)).2.2 (by omega)
                  have hc0 := hc0' k4 hlt4
                  clear hc0'
                  have hAm := HPB.out k4 hlt4
                  obtain ⟨v, hv⟩ : ∃ v : Nat, B k4 = v := ⟨(B k4).toNat, by omega⟩
                  have HV := hid hv
                  rw [hv] at hc0 hAm
                  have HV63 : Hid (v < 2 ^ 63) := by show _ < _; omega
                  clear hv hAm
                  go_wp2_with fail
                  refine (binOfW v HV63.out _).mono ?_
                  rintro e w5 ⟨rfl, hw5⟩
                  subst hw5
                  go_wp2_with fail
                  have hbb := bins_bound B k4 (binOf v)
                  refine (trioAdd HT.out.rot (binOf v) (binOf_lt HV63.out) (by omega) (by omega) (by omega) (by omega)).mono ?_
                  rintro e w6 ⟨rfl, ht6⟩
                  rw [bins_next HV.out] at ht6
                  have HT6 := hid ht6.rot
                  clear ht6 hbb hc0 HT
                  obtain ⟨b0', off0', e0, hb0', hc0''⟩ := (HBB.out.below (HB1.out ▸ HT6.out.bel)).2.2 (by omega)
                  cases e0
                  have hc0 := hc0'' k4 hlt4
                  clear hc0'' hb0'
                  rw [HV.out] at hc0
                  go_wp2_with fail
                  refine (binOfW v HV63.out _).mono ?_
                  rintro e w7 ⟨rfl, hw7⟩
                  subst hw7
                  go_wp2_with fail
                  have hbb := bins_bound (join n A B) (n + k4) (binOf v)
                  refine (trioAdd HT6.out (binOf v) (binOf_lt HV63.out) (by omega) (by omega) (by omega) (by omega)).mono ?_
                  rintro e w8 ⟨rfl, ht8⟩
                  rw [bins_next ((join_at A B n k4).trans HV.out)] at ht8
                  have HT8 := hid ht8.rot
                  clear ht8 hbb hc0 HT6
                  go_wp2_with fail
                  go_roundw
                  case rel => exact ⟨k4 + 1, by omega, by go_num, by have := HT8.out; rw [show ((k4 + 1 : Nat) : Int) = (k4 : Int) + 1 by omega, ← Int.add_assoc]; exact this⟩
                  case measure => simp [intOf]; omega
                · have hkn4 : k4 = m := by omega
                  have HTm : Hid (Trio w1 wr b1 b2 b3 n m (n + m) (binsTo A n) (binsTo B m) (binsTo (join n A B) (n + m))) := by have := HT.out; rw [hkn4] at this; exact this
                  clear HT hkn4
                  go_wp2_with fail
                  have hallB := bins_all HPB.out
                  refine (trioMerge HTm.out (fun j => by have := bins_bound A n j; omega) (fun j => by have := bins_bound B m j; omega) (by omega) (by omega) (by omega)).mono ?_
                  rintro e w5 ⟨rfl, ht5⟩
                  have HT5 := hid (ht5.congr (c1' := (n : Int) + m) (by omega) (join_bins A B n m))
                  clear ht5 hallB HTm
                  have HJ := hid (join_range HPA.out HPB.out)
                  have HALL := hid (bins_all HJ.out)
                  go_wp2_with fail
                  refine (trioRank HT5.out rn (fun j => by have := bins_bound (join n A B) (n + m) j; omega) (by omega) (by omega) (by rw [HALL.out]; omega) (by rw [HALL.out]; omega)).mono ?_
                  rintro e w6 ⟨⟨Bg, hB, rfl⟩, q6, rfl⟩
                  have HF1 := hid hB
                  clear hB
                  have HT6 := hid (HT5.out.drewN q6)
                  clear HT5
                  go_wp2_with fail
                  refine (sortedJoin a b n m capa capb A B _ b1 (by have := HT6.out.bel.size; have := HB1.out; omega) (HAA.out.below (HB1.out ▸ HT6.out.bel)) (HBB.out.below (HB1.out ▸ HT6.out.bel)) (by omega) (by omega)).mono ?_
                  rintro e w7 ⟨rfl, ⟨S, hrow, hsort, hcnt⟩, hb7⟩
                  have HT7 := hid (HT6.out.below hb7)
                  clear HT6 hb7
                  have hSr := sorted_range hcnt HJ.out (rn - 1) (by omega)
                  have hfall := falls_rank hsort hcnt (fun i hi => by have := sorted_range hcnt HJ.out i hi; exact ⟨this.1, by omega⟩) (show 1 ≤ rn by omega) (show rn ≤ n + m by omega)
                  obtain ⟨v, hv⟩ : ∃ v : Nat, S (rn - 1) = v := ⟨(S (rn - 1)).toNat, by omega⟩
                  have hbi : binI (S (rn - 1)) = binOf v := by show binOf (S (rn - 1)).toNat = _; rw [hv]; simp
                  rw [hbi] at hfall
                  have hBe : Bg = binOf v := falls_one (fun j => (bins_bound (join n A B) (n + m) j).1) HF1.out hfall
                  subst hBe
                  have hcv : w7.cell? ⟨w5.heap.size, rn - 1, none⟩ = some (.int .i64 v) := (hrow (rn - 1) (by omega)).1.trans (by show some (Value.int .i64 (S (rn - 1))) = _; rw [hv])
                  rw [hv] at hSr
                  have HV63 : Hid (v < 2 ^ 63) := by show _ < _; omega
                  obtain ⟨N, hN⟩ : ∃ N, N = n + m := ⟨_, rfl⟩
                  rw [← hN]
                  have HN := hid hN
                  have i1 : (rn : Int) - 1 < N := by omega
                  have i4 : (N : Int) ≤ 8192 := by omega
                  have i2 : 0 ≤ (rn : Int) - 1 := by omega
                  have i3 : ((rn : Int) - 1).toNat = rn - 1 := by omega
                  clear hcnt hsort hrow hfall hbi hv hSr hN
                  go_wp2_with fail
                  refine (trioRank HT7.out.rot.rot rn (fun j => by have := bins_bound (join n A B) (n + m) j; omega) (by omega) (by omega) (by rw [HALL.out]; omega) (by rw [HALL.out]; omega)).mono ?_
                  rintro e w8 ⟨⟨B2, hB, rfl⟩, q8, rfl⟩
                  have hBe : B2 = binOf v := falls_one (fun j => (bins_bound (join n A B) (n + m) j).1) hB HF1.out
                  subst hBe
                  have HFIN : Hid (Below w1.heap.size w1 (w7.drewN q8)) := (HT7.out.drewN q8).bel
                  clear hB HF1 HT7 hcv HALL HJ
                  have hnear := mid_near v
                  have hmid := mid_lt (binOf_lt HV63.out)
                  have HNE := hid (near (midOf (binOf v)) v hmid HV63.out hnear.1 hnear.2)
                  clear hnear hmid
                  generalize midOf (binOf v) = mm at *
                  go_wp2_with fail
                  refine (HNE.out _).mono ?_
                  rintro e w11 ⟨rfl, hw11⟩
                  subst hw11
                  go_wp2_with fail
                  go_ret
                  exact ⟨rfl, HFIN.out⟩

end Go.Proofs.Qxb6608868a
