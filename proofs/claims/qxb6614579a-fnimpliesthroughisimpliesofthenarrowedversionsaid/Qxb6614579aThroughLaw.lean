/-
  Seat b6614579a: FnImpliesThroughIsImpliesOfTheNarrowedVersion (4): the walk.
-/
import Derived.Test.Qxb6614579aBytesT
import Derived.Test.Qxb6614579aReachLaw
import Derived.Test.Qxb6614579aImpliesT
import Derived.Deep.RegionWith
import Derived.Deep.CutRange
namespace Go.Proofs.Qxb6614579a
open Go.RowKit Go.Maps

/-- The version cut down to the names in th, after k pairs. -/
def nwTo (th ks : List ByteArray) (vs : List Int) : Nat → ByteArray → Option Int
  | 0, _ => none
  | k + 1, s => if inTo th (ks.getD k ByteArray.empty) th.length = true then (if s = ks.getD k ByteArray.empty then some (vs.getD k 0) else nwTo th ks vs k s) else nwTo th ks vs k s

theorem nwTo_yes {th ks : List ByteArray} {vs : List Int} {k : Nat} (h : inTo th (ks.getD k ByteArray.empty) th.length = true) : nwTo th ks vs (k + 1) = fun s => if s = ks.getD k ByteArray.empty then some (vs.getD k 0) else nwTo th ks vs k s := by
  funext s; show (if _ then _ else _) = _; rw [if_pos h]
theorem nwTo_no {th ks : List ByteArray} {vs : List Int} {k : Nat} (h : inTo th (ks.getD k ByteArray.empty) th.length = false) : nwTo th ks vs (k + 1) = nwTo th ks vs k := by
  funext s; show (if _ then _ else _) = _; rw [if_neg (by rw [h]; simp)]

theorem nwTo_is (th ks : List ByteArray) (vs : List Int) (s : ByteArray) : ∀ k, nwTo th ks vs k s = if inTo th s th.length = true then lkTo ks vs k s else none
  | 0 => by
    by_cases h : inTo th s th.length = true
    · rw [if_pos h]; rfl
    · rw [if_neg h]; rfl
  | k + 1 => by
    have ih := nwTo_is th ks vs s k
    unfold nwTo lkTo
    rw [ih]
    by_cases e : s = ks.getD k ByteArray.empty
    · rw [← e, if_pos rfl, if_pos rfl]
      by_cases h : inTo th s th.length = true
      · rw [if_pos h, if_pos h]
      · rw [if_neg h, if_neg h, if_neg h]
    · rw [if_neg e, if_neg e]
      by_cases h : inTo th (ks.getD k ByteArray.empty) th.length = true
      · rw [if_pos h]
      · rw [if_neg h]

theorem goal_narrow (ks : List ByteArray) (vs : List Int) (th : List ByteArray) : (fun t => decide (0 < (nwTo th ks vs (min ks.length vs.length) t).getD 0)) = goalOf ks vs th true := by
  funext t
  rw [nwTo_is]
  unfold goalOf
  cases h : inTo th t th.length
  · simp
  · simp
theorem goal_set (ks : List ByteArray) (vs : List Int) (th : List ByteArray) : (fun t => decide (0 < (lkTo ks vs (min ks.length vs.length) t).getD 0) && inTo th t th.length) = goalOf ks vs th true := by
  funext t
  unfold goalOf
  simp

set_option maxHeartbeats 2000000 in
theorem throughLaw (a0 a1 a2 a3 a4 a5 : Option Addr) (fs ts : List ByteArray) (zs : List Int) (ks : List ByteArray) (vs : List Int) (th : List ByteArray) (cap0 cap1 cap2 cap3 cap4 cap5 : Nat) (nd : ByteArray) (sq : Int) (w : World)
    (h0 : Strs w.heap.size w a0 fs) (h1 : Strs w.heap.size w a1 ts) (h2 : Words w.heap.size w a2 zs) (h3 : Strs w.heap.size w a3 ks) (h4 : Words w.heap.size w a4 vs) (h5 : Strs w.heap.size w a5 th) (hnd : nd.size ≤ maxLen) :
    Calls Try.prog 4 #[.slice a0 fs.length cap0, .slice a1 ts.length cap1, .slice a2 zs.length cap2, .slice a3 ks.length cap3, .slice a4 vs.length cap4, .slice a5 th.length cap5, .string nd, .int .u64 sq] w fun e w' => e = .returned (.bool true) ∧ Below w.heap.size w w' := by
  have hmm := @run_makeMap Try.prog
  have H0 := hid h0
  have H1 := hid h1
  have H2 := hid h2
  have H3 := hid h3
  have H4 := hid h4
  have H5 := hid h5
  have HN := hid hnd
  clear h0 h1 h2 h3 h4 h5 hnd
  by_cases hbig : 4096 < (fs.length : Int) ∨ 4096 < (ts.length : Int) ∨ 4096 < (zs.length : Int) ∨ 4096 < (ks.length : Int) ∨ 4096 < (vs.length : Int) ∨ 4096 < (th.length : Int)
  · go_enter Try.func4, Try.ntmps4
    go_wp2_with fail
    refine (bytes15 a0 a1 a2 a3 a4 a5 fs ts zs ks vs th cap0 cap1 cap2 cap3 cap4 cap5 nd sq _ _ H0.out H1.out H2.out H3.out H4.out H5.out HN.out).mono ?_
    rintro e w1 ⟨⟨b, rfl⟩, rfl⟩
    cases b
    · go_wp2
      go_ret
      exact ⟨rfl, Below.refl _ _⟩
    · by_cases l0 : 4096 < (fs.length : Int)
      · clear hbig
        go_wp2
        go_ret
        exact ⟨rfl, Below.refl _ _⟩
      by_cases l1 : 4096 < (ts.length : Int)
      · clear hbig
        go_wp2
        go_ret
        exact ⟨rfl, Below.refl _ _⟩
      by_cases l2 : 4096 < (zs.length : Int)
      · clear hbig
        go_wp2
        go_ret
        exact ⟨rfl, Below.refl _ _⟩
      by_cases l3 : 4096 < (ks.length : Int)
      · clear hbig
        go_wp2
        go_ret
        exact ⟨rfl, Below.refl _ _⟩
      by_cases l4 : 4096 < (vs.length : Int)
      · clear hbig
        go_wp2
        go_ret
        exact ⟨rfl, Below.refl _ _⟩
      have l5 : 4096 < (th.length : Int) := by omega
      clear hbig
      go_wp2
      go_ret
      exact ⟨rfl, Below.refl _ _⟩
  have l0 : (fs.length : Int) ≤ 4096 := by omega
  have l1 : (ts.length : Int) ≤ 4096 := by omega
  have l2 : (zs.length : Int) ≤ 4096 := by omega
  have l3 : (ks.length : Int) ≤ 4096 := by omega
  have l4 : (vs.length : Int) ≤ 4096 := by omega
  have l5 : (th.length : Int) ≤ 4096 := by omega
  have m0 : decide (4096 < (fs.length : Int)) = false := decide_eq_false (by omega)
  have m1 : decide (4096 < (ts.length : Int)) = false := decide_eq_false (by omega)
  have m2 : decide (4096 < (zs.length : Int)) = false := decide_eq_false (by omega)
  have m3 : decide (4096 < (ks.length : Int)) = false := decide_eq_false (by omega)
  have m4 : decide (4096 < (vs.length : Int)) = false := decide_eq_false (by omega)
  have m5 : decide (4096 < (th.length : Int)) = false := decide_eq_false (by omega)
  clear hbig
  go_enter Try.func4, Try.ntmps4
  go_wp2_with fail
  refine (bytes15 a0 a1 a2 a3 a4 a5 fs ts zs ks vs th cap0 cap1 cap2 cap3 cap4 cap5 nd sq _ _ H0.out H1.out H2.out H3.out H4.out H5.out HN.out).mono ?_
  rintro e w1 ⟨⟨b, rfl⟩, rfl⟩
  cases b
  · go_wp2
    go_ret
    exact ⟨rfl, Below.refl _ _⟩
  go_wp2_with fail
  refine (impliesBytes a0 a1 a2 a3 a4 fs ts zs ks vs cap0 cap1 cap2 cap3 cap4 nd _ _ H0.out H1.out H2.out H3.out H4.out HN.out).mono ?_
  rintro e w1 ⟨⟨r0, hr0, hr0', rfl⟩, rfl⟩
  go_wp2_with fail
  refine (addStrings r0 a5 th cap5 _ w1.heap.size hr0 hr0' H5.out).mono ?_
  rintro e w1 ⟨⟨r, _, _, rfl⟩, rfl⟩
  by_cases hr : 1048576 < r
  · go_wp2
    go_ret
    exact ⟨rfl, Below.refl _ _⟩
  have mr : decide (1048576 < r) = false := decide_eq_false hr
  go_wp2_with fail
  refine (lineage a0 a1 a2 fs ts zs cap0 cap1 cap2 _ w1.heap.size (Nat.le_refl _) H0.out H1.out H2.out (by omega)).mono ?_
  rintro e w2 ⟨rfl, ⟨g, hlin⟩, hb2⟩
  have HL := hid hlin
  have HB2 := hid hb2
  clear hlin hb2
  go_wp2_with fail
  refine (version a3 a4 ks vs cap3 cap4 _ w1.heap.size HB2.out.size (H3.out.below HB2.out) (H4.out.below HB2.out)).mono ?_
  rintro e w3 ⟨rfl, hv3, hb3⟩
  have HL3 := hid (HL.out.below' hb3)
  have HV3 := hid hv3
  have HB3 := hid (HB2.out.trans (hb3.mono HB2.out.size))
  have hz3 : w2.heap.size ≤ w3.heap.size := hb3.size
  have hz2 : w1.heap.size ≤ w2.heap.size := HB2.out.size
  clear hv3 hb3 HL HB2
  go_wp2_with fail
  have HB3' := hid (bel_alloc' HB3.out (Obj.cells #[Value.string nd, Value.int IntKind.u64 sq] 34))
  refine (reachModel a0 a1 a2 a3 a4 a5 fs ts zs ks vs th cap0 cap1 cap2 cap3 cap4 cap5 true nd sq _ w1.heap.size HB3'.out.size (H0.out.below HB3'.out) (H1.out.below HB3'.out) (H2.out.below HB3'.out) (H3.out.below HB3'.out) (H4.out.below HB3'.out) (H5.out.below HB3'.out) (by omega)).mono ?_
  rintro e w4 ⟨⟨b4, rfl, ht4⟩, hb4⟩
  have HT4 := hid ht4
  have HB4 := hid (HB3'.out.trans (hb4.mono HB3'.out.size))
  have d0 : w4.cell? ⟨w3.heap.size, 0, none⟩ = some (.string nd) := (hb4.cell (p := ⟨w3.heap.size, 0, none⟩) (by simp)).trans (by simp)
  have d1 : w4.cell? ⟨w3.heap.size, 0 + 1, none⟩ = some (.int .u64 sq) := (hb4.cell (p := ⟨w3.heap.size, 0 + 1, none⟩) (by simp)).trans (by simp)
  have HL4 := hid ((HL3.out.alloc _).below' hb4)
  have HV4 := hid ((HV3.out.alloc _).below hb4 (HV3.out.alloc _).lt)
  have hz4 : w3.heap.size + 1 ≤ w4.heap.size := by have := hb4.size; simp at this; exact this
  clear ht4 hb4 HL3 HV3 HB3 HB3'
  go_upto_region 11 with fail
  go_cut [21] from 92 to 97 (fun s wc => Below w4.heap.size w4 wc ∧ ∃ b : Bool, s = .bool b ∧ (b = true ↔ Hits (edTo fs ts zs (min fs.length (min ts.length zs.length))) (goalOf ks vs th true) nd sq))
  case first =>
    go_region_with (first
      | (go_at_call 18; refine (zzSet a5 th cap5 _ w1.heap.size ?_ ?_).mono ?_; exact HB4.out.size; exact H5.out.below HB4.out.drew; rintro e w5 ⟨rfl, hset5, hb5⟩; have d0' := (hb5.cell (p := ⟨w3.heap.size, 0, none⟩) hz4).trans d0; have d1' := (hb5.cell (p := ⟨w3.heap.size, 0 + 1, none⟩) hz4).trans d1; have hz5 : w4.heap.size ≤ w5.heap.size := hb5.size)
      | (go_at_call 17; (refine (zzImpliesT w1.heap.size w2.heap.size w2.heap.size 8192 w4.heap.size th.length (fun x => inTo th x th.length) g (edTo fs ts zs (min fs.length (min ts.length zs.length))) (lkTo ks vs (min ks.length vs.length)) ts ?_ ?_ nd sq _ HN.out ?_ ?_ ?_ ?_).mono ?_; omega; exact fun u v x h => edTo_mem (by omega) h; exact HL4.out.drew.below' hb5; omega; exact (HV4.out.drew.below hb5 (by have := HV4.out.lt; exact this)).mono (by omega); exact hset5; rintro e w6 ⟨⟨b6, rfl, ht6⟩, hb6⟩)))
    all_goals
      have hb46 : Below w4.heap.size w4 w6 := Below.trans (b := w5) ⟨hb5.os, hb5.tape, hb5.output, hb5.size, hb5.block⟩ (hb6.mono hb5.size)
      have ht6' : b6 = true ↔ Hits (edTo fs ts zs (min fs.length (min ts.length zs.length))) (goalOf ks vs th true) nd sq := by rw [← goal_set]; exact ht6
      have HX := hid (And.intro hb46 ht6')
      clear hb5 hb6 ht6 hset5 d0' d1' hb46 ht6' hz5
      go_wp2_with fail
      go_meet
      exact ⟨HX.out.1, b6, rfl, HX.out.2⟩
  case rest =>
  obtain ⟨hbc, b7, rfl, ht7⟩ := hcut
  have HT7 := hid ht7
  have HBC := hid (HB4.out.trans (hbc.mono HB4.out.size))
  have e0 := (hbc.cell (p := ⟨w3.heap.size, 0, none⟩) hz4).trans d0
  have e1 := (hbc.cell (p := ⟨w3.heap.size, 0 + 1, none⟩) hz4).trans d1
  have HLC := hid (HL4.out.below' hbc)
  have hzc : w4.heap.size ≤ wc.heap.size := hbc.size
  clear ht7 hbc d0 d1 HL4 HV4 HB4
  obtain ⟨n, hn⟩ : ∃ n, n = min ks.length vs.length := ⟨_, rfl⟩
  have HNN : Hid (n = min ks.length vs.length) := hn
  have hkn : n ≤ ks.length := by omega
  have hvn : n ≤ vs.length := by omega
  clear hn
  go_wp2_with fail
  refine (min2 ks.length vs.length _).mono ?_
  rintro e w8 ⟨rfl, rfl⟩
  rw [← HNN.out]
  go_wp2
  go_loopw [24] (fun i wr => ∃ k : Nat, k ≤ n ∧ i = .int .i64 k ∧ Ver wr wc.heap.size k (nwTo th ks vs k) ∧ Below wc.heap.size wc wr) (fun i _ => n - (intOf i).toNat)
  case atStart => exact ⟨0, Nat.zero_le _, rfl, Ver.made _, (Below.refl _ _).alloc (Nat.le_refl _) _⟩
  case round =>
    obtain ⟨k, hk, rfl, hown, hnx⟩ := hrel
    have HOWN := hid hown
    have HNX := hid hnx
    have HBR := hid (HBC.out.trans (hnx.mono HBC.out.size))
    by_cases hlt : k < n
    · have hs2 := H3.out.below HBR.out
      have hz2' := H4.out.below HBR.out
      obtain ⟨b0, off0, rfl, hb0, hc0'⟩ := hs2.2.2 (by omega)
      obtain ⟨b1, off1, rfl, hb1, hc1'⟩ := hz2'.2.2 (by omega)
      have hc0 := hc0' k (by omega)
      have hc1 := hc1' k (by omega)
      clear hc0' hc1'
      have HS2 := hid hs2
      have HZ2 := hid hz2'
      clear hs2 hz2' hown hnx e0 e1
      rcases hin : inTo th (ks.getD k ByteArray.empty) th.length with _ | _
      · have HW := hid (nwTo_no (vs := vs) hin)
        have HIN := hid hin
        clear hin
        generalize ks.getD k ByteArray.empty = s at hc0 HIN
        go_wp2_with fail
        refine (isIn a5 th cap5 s _ w1.heap.size (H5.out.below HBR.out)).mono ?_
        rintro e w9 ⟨rfl, hw9⟩
        subst hw9
        rw [HIN.out]
        go_wp2_with fail
        go_roundw
        case rel => exact ⟨k + 1, by omega, by go_num, by rw [HW.out]; exact HOWN.out.mono (Nat.le_succ k), HNX.out⟩
        case measure => simp [intOf]; omega
      · obtain ⟨w5, hup, hown2, hg⟩ := HOWN.out.drew.put Try.underlying31 (HS2.out.size k) (HZ2.out.wf k) (by unfold maxLen; omega)
        rw [← nwTo_yes hin] at hown2
        have HX := hid (And.intro hown2 ((HNX.out.drew).grown hg HNX.out.size (fun j hj => by cases hj; exact Nat.le_refl _)))
        have HIN := hid hin
        clear hin hown2 hg HS2 HZ2
        generalize ks.getD k ByteArray.empty = s at hc0 HIN hup
        generalize vs.getD k 0 = z at hc1 hup
        go_wp2_with fail
        refine (isIn a5 th cap5 s _ w1.heap.size (H5.out.below HBR.out)).mono ?_
        rintro e w9 ⟨rfl, hw9⟩
        subst hw9
        rw [HIN.out]
        go_wp2
        go_region
        all_goals
          go_wp2
          go_roundw
          case rel => exact ⟨k + 1, by omega, by go_num, HX.out.1, HX.out.2⟩
          case measure => simp [intOf]; omega
    · have hkk : k = n := by omega
      have f0 := (hnx.cell (p := ⟨w3.heap.size, 0, none⟩) (by simp; omega)).trans e0
      have f1 := (hnx.cell (p := ⟨w3.heap.size, 0 + 1, none⟩) (by simp; omega)).trans e1
      have hzr : wc.heap.size ≤ wr.heap.size := hnx.size
      have HLR := hid (HLC.out.below' hnx)
      clear hown hnx e0 e1
      go_wp2_with fail
      refine (zzImplies w1.heap.size w2.heap.size wc.heap.size 8192 g (edTo fs ts zs (min fs.length (min ts.length zs.length))) (nwTo th ks vs k) ts (by omega) (fun u v x h => edTo_mem (by omega) h) nd sq _ HN.out HLR.out (by omega) (HOWN.out.mono (by omega))).mono ?_
      rintro e w10 ⟨⟨b10, rfl, ht10⟩, hb10⟩
      rw [hkk, HNN.out, goal_narrow] at ht10
      obtain rfl : b4 = b10 := tells_same HT4.out ht10
      obtain rfl : b4 = b7 := tells_same HT4.out HT7.out
      have HFIN := hid (HBR.out.trans (hb10.mono HBR.out.size))
      clear ht10 hb10 HT4 HT7 HOWN HNX HLR f0 f1 hkk
      go_wp2
      go_ret
      exact ⟨ret_bool (by simp), HFIN.out⟩

end Go.Proofs.Qxb6614579a
