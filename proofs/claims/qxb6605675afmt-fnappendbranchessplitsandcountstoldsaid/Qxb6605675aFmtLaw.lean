/-
  Seat b6605675aF: FnAppendBranchesSplitsAndCounts (3): the walk.
-/
import Derived.Test.Qxb6605675aFmtZapp
import Derived.Test.Qxb6605675aFmtSize
import Derived.Test.Qxb6605675aFmtBytes
import Derived.Deep.RegionWith
namespace Go.Proofs.Qxb6605675aFmt
open Go.RowKit Go.Stop

theorem strs_own {w : World} {base : Nat} {v : Value} {ss : List ByteArray} (h : OwnW w base v ss) (hsz : ∀ s ∈ ss, s.size ≤ maxLen) (hl : ss.length ≤ maxLen) : ∃ aw cap, v = .slice aw ss.length cap ∧ Strs w.heap.size w aw ss := by
  obtain ⟨aw, cap, rfl, _, hc, hg⟩ := own_form h
  refine ⟨aw, cap, rfl, hsz, hl, fun hp => ?_⟩
  obtain ⟨b, off, e, hcell⟩ := hc hp
  have := (hg _ e).2.2.2
  exact ⟨b, off, e, this, hcell⟩
theorem WCells.take {w : World} {a : Option Addr} {ss ts : List ByteArray} (h : WCells w a (ss ++ ts)) : WCells w a ss := fun hp => by
  obtain ⟨b, off, e, hc⟩ := h (by rw [List.length_append]; omega)
  refine ⟨b, off, e, fun j hj => ?_⟩
  rw [hc j (by rw [List.length_append]; omega), List.getD, List.getElem?_append_left hj]
  rfl
theorem tape_below {n : Nat} {w w' : World} {F : Interp} (hF : F.answers w.tape) (hb : Below n w w') : F.answers w'.tape := by
  rw [hb.tape]
  exact hF

theorem brs_nil (B : Nat) (w : World) (a : Option Addr) : Brs B w a [] := ⟨fun _ h => (by cases h), Nat.zero_le _, fun h => (by cases h)⟩
theorem brs_from {B : Nat} {w : World} {a : Option Addr} {bs : List Br} (h : Brs B w a bs) (k : Nat) : Brs B w (a.map fun x => x.add (k * 5)) (bs.drop k) := by
  by_cases hk : k < bs.length
  · obtain ⟨b, off, e, _⟩ := h.2.2 (by omega)
    subst e
    refine Brs.drop h (fun _ => ?_)
    show some ((⟨b, off, none⟩ : Addr).add (k * 5)) = _
    rw [Go.WideShapes.add_plain]
  · rw [List.drop_eq_nil_of_le (by omega)]
    exact brs_nil _ _ _

theorem below_drewN {n : Nat} {w w' : World} (h : Below n w w') (q : Nat) : Below n w (w'.drewN q) := ⟨h.os, h.tape, h.output, h.size, h.block⟩
theorem countN (a : Option Addr) (bs : List Br) (n cap : Nat) (w : World) (B : Nat) (hnn : bs.length = n) (hs : Brs B w a bs) (hn : n ≤ 65536) :
    Calls Tryf.prog 12 #[.slice a n cap] w fun e w' => e = .returned (.int .i64 (idents bs n)) ∧ w' = w := by
  subst hnn
  exact countIdents a bs cap w B hs hn
theorem sameN (a a' : Option Addr) (ss : List ByteArray) (n cap cap' : Nat) (w : World) (hnn : ss.length = n) (hn : n ≤ 1000000) (hs : WCells w a ss) (hs' : WCells w a' ss) :
    Calls Tryf.prog 13 #[.slice a n cap, .slice a' n cap'] w fun e w' => e = .returned (.bool true) ∧ ∃ q, w' = w.drewN q := by
  subst hnn
  exact sameWords a a' ss cap cap' w hn hs hs'

/-- buildBranches and what it is for, at a length by another name. -/
theorem buildN (a : Option Addr) (bs : List Br) (n cap : Nat) (w : World) (B : Nat) (hnn : bs.length = n) (hB : B ≤ w.heap.size) (hn : n ≤ 65536) (hs : Brs B w a bs) :
    Calls Tryf.prog 11 #[.slice a n cap] w fun e w' => (∃ ap cp, e = .returned (.slice ap n cp) ∧ (0 < bs.length → ∃ p, ap = some ⟨p, 0, none⟩ ∧ Ptrs w' p bs)) ∧ Below w.heap.size w w' := by
  subst hnn
  refine (buildBranches a bs cap w B hB hn hs).mono ?_
  rintro e w' ⟨⟨vp, ps, rfl, hownp, hps, hbrp⟩, hb⟩
  obtain ⟨ap, cp, rfl, hptr⟩ := ptrs_own hownp hps hbrp
  exact ⟨⟨ap, cp, rfl, hptr⟩, hb⟩
theorem appendN (F : Interp) (base : Nat) (v : Value) (ss : List ByteArray) (ap : Option Addr) (bs : List Br) (n capp : Nat) (w : World) (hnn : bs.length = n) (hF : F.answers w.tape) (hbase : base ≤ w.heap.size) (hown : OwnW w base v ss)
    (hp : 0 < bs.length → ∃ p, ap = some ⟨p, 0, none⟩ ∧ Ptrs w p bs) (hn : n ≤ 65536) (hsl : ss.length ≤ 300000) (hident : ∀ j, j < bs.length → (bs.getD j br0).ident.size ≤ 1048576) :
    Calls Tryf.prog 10 #[v, .slice ap n capp] w fun e w' => (∃ v', e = .returned v' ∧ OwnW w' base v' (ss ++ wordsTo F hexOf bs bs.length)) ∧ Below base w w' := by
  subst hnn
  exact zzAppend F base v ss ap bs capp w hF hbase hown hp hn hsl hident

set_option maxHeartbeats 8000000 in
set_option maxRecDepth 100000 in
theorem splitsLaw (F : Interp) (a : Option Addr) (ss : List ByteArray) (cap : Nat) (a' : Option Addr) (bs : List Br) (cap' : Nat) (kk : Int) (w : World) (hF : F.answers w.tape) (hs : Strs w.heap.size w a ss) (hb : Brs w.heap.size w a' bs) (hk0 : -9223372036854775808 ≤ kk) (hk1 : kk ≤ 9223372036854775807) :
    Calls Tryf.prog 3 #[.slice a ss.length cap, .slice a' bs.length cap', .int .i64 kk] w fun e w' => e = .returned (.bool true) ∧ Below w.heap.size w w' := by
  have HF := hid hF
  have HS := hid hs
  have HB := hid hb
  clear hF hs hb
  go_enter Tryf.func3, Tryf.ntmps3
  go_wp2_with fail
  refine (bytes6 a a' ss bs cap cap' kk _ w.heap.size HS.out HB.out).mono ?_
  rintro e w0 ⟨hsb, hw0⟩
  subst hw0
  obtain ⟨bv, rfl⟩ := hsb
  cases bv
  · go_wp2_with fail
    go_ret
    exact ⟨rfl, Below.refl _ _⟩
  go_wp2_with fail
  refine (sizeOK a a' ss bs cap cap' _ w0.heap.size (Nat.le_refl _) HS.out HB.out).mono ?_
  rintro e w1 ⟨hst, hb1⟩
  have HB1 := hid hb1
  clear hb1
  rcases hst with rfl | ⟨rfl, hn, hm, hall⟩
  · go_wp2_with fail
    go_ret
    exact ⟨rfl, HB1.out⟩
  have HALL := hid hall
  clear hall
  by_cases h1 : kk < 0
  · go_wp2_with fail
    go_ret
    exact ⟨rfl, HB1.out⟩
  have d1 : decide (kk < 0) = false := decide_eq_false h1
  by_cases h2 : (bs.length : Int) < kk
  · go_wp2_with fail
    go_ret
    exact ⟨rfl, HB1.out⟩
  have d2 : decide ((bs.length : Int) < kk) = false := decide_eq_false h2
  obtain ⟨k, rfl⟩ : ∃ k : Nat, kk = k := ⟨kk.toNat, by omega⟩
  go_wp2_with fail
  refine (cloneWords a ss cap _ w1.heap.size w0.heap.size (Nat.le_refl _) HB1.out.size hn (HS.out.below HB1.out)).mono ?_
  rintro e w2 ⟨⟨v0, rfl, hown0, _⟩, hb2⟩
  obtain ⟨a0, c0, rfl, hs0⟩ := strs_own hown0 HS.out.1 HS.out.2.1
  have HS0 := hid hs0
  have HB2 := hid hb2
  clear hown0 hs0 hb2
  go_wp2_with fail
  have HN2 : Hid (Below w0.heap.size w0 w2) := HB1.out.trans (HB2.out.mono HB1.out.size)
  refine (cloneBranches a' bs cap' _ w0.heap.size HN2.out.size hm (HB.out.below HN2.out)).mono ?_
  rintro e w3 ⟨⟨a1, rfl, hbr1, ha1⟩, hb3⟩
  have HN3 : Hid (Below w0.heap.size w0 w3) := HN2.out.trans (hb3.mono HN2.out.size)
  have HS3 : Hid (Strs w3.heap.size w3 a0 ss) := (HS0.out.below hb3).mono hb3.size
  have HBR3 : Hid (Brs w3.heap.size w3 a1 bs) := by
    refine ⟨hbr1.1, hbr1.2.1, fun hp => ?_⟩
    obtain ⟨b, off, e, hlt, hc⟩ := hbr1.2.2 hp
    obtain ⟨e1, e2⟩ := ha1 _ e
    cases e1
    exact ⟨_, _, e, e2, hc⟩
  have HA1 : Hid (∀ x, a1 = some x → x = ⟨w2.heap.size, 0, none⟩) := fun x h => (ha1 x h).1
  clear hbr1 ha1 hb3 HS0 HB2 HB1 HN2
  go_wp2_with fail
  refine (cloneWords a0 ss c0 _ w3.heap.size w3.heap.size (Nat.le_refl _) (Nat.le_refl _) hn HS3.out).mono ?_
  rintro e w4 ⟨⟨v1, rfl, hown1, _⟩, hb4⟩
  have HO1 := hid hown1
  have HB4 := hid hb4
  clear hown1 hb4
  go_wp2_with fail
  refine (buildBranches a1 bs bs.length _ w3.heap.size HB4.out.size hm (HBR3.out.below HB4.out)).mono ?_
  rintro e w5 ⟨⟨vp, ps, rfl, hownp, hps, hbrp⟩, hb5⟩
  obtain ⟨ap, cp, rfl, hptr⟩ := ptrs_own hownp hps hbrp
  have HPTR := hid hptr
  have HO5 := hid (own_below HO1.out hb5)
  have HB5 : Hid (Below w3.heap.size w3 w5) := HB4.out.trans (hb5.mono HB4.out.size)
  clear hownp hps hbrp hb5 hptr HO1 HB4
  go_wp2_with fail
  refine (zzAppend F w3.heap.size v1 ss ap bs cp _ (tape_below (tape_below HF.out HN3.out) HB5.out) HB5.out.size HO5.out HPTR.out hm (by omega) (fun j hj => (HALL.out j hj).2.2.2)).mono ?_
  rintro e w6 ⟨⟨v2, rfl, hown2⟩, hb6⟩
  have HB6 : Hid (Below w3.heap.size w3 w6) := HB5.out.trans hb6
  have HO2 := hid hown2
  clear hown2 hb6 HPTR HO5 HB5
  have HS6 := hid (HS3.out.below HB6.out)
  have HBR6 := hid (HBR3.out.below HB6.out)
  have hk : (k : Int) ≤ bs.length := by omega
  have hk0' : 0 ≤ (k : Int) := by omega
  have hltk : (bs.take k).length = k := by rw [List.length_take]; omega
  have HLTK := hid hltk
  have HF6 := hid (tape_below (tape_below HF.out HN3.out) HB6.out)
  have HIDT : Hid (∀ j, j < (bs.take k).length → ((bs.take k).getD j br0).ident.size ≤ 1048576) := fun j hj => (by
    have e1 : (bs.take k).getD j br0 = bs.getD j br0 := by
      simp only [List.getD, List.getElem?_take]
      rw [if_pos (by omega)]
    rw [e1]
    exact (HALL.out j (by omega)).2.2.2)
  have hs36 : w3.heap.size ≤ w6.heap.size := HB6.out.size
  clear hltk
  go_wp2_with fail
  go_region_with (first
    | (go_at_call 8; refine (cloneWords a0 ss c0 w6.drew w6.heap.size w3.heap.size (Nat.le_refl _) hs36 hn (HS6.out.below ((Below.refl _ w6).drew))).mono ?_; rintro e w7 ⟨⟨v3, rfl, hown3, _⟩, hb7⟩; have hs37 : w6.heap.size ≤ w7.heap.size := hb7.size)
    | (go_at_call 11; refine (buildN a1 (bs.take k) k bs.length w7 w3.heap.size HLTK.out (by omega) (by omega) ((HBR6.out.take k).below ((((Below.refl w3.heap.size w6).drew).trans (hb7.mono hs36))))).mono ?_; rintro e w8 ⟨⟨ap3, cp3, rfl, hptr3⟩, hb8⟩; have hs38 : w7.heap.size ≤ w8.heap.size := hb8.size)
    | (go_at_call 10; refine (appendN F w6.heap.size v3 ss ap3 (bs.take k) k cp3 w8 HLTK.out (tape_below (tape_below (w := w6.drew) HF6.out hb7) hb8) (by omega) (own_below hown3 hb8) hptr3 (by omega) (by omega) HIDT.out).mono ?_; rintro e w9 ⟨⟨v4, rfl, hown4⟩, hb9⟩))
  have e7 : Below w6.heap.size w6 w7 := (Below.refl _ w6).drew.trans hb7
  have HB9 : Hid (Below w6.heap.size w6 w9) := (e7.trans (hb8.mono hs37)).trans hb9
  have HO4 := hid hown4
  have hs69 : w6.heap.size ≤ w9.heap.size := HB9.out.size
  clear e7 hown3 hb7 hs37 hptr3 hb8 hs38 hown4 hb9
  have HBR9 := hid (HBR6.out.below (HB9.out.mono hs36))
  have HF9 := hid (tape_below HF6.out HB9.out)
  have HIDD : Hid (∀ j, j < (bs.drop k).length → ((bs.drop k).getD j br0).ident.size ≤ 1048576) := fun j hj => (by
    have e1 : (bs.drop k).getD j br0 = bs.getD (k + j) br0 := by
      simp only [List.getD, List.getElem?_drop]
    rw [List.length_drop] at hj
    rw [e1]
    exact (HALL.out (k + j) (by omega)).2.2.2)
  have HDR : Hid (∀ ad, ad = (a1.map fun x => x.add (k * 5)) ∨ k = bs.length → Brs w3.heap.size w9 ad (bs.drop k)) := fun ad h => (by
    rcases h with e | e
    · rw [e]; exact brs_from HBR9.out k
    · rw [List.drop_eq_nil_of_le (by omega)]; exact brs_nil _ _ _)
  have HLD : Hid ((bs.drop k).length = bs.length - k) := List.length_drop
  have HLT : Hid ((ss ++ wordsTo F hexOf (bs.take k) (bs.take k).length).length ≤ 300000) := by
    show _ ≤ _
    rw [List.length_append, wordsTo_len, HLTK.out]
    have := idents_le (bs.take k) k
    omega
  have HPC := hid (words_pieces F hexOf bs k (by omega) ss)
  obtain ⟨n, hnb⟩ : ∃ n, n = bs.length := ⟨_, rfl⟩
  have HNB := hid hnb
  rw [← hnb] at hm d2 hk ⊢
  clear hnb
  by_cases hkn : k = n
  · subst hkn
    go_wp2_with fail
    refine (buildN _ (bs.drop k) _ _ w9 w3.heap.size (by have := HLD.out; have := HNB.out; omega) (by omega) (by omega) (HDR.out _ (.inr HNB.out))).mono ?_
    rintro e w10 ⟨⟨ap5, cp5, rfl, hptr5⟩, hb10⟩
    have HO10 := hid (own_below HO4.out hb10)
    have HB10 : Hid (Below w6.heap.size w6 w10) := HB9.out.trans (hb10.mono hs69)
    have HPT5 := hid hptr5
    have hs610 := HB10.out.size
    clear hb10 hptr5
    go_wp2_with fail
    refine (appendN F w6.heap.size v4 _ ap5 (bs.drop k) _ cp5 w10 (by have := HLD.out; have := HNB.out; omega) (tape_below HF6.out HB10.out) (by omega) HO10.out HPT5.out (by omega) HLT.out HIDD.out).mono ?_
    rintro e w11 ⟨⟨v5, rfl, hown5⟩, hb11⟩
    rw [HPC.out] at hown5
    have HB11 : Hid (Below w6.heap.size w6 w11) := HB10.out.trans hb11
    obtain ⟨a5, c5, rfl, hlc5, hw5, hx5⟩ := own_form hown5
    obtain ⟨a2, c2, rfl, hlc2, hw2, hx2⟩ := own_form (own_below HO2.out HB11.out)
    have hle : ss.length ≤ (ss ++ wordsTo F hexOf bs bs.length).length := by rw [List.length_append]; omega
    have hlen : (ss ++ wordsTo F hexOf bs bs.length).length = ss.length + (2 * k + idents bs k) := by rw [List.length_append, wordsTo_len, ← HNB.out]
    have hidl := idents_le bs k
    have HW2T := hid hw2.take
    have HC0 := hid (HS6.out.below (HB11.out.mono hs36)).wcells
    have HFIN : Hid (Below w0.heap.size w0 w11) := (HN3.out.trans (HB6.out.mono HN3.out.size)).trans (HB11.out.mono (by have := HN3.out.size; omega))
    have HCI := hid (countN a1 bs k k w11 w3.heap.size HNB.out.symm (HBR6.out.below (HB11.out.mono hs36)) (by omega))
    clear hx5 hx2 hb11 hown5 HO2 HO10 HB10 HPT5 HB11 HPC HLT HLD HDR HIDD HF9 HBR9 HO4 HB9 HF6 HBR6 HS6
    generalize idents bs k = y at *
    generalize (ss ++ wordsTo F hexOf bs bs.length) = ww at *
    have HW2 := hid hw2
    have HW5 := hid hw5
    clear hw2 hw5
    obtain ⟨L, hL⟩ : ∃ L, L = ww.length := ⟨_, rfl⟩
    have HLW := hid hL
    rw [← hL] at hlen hle hlc5 hlc2 ⊢
    have hcut : (ss.length : Int) ≤ c2 := by omega
    have hcut0 : 0 ≤ (ss.length : Int) := by omega
    have hLb : L ≤ 1000000 := by omega
    have HLEN := hid hlen
    have HLE := hid hle
    clear hL hlen hle
    go_wp2_with fail
    refine HCI.out.mono ?_
    rintro e w12 ⟨rfl, rfl⟩
    go_wp2_with fail
    refine (sameN a2 a0 ss ss.length c2 c0 _ rfl (by omega) HW2T.out HC0.out).mono ?_
    rintro e w13 ⟨rfl, q1, hw13⟩
    have HW13 := hid hw13
    clear hw13
    go_wp2_with fail
    refine (sameN a5 a2 ww L c5 c2 w13 HLW.out.symm hLb (by rw [HW13.out]; exact HW5.out) (by rw [HW13.out]; exact HW2.out)).mono ?_
    rintro e w14 ⟨rfl, q2, hw14⟩
    have HW14 := hid hw14
    clear hw14
    go_wp2_with fail
    go_ret
    refine ⟨rfl, ?_⟩
    rw [HW14.out, HW13.out]
    exact below_drewN (below_drewN HFIN.out q1) q2
    rename_i hne
    exact absurd (by have := HLEN.out; omega) hne
  · have hkl : k < n := by omega
    go_wp2_with fail
    refine (buildN _ (bs.drop k) _ _ w9 w3.heap.size (by have := HLD.out; have := HNB.out; omega) (by omega) (by omega) (HDR.out _ (.inl rfl))).mono ?_
    rintro e w10 ⟨⟨ap5, cp5, rfl, hptr5⟩, hb10⟩
    have HO10 := hid (own_below HO4.out hb10)
    have HB10 : Hid (Below w6.heap.size w6 w10) := HB9.out.trans (hb10.mono hs69)
    have HPT5 := hid hptr5
    have hs610 := HB10.out.size
    clear hb10 hptr5
    go_wp2_with fail
    refine (appendN F w6.heap.size v4 _ ap5 (bs.drop k) _ cp5 w10 (by have := HLD.out; have := HNB.out; omega) (tape_below HF6.out HB10.out) (by omega) HO10.out HPT5.out (by omega) HLT.out HIDD.out).mono ?_
    rintro e w11 ⟨⟨v5, rfl, hown5⟩, hb11⟩
    rw [HPC.out] at hown5
    have HB11 : Hid (Below w6.heap.size w6 w11) := HB10.out.trans hb11
    obtain ⟨a5, c5, rfl, hlc5, hw5, hx5⟩ := own_form hown5
    obtain ⟨a2, c2, rfl, hlc2, hw2, hx2⟩ := own_form (own_below HO2.out HB11.out)
    have hle : ss.length ≤ (ss ++ wordsTo F hexOf bs bs.length).length := by rw [List.length_append]; omega
    have hlen : (ss ++ wordsTo F hexOf bs bs.length).length = ss.length + (2 * n + idents bs n) := by rw [List.length_append, wordsTo_len, ← HNB.out]
    have hidl := idents_le bs n
    have HW2T := hid hw2.take
    have HC0 := hid (HS6.out.below (HB11.out.mono hs36)).wcells
    have HFIN : Hid (Below w0.heap.size w0 w11) := (HN3.out.trans (HB6.out.mono HN3.out.size)).trans (HB11.out.mono (by have := HN3.out.size; omega))
    have HCI := hid (countN a1 bs n n w11 w3.heap.size HNB.out.symm (HBR6.out.below (HB11.out.mono hs36)) (by omega))
    clear hx5 hx2 hb11 hown5 HO2 HO10 HB10 HPT5 HB11 HPC HLT HLD HDR HIDD HF9 HBR9 HO4 HB9 HF6 HBR6 HS6
    generalize idents bs n = y at *
    generalize (ss ++ wordsTo F hexOf bs bs.length) = ww at *
    have HW2 := hid hw2
    have HW5 := hid hw5
    clear hw2 hw5
    obtain ⟨L, hL⟩ : ∃ L, L = ww.length := ⟨_, rfl⟩
    have HLW := hid hL
    rw [← hL] at hlen hle hlc5 hlc2 ⊢
    have hcut : (ss.length : Int) ≤ c2 := by omega
    have hcut0 : 0 ≤ (ss.length : Int) := by omega
    have hLb : L ≤ 1000000 := by omega
    have HLEN := hid hlen
    have HLE := hid hle
    clear hL hlen hle
    go_wp2_with fail
    refine HCI.out.mono ?_
    rintro e w12 ⟨rfl, rfl⟩
    go_wp2_with fail
    refine (sameN a2 a0 ss ss.length c2 c0 _ rfl (by omega) HW2T.out HC0.out).mono ?_
    rintro e w13 ⟨rfl, q1, hw13⟩
    have HW13 := hid hw13
    clear hw13
    go_wp2_with fail
    refine (sameN a5 a2 ww L c5 c2 w13 HLW.out.symm hLb (by rw [HW13.out]; exact HW5.out) (by rw [HW13.out]; exact HW2.out)).mono ?_
    rintro e w14 ⟨rfl, q2, hw14⟩
    have HW14 := hid hw14
    clear hw14
    go_wp2_with fail
    go_ret
    refine ⟨rfl, ?_⟩
    rw [HW14.out, HW13.out]
    exact below_drewN (below_drewN HFIN.out q1) q2
    rename_i hne
    exact absurd (by have := HLEN.out; omega) hne

end Go.Proofs.Qxb6605675aFmt
