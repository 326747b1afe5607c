/-
  Seat b6614579a: FnUnmadeLooksAtItsOwnIncarnationAlone (6): the walk.
-/
import Derived.Test.Qxb6614579aBytes
import Derived.Test.Qxb6614579aMaps
namespace Go.Proofs.Qxb6614579a
open Go.RowKit Go.Maps

/-- The pairs of inc among the first k, and the others. -/
def owTo (inc : ByteArray) (ss : List ByteArray) (zs : List Int) : Nat → ByteArray → Option Int
  | 0, _ => none
  | k + 1, s => if ss.getD k ByteArray.empty = inc then (if s = ss.getD k ByteArray.empty then some (zs.getD k 0) else owTo inc ss zs k s) else owTo inc ss zs k s
def otTo (inc : ByteArray) (ss : List ByteArray) (zs : List Int) : Nat → ByteArray → Option Int
  | 0, _ => none
  | k + 1, s => if ss.getD k ByteArray.empty = inc then otTo inc ss zs k s else (if s = ss.getD k ByteArray.empty then some (zs.getD k 0) else otTo inc ss zs k s)

theorem owTo_yes {inc : ByteArray} {ss : List ByteArray} {zs : List Int} {k : Nat} (h : ss.getD k ByteArray.empty = inc) : owTo inc ss zs (k + 1) = fun s => if s = ss.getD k ByteArray.empty then some (zs.getD k 0) else owTo inc ss zs k s := by
  funext s; show (if _ then _ else _) = _; rw [if_pos h]
theorem owTo_no {inc : ByteArray} {ss : List ByteArray} {zs : List Int} {k : Nat} (h : ¬ ss.getD k ByteArray.empty = inc) : owTo inc ss zs (k + 1) = owTo inc ss zs k := by
  funext s; show (if _ then _ else _) = _; rw [if_neg h]
theorem otTo_no {inc : ByteArray} {ss : List ByteArray} {zs : List Int} {k : Nat} (h : ¬ ss.getD k ByteArray.empty = inc) : otTo inc ss zs (k + 1) = fun s => if s = ss.getD k ByteArray.empty then some (zs.getD k 0) else otTo inc ss zs k s := by
  funext s; show (if _ then _ else _) = _; rw [if_neg h]
theorem otTo_yes {inc : ByteArray} {ss : List ByteArray} {zs : List Int} {k : Nat} (h : ss.getD k ByteArray.empty = inc) : otTo inc ss zs (k + 1) = otTo inc ss zs k := by
  funext s; show (if _ then _ else _) = _; rw [if_pos h]

theorem owTo_inc (inc : ByteArray) (ss : List ByteArray) (zs : List Int) : ∀ k, owTo inc ss zs k inc = lkTo ss zs k inc
  | 0 => rfl
  | k + 1 => by
    have ih := owTo_inc inc ss zs k
    unfold owTo lkTo
    rw [ih]
    by_cases h : ss.getD k ByteArray.empty = inc
    · rw [if_pos h]
    · rw [if_neg h, if_neg (fun e => h e.symm)]
theorem otTo_inc (inc : ByteArray) (ss : List ByteArray) (zs : List Int) : ∀ k, otTo inc ss zs k inc = none
  | 0 => rfl
  | k + 1 => by
    have ih := otTo_inc inc ss zs k
    unfold otTo
    rw [ih]
    by_cases h : ss.getD k ByteArray.empty = inc
    · rw [if_pos h]
    · rw [if_neg h, if_neg (fun e => h e.symm)]

/-- What stands behind the loop: the struct o, the three maps, all that was there. -/
structure St (w1 w : World) (ob B0 B1 B2 n : Nat) (inc : ByteArray) (sy ma : Int) (f fo ft : ByteArray → Option Int) : Prop where
  bel : Below w1.heap.size w1 w
  lt : ob < w.heap.size
  o0 : w.cell? ⟨ob, 0, none⟩ = some (.string inc)
  o1 : w.cell? ⟨ob, 0 + 1, none⟩ = some (.int .u64 sy)
  o2 : w.cell? ⟨ob, 0 + 2, none⟩ = some (.int .u64 ma)
  v : Ver w B0 n f
  vo : Ver w B1 n fo
  vt : Ver w B2 n ft

theorem St.below {w1 w w' : World} {ob B0 B1 B2 n : Nat} {inc : ByteArray} {sy ma : Int} {f fo ft : ByteArray → Option Int} (h : St w1 w ob B0 B1 B2 n inc sy ma f fo ft) (hb : Below w.heap.size w w') : St w1 w' ob B0 B1 B2 n inc sy ma f fo ft := by
  obtain ⟨a, b, c, d, e, x, y, z⟩ := h
  exact ⟨a.trans (hb.mono a.size), Nat.lt_of_lt_of_le b hb.size, (hb.cell (p := ⟨ob, 0, none⟩) b).trans c, (hb.cell (p := ⟨ob, 0 + 1, none⟩) b).trans d, (hb.cell (p := ⟨ob, 0 + 2, none⟩) b).trans e, x.below hb x.lt, y.below hb y.lt, z.below hb z.lt⟩
theorem St.alloc {w1 w : World} {ob B0 B1 B2 n : Nat} {inc : ByteArray} {sy ma : Int} {f fo ft : ByteArray → Option Int} (h : St w1 w ob B0 B1 B2 n inc sy ma f fo ft) (o : Obj) : St w1 (w.alloc o) ob B0 B1 B2 n inc sy ma f fo ft :=
  h.below ((Below.refl _ _).alloc (Nat.le_refl _) _)

theorem up_yes (inc : ByteArray) (ma : Int) (x : Option Int) : decide (ma < (if inc = inc then some (ma + 1) else x).getD 0) = true := by
  rw [if_pos rfl]
  exact decide_eq_true (by show ma < ma + 1; omega)
theorem up_no (inc : ByteArray) (ma : Int) (x : Option Int) : decide (ma < (if inc = inc then some ma else x).getD 0) = false := by
  rw [if_pos rfl]
  exact decide_eq_false (by show ¬ ma < ma; omega)

set_option maxHeartbeats 1000000 in
theorem looks (a0 a1 : Option Addr) (ss : List ByteArray) (zs : List Int) (cap0 cap1 : Nat) (inc : ByteArray) (sy ma : Int) (w : World) (hs : Strs w.heap.size w a0 ss) (hz : Words w.heap.size w a1 zs) (hi : inc.size ≤ maxLen) (hm0 : 0 ≤ ma) (hm1 : ma ≤ 18446744073709551615) :
    Calls Try.prog 6 #[.slice a0 ss.length cap0, .slice a1 zs.length cap1, .string inc, .int .u64 sy, .int .u64 ma] w fun e w' => e = .returned (.bool true) ∧ Below w.heap.size w w' := by
  have HS : Hid (Strs w.heap.size w a0 ss) := hs
  have HZ : Hid (Words w.heap.size w a1 zs) := hz
  have HI : Hid (inc.size ≤ maxLen) := hi
  clear hs hz hi
  have hmm := @run_makeMap Try.prog
  by_cases hl0 : 4096 < (ss.length : Int)
  · go_enter Try.func6, Try.ntmps6
    go_wp2_with fail
    refine (bytes26 a0 a1 ss zs cap0 cap1 inc sy ma _ _ HS.out HZ.out HI.out).mono ?_
    rintro e w1 ⟨⟨b, rfl⟩, rfl⟩
    cases b
    all_goals
      go_wp2
      go_ret
      exact ⟨rfl, Below.refl _ _⟩
  by_cases hl1 : 4096 < (zs.length : Int)
  · go_enter Try.func6, Try.ntmps6
    go_wp2_with fail
    refine (bytes26 a0 a1 ss zs cap0 cap1 inc sy ma _ _ HS.out HZ.out HI.out).mono ?_
    rintro e w1 ⟨⟨b, rfl⟩, rfl⟩
    cases b
    all_goals
      go_wp2
      go_ret
      exact ⟨rfl, Below.refl _ _⟩
  have hd0 : decide (4096 < (ss.length : Int)) = false := by simpa using hl0
  have hd1 : decide (4096 < (zs.length : Int)) = false := by simpa using hl1
  go_enter Try.func6, Try.ntmps6
  go_wp2_with fail
  refine (bytes26 a0 a1 ss zs cap0 cap1 inc sy ma _ _ HS.out HZ.out HI.out).mono ?_
  rintro e w1 ⟨⟨b, rfl⟩, rfl⟩
  cases b
  · go_wp2
    go_ret
    exact ⟨rfl, Below.refl _ _⟩
  go_wp2_with fail
  refine (unmadeBytes a0 a1 ss zs cap0 cap1 inc _ _ HS.out HZ.out HI.out).mono ?_
  rintro e w1 ⟨⟨r, rfl⟩, rfl⟩
  by_cases hr : 1048576 < r
  · go_wp2
    go_ret
    exact ⟨rfl, Below.refl _ _⟩
  have hdr : decide (1048576 < r) = false := by simpa using hr
  go_wp2_with fail
  refine (version a0 a1 ss zs cap0 cap1 _ _ (Nat.le_refl _) HS.out HZ.out).mono ?_
  rintro e w2 ⟨rfl, hv2, hb2⟩
  go_wp2_with fail
  obtain ⟨n, hn⟩ : ∃ n, n = min ss.length zs.length := ⟨_, rfl⟩
  have HN : Hid (n = min ss.length zs.length) := hn
  have hsn : n ≤ ss.length := by omega
  have hzn : n ≤ zs.length := by omega
  rw [← hn] at hv2
  clear hn
  have hlt2 := hv2.lt
  refine (unmade inc sy ma w1.heap.size n (lkTo ss zs n) _ (hv2.alloc _) HI.out).mono ?_
  rintro e w3 ⟨rfl, hb3⟩
  have HG : Hid (decide (ma < (owTo inc ss zs n inc).getD 0) = decide (ma < (lkTo ss zs n inc).getD 0)) := by rw [owTo_inc]; exact rfl
  have HT : Hid (decide (ma < (otTo inc ss zs n inc).getD 0) = false) := by rw [otTo_inc]; show decide (ma < 0) = false; simp; omega
  obtain ⟨g, hg⟩ : ∃ g, g = decide (ma < (lkTo ss zs n inc).getD 0) := ⟨_, rfl⟩
  rw [← hg] at HG
  rw [← hg]
  have HGL : Hid (g = decide (ma < (lkTo ss zs n inc).getD 0)) := hg
  clear hg
  have hsz3 : w2.heap.size + 1 ≤ w3.heap.size := by have := hb3.size; simp at this; omega
  have hv3 : Ver w3 w1.heap.size n (lkTo ss zs n) := (hv2.alloc _).below hb3 (by simp; omega)
  have o0 : w3.cell? ⟨w2.heap.size, 0, none⟩ = some (.string inc) := (hb3.cell (p := ⟨w2.heap.size, 0, none⟩) (by simp)).trans (by simp)
  have o1 : w3.cell? ⟨w2.heap.size, 0 + 1, none⟩ = some (.int .u64 sy) := (hb3.cell (p := ⟨w2.heap.size, 0 + 1, none⟩) (by simp)).trans (by simp)
  have o2 : w3.cell? ⟨w2.heap.size, 0 + 2, none⟩ = some (.int .u64 ma) := (hb3.cell (p := ⟨w2.heap.size, 0 + 2, none⟩) (by simp)).trans (by simp)
  have hb13 : Below w1.heap.size w1 w3 := (hb2.alloc (by have := hb2.size; omega) _).trans (hb3.mono (by simp; omega))
  have H3 : Hid (Ver w3 w1.heap.size n (lkTo ss zs n) ∧ Below w1.heap.size w1 w3 ∧ w3.cell? ⟨w2.heap.size, 0, none⟩ = some (.string inc) ∧ w3.cell? ⟨w2.heap.size, 0 + 1, none⟩ = some (.int .u64 sy) ∧ w3.cell? ⟨w2.heap.size, 0 + 2, none⟩ = some (.int .u64 ma)) := ⟨hv3, hb13, o0, o1, o2⟩
  clear hv3 o0 o1 o2 hb13 hb3 hv2 hb2
  go_wp2_with fail
  refine (min2 ss.length zs.length _).mono ?_
  rintro e w4 ⟨rfl, rfl⟩
  rw [← HN.out]
  go_wp2
  go_loopw [17] (fun i wr => ∃ k : Nat, k ≤ n ∧ i = .int .i64 k ∧ Ver wr w3.heap.size k (owTo inc ss zs k) ∧ Ver wr (w3.heap.size + 1) k (otTo inc ss zs k) ∧ Below w3.heap.size w3 wr) (fun i _ => n - (intOf i).toNat)
  case atStart => exact ⟨0, Nat.zero_le _, rfl, (Ver.made _).alloc _, by have := Ver.made (w3.alloc (.map #[] 0)); exact (by simpa using this : Ver _ _ 0 (fun _ => none)), ((Below.refl _ _).alloc (Nat.le_refl _) _).alloc (by simp) _⟩
  case round =>
    obtain ⟨k, hk, rfl, hown, hoth, hnx⟩ := hrel
    have hb1r : Below w1.heap.size w1 wr := H3.out.2.1.trans (hnx.mono (by omega))
    by_cases hlt : k < n
    · have hs2 := HS.out.below hb1r
      have hz2 := HZ.out.below hb1r
      obtain ⟨b0, off0, rfl, hb0, hc0⟩ := hs2.2.2 (by omega)
      obtain ⟨b1, off1, rfl, hb1, hc1⟩ := hz2.2.2 (by omega)
      have hc0 := hc0 k (by omega)
      have hc1 := hc1 k (by omega)
      by_cases heq : ss.getD k ByteArray.empty = inc
      · obtain ⟨w5, hup, hown2, hg⟩ := hown.drew.put Try.underlying31 (hs2.size k) (hz2.wf k) (by unfold maxLen; omega)
        rw [← owTo_yes heq] at hown2
        have hoth2 := (hoth.drew.grown hg (by simp)).mono (Nat.le_succ k)
        rw [← otTo_yes heq] at hoth2
        rw [heq] at hc0 hup
        generalize zs.getD k 0 = z at hc1 hup
        have HX : Hid (Ver w5 w3.heap.size (k + 1) (owTo inc ss zs (k + 1)) ∧ Ver w5 (w3.heap.size + 1) (k + 1) (otTo inc ss zs (k + 1)) ∧ Below w3.heap.size w3 w5) := ⟨hown2, hoth2, (hnx.drew).grown hg hnx.size (fun j hj => by cases hj; exact Nat.le_refl _)⟩
        clear hown2 hoth2 hg hown hoth hs2 hz2 hnx HS HZ hb1r heq H3
        go_wp2
        go_region
        all_goals
          go_wp2
          go_roundw
          case rel => exact ⟨k + 1, by omega, by go_num, HX.out.1, HX.out.2.1, HX.out.2.2⟩
          case measure => simp [intOf]; omega
      · obtain ⟨w5, hup, hoth2, hg⟩ := hoth.drew.put Try.underlying31 (hs2.size k) (hz2.wf k) (by unfold maxLen; omega)
        rw [← otTo_no heq] at hoth2
        have hown2 := (hown.drew.grown hg (by simp)).mono (Nat.le_succ k)
        rw [← owTo_no heq] at hown2
        generalize ss.getD k ByteArray.empty = s at hc0 hup heq
        generalize zs.getD k 0 = z at hc1 hup
        have HX : Hid (Ver w5 w3.heap.size (k + 1) (owTo inc ss zs (k + 1)) ∧ Ver w5 (w3.heap.size + 1) (k + 1) (otTo inc ss zs (k + 1)) ∧ Below w3.heap.size w3 w5) := ⟨hown2, hoth2, (hnx.drew).grown hg hnx.size (fun j hj => by cases hj; omega)⟩
        clear hown2 hoth2 hg hown hoth hs2 hz2 hnx HS HZ hb1r H3
        have hne := str_ne heq
        clear heq
        go_wp2
        go_region
        all_goals
          go_wp2
          go_roundw
          case rel => exact ⟨k + 1, by omega, by go_num, HX.out.1, HX.out.2.1, HX.out.2.2⟩
          case measure => simp [intOf]; omega
    · have : k = n := by omega
      subst this
      have st : St w1 wr w2.heap.size w1.heap.size w3.heap.size (w3.heap.size + 1) k inc sy ma (lkTo ss zs k) (owTo inc ss zs k) (otTo inc ss zs k) := by
        obtain ⟨hv3, hb13, o0, o1, o2⟩ := H3.out
        have hszr := hown.lt
        exact ⟨hb1r, by omega, (hnx.cell (p := ⟨w2.heap.size, 0, none⟩) (by simp; omega)).trans o0, (hnx.cell (p := ⟨w2.heap.size, 0 + 1, none⟩) (by simp; omega)).trans o1, (hnx.cell (p := ⟨w2.heap.size, 0 + 2, none⟩) (by simp; omega)).trans o2, hv3.below hnx (by omega), hown, hoth⟩
      clear hown hoth hnx hb1r H3 hk hlt
      go_wp2_with fail
      have s5 := st.alloc (Obj.cells #[Value.string inc, Value.int IntKind.u64 0, Value.int IntKind.u64 ma] 47)
      clear st
      refine (unmade inc 0 ma w1.heap.size k (lkTo ss zs k) _ s5.v HI.out).mono ?_
      rintro e w5 ⟨rfl, hb5⟩
      rw [← HGL.out]
      have s6 := s5.below hb5
      clear s5 hb5
      obtain ⟨o0, o1, o2⟩ := And.intro s6.o0 (And.intro s6.o1 s6.o2)
      go_wp2_with fail
      refine (unmade inc sy ma w3.heap.size k (owTo inc ss zs k) _ s6.vo HI.out).mono ?_
      rintro e w6 ⟨rfl, hb6⟩
      rw [HG.out]
      have s7 := s6.below hb6
      clear s6 hb6 o0 o1 o2
      obtain ⟨o0, o1, o2⟩ := And.intro s7.o0 (And.intro s7.o1 s7.o2)
      go_wp2_with fail
      refine (unmade inc sy ma (w3.heap.size + 1) k (otTo inc ss zs k) _ s7.vt HI.out).mono ?_
      rintro e w7 ⟨rfl, hb7⟩
      rw [HT.out]
      have s8 := s7.below hb7
      clear s7 hb7 o0 o1 o2
      by_cases hmx : ma = 18446744073709551615
      · subst hmx
        go_wp2
        go_ret
        exact ⟨rfl, s8.bel⟩
      have hlm : ma < 18446744073709551615 := by omega
      have hlm2 : (ma != 18446744073709551615) = true := by simpa using hmx
      clear hmx
      go_wp2_with fail
      refine (version a0 a1 ss zs cap0 cap1 _ w1.heap.size s8.bel.size (HS.out.below s8.bel) (HZ.out.below s8.bel)).mono ?_
      rintro e w8 ⟨rfl, hv8, hb8⟩
      have hlt8 := hv8.lt
      obtain ⟨w9, hup, hv9, hg9⟩ := hv8.put Try.underlying31 HI.out (v := ma + 1) (WalkArith.wf_u64 ⟨by omega, by omega⟩) (by unfold maxLen; omega)
      have hb9 := hb8.grown hg9 (by omega) (fun j hj => by cases hj; exact Nat.le_refl _)
      have s9 := s8.below hb9
      clear s8 hv8 hb8 hg9 hb9
      go_wp2_with fail
      refine (version a0 a1 ss zs cap0 cap1 _ w1.heap.size s9.bel.size (HS.out.below s9.bel) (HZ.out.below s9.bel)).mono ?_
      rintro e w10 ⟨rfl, hv10, hb10⟩
      have hlt10 := hv10.lt
      obtain ⟨w11, hup2, hv11, hg11⟩ := hv10.put Try.underlying31 HI.out (v := ma) (WalkArith.wf_u64 ⟨by omega, by omega⟩) (by unfold maxLen; omega)
      have hb11 := hb10.grown hg11 (by omega) (fun j hj => by cases hj; exact Nat.le_refl _)
      have s11 := s9.below hb11
      have hr11 := hv9.below hb11 hv9.lt
      clear s9 hv10 hb10 hg11 hb11 hv9 hup
      obtain ⟨o0, o1, o2⟩ := And.intro s11.o0 (And.intro s11.o1 s11.o2)
      go_wp2_with fail
      refine (unmade inc sy ma w7.heap.size _ _ _ hr11 HI.out).mono ?_
      rintro e w12 ⟨rfl, hb12⟩
      have ht12 : decide (ma < (if inc = inc then some (ma + 1) else lkTo ss zs (min ss.length zs.length) inc).getD 0) = true := up_yes _ _ _
      rw [ht12]
      have s12 := s11.below hb12
      have hl12 := hv11.below hb12 hv11.lt
      clear s11 hv11 hb12 hr11 o0 o1 o2 ht12 hup2
      obtain ⟨o0, o1, o2⟩ := And.intro s12.o0 (And.intro s12.o1 s12.o2)
      go_wp2_with fail
      refine (unmade inc sy ma w9.heap.size _ _ _ hl12 HI.out).mono ?_
      rintro e w13 ⟨rfl, hb13⟩
      have ht13 : decide (ma < (if inc = inc then some ma else lkTo ss zs (min ss.length zs.length) inc).getD 0) = false := up_no _ _ _
      rw [ht13]
      have hfin := (s12.below hb13).bel
      clear s12 hl12 hb13 o0 o1 o2 ht13
      go_wp2
      go_ret
      exact ⟨rfl, hfin⟩

end Go.Proofs.Qxb6614579a
