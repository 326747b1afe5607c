/-
  Seat b6614579a: the search itself with a 'through' that asks a set: implies$1 (41), ZZImpliesThrough$1 (37); zzSet (18).
-/
import Derived.Test.Qxb6614579aImplies
namespace Go.Proofs.Qxb6614579a
open Go.RowKit Go.Maps

theorem inTo_succ (ss : List ByteArray) (k : Nat) : (fun x => if x = ss.getD k ByteArray.empty then true else inTo ss x k) = fun x => inTo ss x (k + 1) := by
  funext x
  show _ = if ss.getD k ByteArray.empty = x then true else inTo ss x k
  by_cases e : x = ss.getD k ByteArray.empty
  · rw [if_pos e, if_pos e.symm]
  · rw [if_neg e, if_neg (fun h => e h.symm)]

set_option maxHeartbeats 400000 in
theorem zzSet (a0 : Option Addr) (ss : List ByteArray) (cap0 : Nat) (w : World) (B : Nat) (hB : B ≤ w.heap.size) (hs : Strs B w a0 ss) :
    Calls Try.prog 18 #[.slice a0 ss.length cap0] w fun e w' => e = .returned (.map (some w.heap.size)) ∧ SetIs w' w.heap.size ss.length (fun x => inTo ss x ss.length) ∧ Below w.heap.size w w' := by
  have hmm := @run_makeMap Try.prog
  have hn1 := hs.2.1
  have HS := hid hs
  clear hs
  unfold maxLen at hn1
  go_enter Try.func18, Try.ntmps18
  go_wp2
  go_loopw [4] (fun i wr => ∃ k : Nat, k ≤ ss.length ∧ i = .int .i64 k ∧ SetIs wr w.heap.size k (fun x => inTo ss x k) ∧ Below w.heap.size w wr) (fun i _ => ss.length - (intOf i).toNat)
  case atStart => exact ⟨0, Nat.zero_le _, rfl, SetIs.made _, (Below.refl _ _).alloc (Nat.le_refl _) _⟩
  case round =>
    obtain ⟨k, hk, rfl, hown, hnx⟩ := hrel
    by_cases hlt : k < ss.length
    · have hs2 := HS.out.below (hnx.mono hB)
      obtain ⟨b0, off0, rfl, hb0, hc0'⟩ := hs2.2.2 (by omega)
      have hc0 := hc0' k (by omega)
      obtain ⟨w2, hup, hown2, hg⟩ := hown.put (hs2.size k) (by unfold maxLen; omega)
      rw [inTo_succ] at hown2
      have HX := hid (And.intro hown2 (hnx.grown hg hnx.size (fun j hj => by cases hj; exact Nat.le_refl _)))
      clear hown2 hg hown hs2 hnx HS hc0'
      generalize ss.getD k ByteArray.empty = s at hc0 hup
      go_wp2
      go_roundw
      case rel => exact ⟨k + 1, by omega, by go_num, HX.out.1, HX.out.2⟩
      case measure => simp [intOf]; omega
    · have : k = ss.length := by omega
      subst this
      go_wp2
      go_ret
      exact ⟨rfl, hown, hnx⟩

theorem inSet (s : ByteArray) (qb Q c : Nat) (M : ByteArray → Bool) (w : World) (hs : s.size ≤ maxLen) (hq : w.cell? ⟨qb, 0, none⟩ = some (.map (some Q))) (hset : SetIs w Q c M) :
    Calls Try.prog 37 #[.string s, .pointer (some ⟨qb, 0, none⟩)] w fun e w' => e = .returned (.bool (M s)) ∧ w' = w := by
  have hl := hset.look hs
  clear hset
  go_enter Try.func37, Try.ntmps37
  go_wp2
  go_ret
  exact ⟨rfl, rfl⟩

def thv (qb : Nat) : Value := .func (.func 37) #[] #[.pointer (some ⟨qb, 0, none⟩)]

structure EnvT (w : World) (lb sb vb tb fb L B S V n qb Q cq : Nat) (M : ByteArray → Bool) (g : ByteArray → Option Nat) (E : ByteArray → ByteArray → Option Int) (f : ByteArray → Option Int) : Prop where
  env : Env w lb sb vb tb fb L B S V n (.func (.func 37) #[] #[.pointer (some ⟨qb, 0, none⟩)]) g E f
  cell : w.cell? ⟨qb, 0, none⟩ = some (.map (some Q))
  set : SetIs w Q cq M
  nq : qb ≠ S
  nQ : Q ≠ S

theorem EnvT.grown {w w' : World} {lb sb vb tb fb L B S V n qb Q cq : Nat} {M : ByteArray → Bool} {g : ByteArray → Option Nat} {E : ByteArray → ByteArray → Option Int} {f : ByteArray → Option Int} (h : EnvT w lb sb vb tb fb L B S V n qb Q cq M g E f) (hg : w.grownBy w' (some S)) : EnvT w' lb sb vb tb fb L B S V n qb Q cq M g E f :=
  ⟨h.env.grown hg, hg.cell h.cell (fun e => h.nq (Option.some.inj e)), h.set.grown hg (fun e => h.nQ (Option.some.inj e)), h.nq, h.nQ⟩

theorem q70f (w : World) (qb : Nat) : (binOp .eql 70 (.func (.func 37) #[] #[.pointer (some ⟨qb, 0, none⟩)]) .nilFunc).run Try.prog w = .ok (.bool false) w := by kernel_rfl

set_option maxHeartbeats 1000000 in
theorem followsT (lb sb vb tb fb L B S V n qb Q cq : Nat) (M : ByteArray → Bool) (g : ByteArray → Option Nat) (E : ByteArray → ByteArray → Option Int) (f : ByteArray → Option Int) (ts : List ByteArray) (T : Nat) (hT : T ≤ 4096) (hE : ∀ u v x, E u v = some x → v ∈ ts) (m : Nat) :
    ∀ (node : ByteArray) (sq : Int) (X : ByteArray → Bool) (c : Nat) (w : World), node.size ≤ maxLen → EnvT w lb sb vb tb fb L B S V n qb Q cq M g E f → SetIs w S c X → c + cnt ts X ≤ T → cnt ts X ≤ m →
    Calls Try.prog 41 #[.agg #[.string node, .int .u64 sq], .pointer (some ⟨lb, 0, none⟩), .pointer (some ⟨sb, 0, none⟩), .pointer (some ⟨vb, 0, none⟩), .pointer (some ⟨tb, 0, none⟩), .pointer (some ⟨fb, 0, none⟩)] w fun e w' =>
      ∃ b Y c', e = .returned (.bool b) ∧ w.grownBy w' (some S) ∧ SetIs w' S c' Y ∧ c' + cnt ts Y ≤ T ∧ Fol E (fun t => decide (0 < (f t).getD 0) && M t) node sq X b Y := by
  induction m using Nat.strongRecOn with
  | ind m ih =>
    intro node sq X c w hnode henv hset hc hm
    have hl1 := fun o => ((henv.env.lin.grown (World.grownBy_alloc w o none) (fun j hj => by cases hj)).out.look hnode)
    have hcl := fun o => cell_alloc henv.env.cl o
    have IH : Hid (∀ m', m' < m → ∀ (node : ByteArray) (sq : Int) (X : ByteArray → Bool) (c : Nat) (w : World), node.size ≤ maxLen → EnvT w lb sb vb tb fb L B S V n qb Q cq M g E f → SetIs w S c X → c + cnt ts X ≤ T → cnt ts X ≤ m' →
      Calls Try.prog 41 #[.agg #[.string node, .int .u64 sq], .pointer (some ⟨lb, 0, none⟩), .pointer (some ⟨sb, 0, none⟩), .pointer (some ⟨vb, 0, none⟩), .pointer (some ⟨tb, 0, none⟩), .pointer (some ⟨fb, 0, none⟩)] w fun e w' =>
        ∃ b Y c', e = .returned (.bool b) ∧ w.grownBy w' (some S) ∧ SetIs w' S c' Y ∧ c' + cnt ts Y ≤ T ∧ Fol E (fun t => decide (0 < (f t).getD 0) && M t) node sq X b Y) := ih
    clear ih
    rcases hgn : g node with _ | b
    · rw [hgn] at hl1
      have hrg := fun o => run_range_nilMap (P := Try.prog) (w.alloc o) 30 9 24 Try.underlying30
      have hnx : ∀ o ty, (Instr.next (.pointer (some ⟨(w.alloc o).heap.size, 0, none⟩)) false ty).run Try.prog ((w.alloc o).alloc (.mapIter none 0 #[] 0)) = _ := fun o ty => run_next_nilMap _ ty 0 0 #[]
      have e1 : ∀ o, (w.alloc o).heap.size = w.heap.size + 1 := by simp
      simp only [e1] at hrg hnx
      have hfol : Hid (Fol E (fun t => decide (0 < (f t).getD 0) && M t) node sq X false X) := (Mid.start E _ node sq X (fun _ => false) (fun v x hv => by rw [henv.env.lin.no node hgn v] at hv; cases hv)).done (fun _ => rfl)
      have HSET : Hid (SetIs w S c X) := hset
      clear henv hset IH hgn hE e1
      go_enter Try.func41, Try.ntmps41
      go_wp2
      refine wp_loop_rounds 1 ?_
      rw [rounds_succ]
      go_wp2
      go_ret
      exact ⟨false, X, c, rfl, (World.grownBy_alloc w _ _).trans (World.grownBy_alloc _ _ _), (HSET.out.alloc _).alloc _, hc, hfol.out⟩
    · rw [hgn] at hl1
      obtain ⟨D, hown, hD, hr⟩ := (henv.env.lin.at' node b hgn).2.2
      have HR : Hid (∀ s, Maps.has D (ky s) = (E node s).isSome ∧ D.atKey (ky s) (.lit (.int .u64 0)) = .lit (.int .u64 ((E node s).getD 0))) := hr
      clear hr
      have e1 : ∀ o, (w.alloc o).heap.size = w.heap.size + 1 := by simp
      go_enter Try.func41, Try.ntmps41
      go_wp2_with (first
        | (at_range; refine wpList_range_own _ rfl _ 30 rfl 9 24 law9 Try.underlying30 _ b n _ rfl (hown.alloc _) ?_; intro w0 hrg0 hg0 hs0)
        | go_in)
      go_frame
      rw [e1] at hrg0 hs0 ⊢
      clear hl1 hcl e1
      have hbd : b < B ∧ L < b := ⟨(henv.env.lin.at' node b hgn).2.1, (henv.env.lin.at' node b hgn).1⟩
      have hbS : b ≠ S := fun e => by have := henv.env.nL; omega
      have hbw := hown.lt
      have hSw := hset.lt
      have hgw0 : w.grownBy w0 (some S) := ((World.grownBy_alloc w _ _).trans (hg0.but _))
      have hd0 : w0.cell? ⟨w.heap.size, 0, none⟩ = some (.string node) := hg0.cell (by simp) (by simp)
      have hd1 : w0.cell? ⟨w.heap.size, 0 + 1, none⟩ = some (.int .u64 sq) := hg0.cell (by simp) (by simp)
      go_loopw [8] (fun _ wr => ∃ (left : Lit → Bool) (ct : Nat) (Y : ByteArray → Bool) (c' : Nat), wr.ranges Try.prog 9 (plainElem Try.prog 24) b (w.heap.size + 1) n D left ct ∧ w.grownBy wr (some S) ∧ w.heap.size + 2 ≤ wr.heap.size ∧ SetIs wr S c' Y ∧ c' + cnt ts Y ≤ T ∧
          Mid E (fun t => decide (0 < (f t).getD 0) && M t) node sq X Y (fun v => left (ky v)) ∧ wr.cell? ⟨w.heap.size, 0, none⟩ = some (.string node) ∧ wr.cell? ⟨w.heap.size, 0 + 1, none⟩ = some (.int .u64 sq))
        (fun _ wr => wr.rangeLeft b (w.heap.size + 1))
      case atStart =>
        exact ⟨_, _, X, c, hrg0, hgw0, by omega, (hset.alloc _).grown hg0 (by simp), hc, Mid.start E _ node sq X _ (fun v x hv => by show Maps.has D (ky v) = true; rw [(HR.out v).1, hv]; rfl), hd0, hd1⟩
      case round =>
        clear hd0 hd1 hgw0 hrg0 hg0 hs0
        obtain ⟨left, ct, Y, c', hrg, hgw, hszr, hsetr, hcr, hmid, hd0, hd1⟩ := hrel
        go_wp2_with (first
          | (at_next; refine wpList_next_ranges _ rfl _ rfl 9 law9 (plainElem Try.prog 24) Value.string (Value.int .u64) (fun key kl hk => by obtain ⟨x, hx, _⟩ := keyOf_string_inv hk; exact ⟨x, hx⟩) (fun v y hv => by obtain ⟨cc, rfl, _⟩ := plainElem_int_inv Try.underlying24 hv; exact ⟨cc, rfl⟩) b (w.heap.size + 1) n _ _ _ rfl hrg ?_ ?_)
          | go_in)
        · intro hc0 hl0
          go_wp2
          go_ret
          exact ⟨false, Y, c', rfl, hgw, hsetr, hcr, hmid.done (fun v => hl0 (ky v))⟩
        · intro x cc kl yd yp w2 cnt2 hkey hlk hv hat hrg2 hlt hg2 hs2 hen
          obtain ⟨x', ex, rfl, hxs⟩ := keyOf_string_inv hkey
          cases ex
          obtain ⟨c1, ec, ey, hwc⟩ := plainElem_int_inv Try.underlying24 hv
          cases ec
          have hEx : E node x = some cc := by
            have h1 : Maps.has D (ky x) = true := has_true_of_atKey hat
            have h2 := hat (.lit (.int .u64 0))
            rw [(HR.out x).1] at h1
            rw [(HR.out x).2] at h2
            cases hq : E node x with
            | none => rw [hq] at h1; cases h1
            | some q =>
              rw [hq] at h2
              cases ey
              simp at h2
              rw [h2]
          have HEX : Hid (E node x = some cc) := hEx
          have hgw2 : w.grownBy w2 (some S) := hgw.andThen hg2 (fun j hj => by cases hj; left; omega)
          have env2 := henv.grown hgw2
          have set2 := hsetr.grown hg2 (by simp; omega)
          have hd0' := hg2.cell hd0 (by simp)
          have hd1' := hg2.cell hd1 (by simp)
          have hleft : Hid (∀ v, left (ky v) = true → v = x ∨ (fun v => (fun z => left z && !z.sameKey (ky x)) (ky v)) v = true) := fun v hv => by
            by_cases e : v = x
            · exact .inl e
            · right
              show (left (ky v) && !(ky v).sameKey (ky x)) = true
              rw [hv, Maps.sameKey_ne (fun e1 => e (ky_inj e1))]
              rfl
          have HM : Hid (w2.rangeLeft b (w.heap.size + 1) < wr.rangeLeft b (w.heap.size + 1)) := by
            show _ < _
            rw [hrg2.left_eq, hrg.left_eq]; exact hlt
          have HM2 : Hid (cnt2 < wr.rangeLeft b (w.heap.size + 1)) := by
            show _ < _
            rw [hrg.left_eq]; exact hlt
          have hsz2 : w.heap.size + 2 ≤ w2.heap.size := by omega
          clear hEx hat hv ey hs2 hkey hd0 hd1 hsetr hg2 hrg hlt hlk hwc
          have hlk2 := set2.look hxs
          have ccl := env2.env.cl
          have ccs := env2.env.cs
          by_cases hlow : cc < sq
          · have hdl : decide (cc < sq) = true := decide_eq_true hlow
            have HP : Hid (Mid E (fun t => decide (0 < (f t).getD 0) && M t) node sq X Y (fun v => (fun z => left z && !z.sameKey (ky x)) (ky v))) := hmid.pass hleft.out (.inl (fun q hq => by rw [HEX.out] at hq; cases hq; omega))
            have HXX : Hid (SetIs w2 S c' Y ∧ w2.ranges Try.prog 9 (plainElem Try.prog 24) b (w.heap.size + 1) n D (fun z => left z && !z.sameKey (ky x)) cnt2 ∧ w.grownBy w2 (some S)) := ⟨set2, hrg2, hgw2⟩
            clear hmid set2 env2 hrg2 hgw2 hgw henv hset IH hleft HEX hlow hE HR hown hD
            go_wp2
            go_roundw
            case rel => exact ⟨_, cnt2, Y, c', HXX.out.2.1, HXX.out.2.2, hsz2, HXX.out.1, hcr, HP.out, hd0', hd1'⟩
            case measure => exact HM.out
          · have hdl : decide (cc < sq) = false := decide_eq_false hlow
            rcases hYx : Y x with _ | _
            · rw [hYx] at hlk2
              have hcl := cnt_lt Y x hYx ts (hE node x cc HEX.out)
              have hcx := cnt_le X Y hmid.sub ts
              obtain ⟨w3, hup, set3, hg3⟩ := set2.put hxs (by unfold maxLen; omega)
              have set3' : SetIs w3 S (c' + 1) (addOne Y x) := set3
              have hgw3 : w.grownBy w3 (some S) := hgw2.trans hg3
              have env3 := env2.grown hg3
              have hrg3 := hrg2.kept hg3 (fun e => hbS (Option.some.inj e)) (fun e => by have := Option.some.inj e; omega)
              have hd0'' := hg3.cell hd0' (by simp; omega)
              have hd1'' := hg3.cell hd1' (by simp; omega)
              have hvl := (env3.env.ver.look Try.underlying31 hxs).1
              have ccs3 := env3.env.cs
              have ccv3 := env3.env.cv
              have cct3 := env3.env.ct
              have ccf3 := env3.env.cf
              have HR1 : Hid (Reach E node sq x) := Reach.first HEX.out (by omega)
              clear set2 set3 hg3
              by_cases hp : 0 < (f x).getD 0
              · have hdp : decide (0 < (f x).getD 0) = true := decide_eq_true hp
                have hin := hid (inSet x qb Q cq M w3 hxs env3.cell env3.set)
                rcases hZx : M x with _ | _
                · have HG : Hid ((decide (0 < (f x).getD 0) && M x) = false) := by show _ = false; rw [hZx]; simp
                  rw [hZx] at hin
                  clear hZx
                  have q70 := q70f
                  have ih := IH.out (cnt ts (addOne Y x)) (by omega) x 1 (addOne Y x) (c' + 1) w3 hxs env3 set3' (by omega) (Nat.le_refl _)
                  have HIH := hid ih
                  have HMID : Hid (Mid E (fun t => decide (0 < (f t).getD 0) && M t) node sq X Y (fun v => left (ky v))) := hmid
                  have HXX : Hid (w.grownBy w3 (some S) ∧ w3.ranges Try.prog 9 (plainElem Try.prog 24) b (w.heap.size + 1) n D (fun z => left z && !z.sameKey (ky x)) cnt2) := ⟨hgw3, hrg3⟩
                  generalize (f x).getD 0 = p at hvl hp hdp
                  clear hmid env2 env3 hrg2 hrg3 hgw2 hgw3 hgw henv hset IH HEX hlow hE HR hown hD set3' hYx hp ih
                  go_wp2_with fail
                  refine hin.out.mono ?_
                  rintro e w4' ⟨rfl, hw4'⟩
                  subst hw4'
                  go_wp2_with fail
                  refine HIH.out.mono ?_
                  rintro e w4 ⟨b4, Z, c4, rfl, hg4, set4, hc4, hf4⟩
                  have hgw4 := HXX.out.1.trans hg4
                  have hrg4 := HXX.out.2.kept hg4 (fun e => hbS (Option.some.inj e)) (fun e => by have := Option.some.inj e; omega)
                  have hd04 := hg4.cell hd0'' (by simp; omega)
                  have hd14 := hg4.cell hd1'' (by simp; omega)
                  have hsz4 : w.heap.size + 2 ≤ w4.heap.size := by have := hg4.size; have := HXX.out.1.size; have := hrg4.lt; omega
                  cases b4
                  · have HP := HMID.out.into hleft.out HG.out hf4
                    have HHP := hid HP
                    have HXY := hid (And.intro hgw4 (And.intro hrg4 set4))
                    have HM4 : Hid (w4.rangeLeft b (w.heap.size + 1) < wr.rangeLeft b (w.heap.size + 1)) := by
                      show _ < _
                      rw [hrg4.left_eq]
                      have := HM2.out
                      exact this
                    clear hgw4 hrg4 hg4 set4 hf4 HP HMID hleft HG HR1 HIH HXX
                    go_wp2
                    go_roundw
                    case rel => exact ⟨_, cnt2, Z, c4, HXY.out.2.1, HXY.out.1, hsz4, HXY.out.2.2, hc4, HHP.out, hd04, hd14⟩
                    case measure => exact HM4.out
                  · have hF : Fol E (fun t => decide (0 < (f t).getD 0) && M t) node sq X true Z := HMID.out.hit ((sub_add Y x).trans hf4.1) (by obtain ⟨t, ht, hg⟩ := hf4.2.1 rfl; exact ⟨t, HR1.out.through ht, hg⟩)
                    have HHF := hid hF
                    have HXY := hid (And.intro hgw4 set4)
                    clear hgw4 hrg4 hg4 set4 hf4 HMID hleft HG HR1 HIH HXX hF
                    go_wp2
                    go_ret
                    exact ⟨true, Z, c4, rfl, HXY.out.1, HXY.out.2, hc4, HHF.out⟩
                · have HF : Hid (Fol E (fun t => decide (0 < (f t).getD 0) && M t) node sq X true (addOne Y x)) := hmid.hit (sub_add Y x) ⟨x, HR1.out, by show (decide (0 < (f x).getD 0) && M x) = true; rw [hdp, hZx]; rfl⟩
                  rw [hZx] at hin
                  clear hZx
                  have HXX : Hid (w.grownBy w3 (some S) ∧ SetIs w3 S (c' + 1) (addOne Y x)) := ⟨hgw3, set3'⟩
                  generalize (f x).getD 0 = p at hvl hp hdp
                  clear hmid env2 env3 hrg2 hrg3 hgw2 hgw3 hgw henv hset IH hleft HEX hlow hE HR hown hD set3' HR1 hYx hp
                  have q70 := q70f
                  go_wp2_with fail
                  refine hin.out.mono ?_
                  rintro e w4 ⟨rfl, hw4⟩
                  subst hw4
                  go_wp2_with fail
                  go_ret
                  exact ⟨true, addOne Y x, c' + 1, rfl, HXX.out.1, HXX.out.2, by omega, HF.out⟩
              · have hdp : decide (0 < (f x).getD 0) = false := decide_eq_false hp
                have HG : Hid ((decide (0 < (f x).getD 0) && M x) = false) := by show _ = false; rw [hdp]; rfl
                have ih := IH.out (cnt ts (addOne Y x)) (by omega) x 1 (addOne Y x) (c' + 1) w3 hxs env3 set3' (by omega) (Nat.le_refl _)
                have HIH := hid ih
                have HMID : Hid (Mid E (fun t => decide (0 < (f t).getD 0) && M t) node sq X Y (fun v => left (ky v))) := hmid
                have HXX : Hid (w.grownBy w3 (some S) ∧ w3.ranges Try.prog 9 (plainElem Try.prog 24) b (w.heap.size + 1) n D (fun z => left z && !z.sameKey (ky x)) cnt2) := ⟨hgw3, hrg3⟩
                generalize (f x).getD 0 = p at hvl hp hdp
                clear hmid env2 env3 hrg2 hrg3 hgw2 hgw3 hgw henv hset IH HEX hlow hE HR hown hD set3' hYx hp ih
                go_wp2_with fail
                refine HIH.out.mono ?_
                rintro e w4 ⟨b4, Z, c4, rfl, hg4, set4, hc4, hf4⟩
                have hgw4 := HXX.out.1.trans hg4
                have hrg4 := HXX.out.2.kept hg4 (fun e => hbS (Option.some.inj e)) (fun e => by have := Option.some.inj e; omega)
                have hd04 := hg4.cell hd0'' (by simp; omega)
                have hd14 := hg4.cell hd1'' (by simp; omega)
                have hsz4 : w.heap.size + 2 ≤ w4.heap.size := by have := hg4.size; have := HXX.out.1.size; have := hrg4.lt; omega
                cases b4
                · have HP := HMID.out.into hleft.out HG.out hf4
                  have HHP := hid HP
                  have HXY := hid (And.intro hgw4 (And.intro hrg4 set4))
                  have HM4 : Hid (w4.rangeLeft b (w.heap.size + 1) < wr.rangeLeft b (w.heap.size + 1)) := by
                    show _ < _
                    rw [hrg4.left_eq]
                    have := HM2.out
                    exact this
                  clear hgw4 hrg4 hg4 set4 hf4 HP HMID hleft HG HR1 HIH HXX
                  go_wp2
                  go_roundw
                  case rel => exact ⟨_, cnt2, Z, c4, HXY.out.2.1, HXY.out.1, hsz4, HXY.out.2.2, hc4, HHP.out, hd04, hd14⟩
                  case measure => exact HM4.out
                · have hF : Fol E (fun t => decide (0 < (f t).getD 0) && M t) node sq X true Z := HMID.out.hit ((sub_add Y x).trans hf4.1) (by obtain ⟨t, ht, hg⟩ := hf4.2.1 rfl; exact ⟨t, HR1.out.through ht, hg⟩)
                  have HHF := hid hF
                  have HXY := hid (And.intro hgw4 set4)
                  clear hgw4 hrg4 hg4 set4 hf4 HMID hleft HG HR1 HIH HXX hF
                  go_wp2
                  go_ret
                  exact ⟨true, Z, c4, rfl, HXY.out.1, HXY.out.2, hc4, HHF.out⟩
            · rw [hYx] at hlk2
              have HP : Hid (Mid E (fun t => decide (0 < (f t).getD 0) && M t) node sq X Y (fun v => (fun z => left z && !z.sameKey (ky x)) (ky v))) := hmid.pass hleft.out (.inr hYx)
              have HXX : Hid (SetIs w2 S c' Y ∧ w2.ranges Try.prog 9 (plainElem Try.prog 24) b (w.heap.size + 1) n D (fun z => left z && !z.sameKey (ky x)) cnt2 ∧ w.grownBy w2 (some S)) := ⟨set2, hrg2, hgw2⟩
              clear hmid set2 env2 hrg2 hgw2 hgw henv hset IH hleft HEX hlow hE HR hown hD hYx
              go_wp2
              go_roundw
              case rel => exact ⟨_, cnt2, Y, c', HXX.out.2.1, HXX.out.2.2, hsz2, HXX.out.1, hcr, HP.out, hd0', hd1'⟩
              case measure => exact HM.out

end Go.Proofs.Qxb6614579a
