/-
  Seat b6614579a: zzReachModel (14): the walk.
-/
import Derived.Test.Qxb6614579aModel
import Derived.Test.Qxb6614579aCells
import Derived.Test.Qxb6614579aImplies
import Derived.Test.Qxb6614579aLook
import Derived.Deep.QuietTactic
import Derived.BigQuiet
namespace Go.Proofs.Qxb6614579a
open Go.RowKit Go.Maps

def goalOf (ks : List ByteArray) (vs : List Int) (th : List ByteArray) (ut : Bool) (t : ByteArray) : Bool :=
  decide (0 < (lkTo ks vs (min ks.length vs.length) t).getD 0) && (!ut || inTo th t th.length)

/-- What the model's loops read and never write: all that was there, and the box of d. -/
structure Rd (w wr : World) (node : ByteArray) (sq : Int) : Prop where
  bel : Below w.heap.size w wr
  d0 : wr.cell? ⟨w.heap.size, 0, none⟩ = some (.string node)
  d1 : wr.cell? ⟨w.heap.size, 0 + 1, none⟩ = some (.int .u64 sq)
  sz : w.heap.size + 1 ≤ wr.heap.size

theorem Rd.below {w wr w' : World} {node : ByteArray} {sq : Int} {B : Nat} (h : Rd w wr node sq) (hb : Below B wr w') (hB : w.heap.size < B) : Rd w w' node sq :=
  ⟨h.bel.trans (hb.mono (by omega)), (hb.cell (p := ⟨w.heap.size, 0, none⟩) hB).trans h.d0, (hb.cell (p := ⟨w.heap.size, 0 + 1, none⟩) hB).trans h.d1, Nat.le_trans h.sz hb.size⟩
theorem Rd.drew {w wr : World} {node : ByteArray} {sq : Int} (h : Rd w wr node sq) : Rd w wr.drew node sq := ⟨h.bel.drew, h.d0, h.d1, h.sz⟩
theorem Rd.drewN {w wr : World} {node : ByteArray} {sq : Int} (h : Rd w wr node sq) (q : Nat) : Rd w (wr.drewN q) node sq :=
  ⟨⟨h.bel.os, h.bel.tape, h.bel.output, h.bel.size, h.bel.block⟩, h.d0, h.d1, h.sz⟩
theorem Rd.setCell {w wr : World} {node : ByteArray} {sq : Int} (h : Rd w wr node sq) {p : Addr} (hp : w.heap.size < p.block) (v : Value) : Rd w (wr.setCell p v) node sq :=
  h.below (B := w.heap.size + 1) ((Below.refl _ _).setCell (by omega) v) (by omega)
theorem Rd.alloc {w wr : World} {node : ByteArray} {sq : Int} (h : Rd w wr node sq) (o : Obj) : Rd w (wr.alloc o) node sq :=
  h.below (B := wr.heap.size) ((Below.refl _ _).alloc (Nat.le_refl _) o) (by have := h.sz; omega)
theorem Rd.grown {w wr w' : World} {node : ByteArray} {sq : Int} {b : Nat} (h : Rd w wr node sq) (hg : wr.grownBy w' (some b)) (hb : w.heap.size < b) : Rd w w' node sq :=
  h.below (B := w.heap.size + 1) ⟨hg.os, hg.tape, hg.output, hg.size, fun k hk => hg.block k (by have := h.sz; omega) (fun e => by have := Option.some.inj e; omega)⟩ (by omega)
theorem RowF.drewN {w : World} {b n : Nat} {F : Nat → Value} (h : RowF w b n F) (q : Nat) : RowF (w.drewN q) b n F := h
theorem SetIs.drewN {w : World} {B n : Nat} {X : ByteArray → Bool} (h : SetIs w B n X) (q : Nat) : SetIs (w.drewN q) B n X :=
  h.grown (row := none) ⟨rfl, rfl, rfl, Nat.le_refl _, fun _ _ _ => rfl⟩ (by simp)

theorem SetIs.setCell {w : World} {B n : Nat} {X : ByteArray → Bool} (h : SetIs w B n X) {p : Addr} (hp : B ≠ p.block) (v : Value) : SetIs (w.setCell p v) B n X := by
  obtain ⟨D, ⟨es, clock, h1, h2⟩, r⟩ := h
  exact ⟨D, ⟨es, clock, (Below.heap_setCell _ _ _ _ hp).trans h1, h2⟩, r⟩
theorem RowF.setOther {w : World} {b n : Nat} {F : Nat → Value} (h : RowF w b n F) {p : Addr} (hp : p.block ≠ b) (v : Value) : RowF (w.setCell p v) b n F := fun j hj =>
  ⟨(World.cell?_setCell_other _ _ _ _ (fun e => hp (by rw [e]))).trans (h j hj).1, (World.frozen?_setCell _ _ _ _).trans (h j hj).2⟩

/-- The array of the edges' numbers after a store. -/
theorem RowF.setInt {w : World} {b n i : Nat} {W : Nat → Int} (h : RowF w b n (fun j => .int .u64 (W j))) (hi : i < n) (x : Int) : RowF (w.setCell ⟨b, i, none⟩ (.int .u64 x)) b n (fun j => .int .u64 (if j = i then x else W j)) := by
  have := h.set hi (.int .u64 x)
  have e : (fun j => if j = i then Value.int .u64 x else .int .u64 (W j)) = fun j => .int .u64 (if j = i then x else W j) := by
    funext j
    by_cases e : j = i
    · rw [if_pos e, if_pos e]
    · rw [if_neg e, if_neg e]
  rw [e] at this
  exact this
theorem RowF.setTrue {w : World} {b n i : Nat} {T : Nat → Bool} (h : RowF w b n (fun j => .bool (T j))) (hi : i < n) : RowF (w.setCell ⟨b, i, none⟩ (.bool true)) b n (fun j => .bool (setAt T i j)) := by
  have := h.set hi (.bool true)
  have e : (fun j => if j = i then Value.bool true else .bool (T j)) = fun j => .bool (setAt T i j) := by
    funext j
    unfold setAt
    by_cases e : j = i
    · rw [if_pos e, if_pos e]
    · rw [if_neg e, if_neg e]
  rw [e] at this
  exact this

theorem not_may_a {fs : List ByteArray} {ev : Nat → Int} {node : ByteArray} {sq : Int} {X : ByteArray → Bool} {p : Nat} (h1 : ¬ (nth fs p = node ∧ sq ≤ ev p)) (h2 : X (nth fs p) = false) : ¬ may fs ev node sq X p := fun h => by
  rcases h with h | ⟨h, _⟩
  · exact h1 h
  · rw [h2] at h; cases h
theorem not_may_b {fs : List ByteArray} {ev : Nat → Int} {node : ByteArray} {sq : Int} {X : ByteArray → Bool} {p : Nat} (h1 : ¬ (nth fs p = node ∧ sq ≤ ev p)) (h2 : ¬ 1 ≤ ev p) : ¬ may fs ev node sq X p := fun h => by
  rcases h with h | ⟨_, h⟩
  · exact h1 h
  · exact h2 h

def bitOf : Value → Nat
  | .bool true => 1
  | _ => 0

theorem ed_first (fs ts : List ByteArray) (zs : List Int) (k : Nat) : edTo fs ts zs (k + 1) (nth fs k) (nth ts k) = some (zs.getD k 0) := by
  unfold edTo
  rw [if_pos ⟨rfl, rfl⟩]
theorem ed_hit {fs ts : List ByteArray} {zs : List Int} {k m : Nat} (h1 : nth fs m = nth fs k) (h2 : nth ts m = nth ts k) : edTo fs ts zs (m + 1) (nth fs k) (nth ts k) = some (zs.getD m 0) := by
  unfold edTo
  rw [if_pos ⟨h1.symm, h2.symm⟩]
theorem ed_miss {fs ts : List ByteArray} {zs : List Int} {k m : Nat} (h : ¬ (nth fs m = nth fs k ∧ nth ts m = nth ts k)) : edTo fs ts zs (m + 1) (nth fs k) (nth ts k) = edTo fs ts zs m (nth fs k) (nth ts k) := by
  rw [edTo]
  rw [if_neg (fun e => h ⟨e.1.symm, e.2.symm⟩)]

set_option maxHeartbeats 4000000 in
set_option maxRecDepth 100000 in
theorem reachModel (a0 a1 a2 a3 a4 a5 : Option Addr) (fs ts : List ByteArray) (zs : List Int) (ks : List ByteArray) (vs : List Int) (th : List ByteArray) (cap0 cap1 cap2 cap3 cap4 cap5 : Nat) (ut : Bool) (node : ByteArray) (sq : Int) (w : World) (B : Nat) (hB : B ≤ w.heap.size)
    (h0 : Strs B w a0 fs) (h1 : Strs B w a1 ts) (h2 : Words B w a2 zs) (h3 : Strs B w a3 ks) (h4 : Words B w a4 vs) (h5 : Strs B w a5 th) (hl : fs.length ≤ 4096) :
    Calls Try.prog 14 #[.slice a0 fs.length cap0, .slice a1 ts.length cap1, .slice a2 zs.length cap2, .slice a3 ks.length cap3, .slice a4 vs.length cap4, .slice a5 th.length cap5, .bool ut, .agg #[.string node, .int .u64 sq]] w fun e w' =>
      Tells e (Hits (edTo fs ts zs (min fs.length (min ts.length zs.length))) (goalOf ks vs th ut) node sq) ∧ Below w.heap.size w w' := by
  have hmm := @run_makeMap Try.prog
  have hn1 := h0.2.1
  have hn2 := h1.2.1
  have hn3 := h2.2.1
  obtain ⟨n, hn⟩ : ∃ n, n = min fs.length (min ts.length zs.length) := ⟨_, rfl⟩
  have hN : Hid (n = min fs.length (min ts.length zs.length)) := hn
  have hfn : n ≤ fs.length := by omega
  have htn : n ≤ ts.length := by omega
  have hzn : n ≤ zs.length := by omega
  have hn4 : n ≤ 4096 := by omega
  rw [← hn]
  clear hn
  have H0 := hid h0
  have H1 := hid h1
  have H2 := hid h2
  have H3 := hid h3
  have H4 := hid h4
  have H5 := hid h5
  clear h0 h1 h2 h3 h4 h5
  unfold maxLen at hn1 hn2 hn3
  have hm23 := make23 n hn4
  have hm69 := make69 n hn4
  go_enter Try.func14, Try.ntmps14
  go_wp2_with fail
  refine (min3 fs.length ts.length zs.length _).mono ?_
  rintro e w1 ⟨rfl, rfl⟩
  rw [← hN.out]
  go_wp2
  go_loopw [19] (fun i wr => ∃ (k : Nat) (W : Nat → Int), k ≤ n ∧ i = .int .i64 k ∧ Rd w wr node sq ∧ w.heap.size + 2 ≤ wr.heap.size ∧ RowF wr (w.heap.size + 1) n (fun j => .int .u64 (W j)) ∧ (∀ j, j < k → W j = evTo fs ts zs n j)) (fun i _ => n - (intOf i).toNat)
  case atStart =>
    have hrow := rowF_made (w.alloc (.cells #[.string node, .int .u64 sq] 34)) (.int .u64 0) n 24
    simp at hrow
    exact ⟨0, fun _ => 0, Nat.zero_le _, rfl, ⟨bel_alloc (bel_alloc (Below.refl _ _) _) _, by simp, by simp, by simp⟩, by simp, hrow, fun j hj => (by omega)⟩
  case round =>
    obtain ⟨k, W, hk, rfl, hrd, hsz, hrow, hW⟩ := hrel
    by_cases hlt : k < n
    · obtain ⟨wo, rfl⟩ : ∃ wo : World, wo = wr := ⟨_, rfl⟩
      have hz2 := H2.out.below (hrd.bel.mono hB)
      obtain ⟨b2, off2, rfl, hb2, hc2⟩ := hz2.2.2 (by omega)
      have hc2k := hc2 k (by omega)
      have hcw := hrow k hlt
      obtain ⟨hcw1, hcw2⟩ := hcw
      have HRD := hid hrd
      have HROW := hid hrow
      have HW := hid hW
      clear hrd hrow hW hz2 hc2
      generalize hzk : zs.getD k 0 = z at hc2k
      have HZK := hid hzk
      clear hzk
      go_wp2
      go_loopw [20] (fun j wr => ∃ (m : Nat) (W' : Nat → Int), k < m ∧ m ≤ n ∧ j = .int .i64 m ∧ Rd w wr node sq ∧ w.heap.size + 2 ≤ wr.heap.size ∧ RowF wr (w.heap.size + 1) n (fun j => .int .u64 (W' j)) ∧ (∀ j, j < k → W' j = evTo fs ts zs n j) ∧ W' k = (edTo fs ts zs m (nth fs k) (nth ts k)).getD 0) (fun j _ => n - (intOf j).toNat)
      case atStart =>
        exact ⟨k + 1, fun j => if j = k then z else W j, by omega, by omega, by go_num, HRD.out.setCell (by simp) _, by simp; omega, HROW.out.setInt hlt z, fun j hj => (by show (if j = k then z else W j) = _; rw [if_neg (by omega)]; exact HW.out j hj), (by rw [ed_first, HZK.out]; exact if_pos rfl)⟩
      case round =>
        obtain ⟨m, W', hkm, hmn, rfl, hrd, hsz', hrow, hW, hWk⟩ := hrel
        by_cases hlt' : m < n
        · have hs0 := H0.out.below (hrd.bel.mono hB)
          have hs1 := H1.out.below (hrd.bel.mono hB)
          have hs2 := H2.out.below (hrd.bel.mono hB)
          obtain ⟨b0, off0, rfl, hb0, hc0⟩ := hs0.2.2 (by omega)
          obtain ⟨b1, off1, rfl, hb1, hc1⟩ := hs1.2.2 (by omega)
          obtain ⟨b2', off2', eb2, _, hc2⟩ := hs2.2.2 (by omega)
          cases eb2
          have c0k := hc0 k (by omega)
          have c0m := hc0 m (by omega)
          have c1k := hc1 k (by omega)
          have c1m := hc1 m (by omega)
          have c2m := hc2 m (by omega)
          obtain ⟨cw1, cw2⟩ := hrow k hlt
          have ikm : (k : Int) < (fs.length : Int) := by omega
          have imm : (m : Int) < (fs.length : Int) := by omega
          have ikt : (k : Int) < (ts.length : Int) := by omega
          have imt : (m : Int) < (ts.length : Int) := by omega
          have HRD' := hid hrd
          have HROW' := hid hrow
          have HW' := hid hW
          have HWK := hid hWk
          clear hc0 hc1 hc2 hrd hrow hW hWk hs0 hs1 hs2 hcw1 hcw2 hc2k
          by_cases e1 : nth fs m = nth fs k
          · by_cases e2 : nth ts m = nth ts k
            · have HE := hid (ed_hit (fs := fs) (ts := ts) (zs := zs) (k := k) (m := m) e1 e2)
              have e1' : fs.getD m ByteArray.empty = fs.getD k ByteArray.empty := e1
              have e2' : ts.getD m ByteArray.empty = ts.getD k ByteArray.empty := e2
              rw [e1'] at c0m
              rw [e2'] at c1m
              clear e1 e2 e1' e2'
              generalize fs.getD k ByteArray.empty = s at c0k c0m
              generalize ts.getD k ByteArray.empty = t at c1k c1m
              generalize zs.getD m 0 = zm at c2m HE
              go_wp2_with fail
              go_quiet (fail)
              go_wp2
              go_roundw
              case rel => exact ⟨m + 1, fun j => if j = k then zm else W' j, by omega, by omega, by go_num, (HRD'.out.drewN nq).setCell (by simp) _, by simp; omega, (HROW'.out.drewN nq).setInt hlt zm, fun j hj => (by show (if j = k then zm else W' j) = _; rw [if_neg (by omega)]; exact HW'.out j hj), (by rw [HE.out]; exact if_pos rfl)⟩
              case measure => simp [intOf]; omega
            · have HE := hid (ed_miss (fs := fs) (ts := ts) (zs := zs) (k := k) (m := m) (fun h => e2 h.2))
              have e1' : fs.getD m ByteArray.empty = fs.getD k ByteArray.empty := e1
              rw [e1'] at c0m
              have e2' : ¬ ts.getD m ByteArray.empty = ts.getD k ByteArray.empty := e2
              clear e1 e2 e1'
              generalize fs.getD k ByteArray.empty = s at c0k c0m
              generalize ts.getD k ByteArray.empty = t at c1k e2'
              generalize ts.getD m ByteArray.empty = t' at c1m e2'
              have hne := str_ne e2'
              clear e2'
              go_wp2_with fail
              go_quiet (fail)
              go_wp2
              go_roundw
              case rel => exact ⟨m + 1, W', by omega, by omega, by go_num, HRD'.out.drewN nq, hsz', HROW'.out.drewN nq, HW'.out, (by rw [HE.out]; exact HWK.out)⟩
              case measure => simp [intOf]; omega
          · have HE := hid (ed_miss (fs := fs) (ts := ts) (zs := zs) (k := k) (m := m) (fun h => e1 h.1))
            have e1' : ¬ fs.getD m ByteArray.empty = fs.getD k ByteArray.empty := e1
            clear e1
            generalize fs.getD k ByteArray.empty = s at c0k e1'
            generalize fs.getD m ByteArray.empty = s' at c0m e1'
            have hne := str_ne e1'
            clear e1' c1k c1m c2m
            go_wp2_with fail
            go_quiet (fail)
            go_wp2
            go_roundw
            case rel => exact ⟨m + 1, W', by omega, by omega, by go_num, HRD'.out.drewN nq, hsz', HROW'.out.drewN nq, HW'.out, (by rw [HE.out]; exact HWK.out)⟩
            case measure => simp [intOf]; omega
        · have hmn' : m = n := by omega
          have HRD' := hid hrd
          have HROW' := hid hrow
          have HW' : Hid (∀ j, j < k + 1 → W' j = evTo fs ts zs n j) := fun j hj => by
            by_cases e : j = k
            · rw [e, hWk, hmn']; rfl
            · exact hW j (by omega)
          clear hrd hrow hW hWk hmn' hcw1 hcw2 hc2k HRD HROW HW
          go_wp2
          go_roundw
          case rel => exact ⟨k + 1, W', by omega, by go_num, HRD'.out, hsz', HROW'.out, HW'.out⟩
          case measure => simp [intOf]; omega
    · have hkn : k = n := by omega
      have HW : Hid (∀ j, j < n → W j = evTo fs ts zs n j) := fun j hj => hW j (by omega)
      have HROW := hid hrow
      have HRD := hid hrd
      clear hW hrow hrd hkn
      go_wp2
      obtain ⟨wo, rfl⟩ : ∃ wo : World, wo = wr := ⟨_, rfl⟩
      go_loopw [23, 24] (fun lf ch wq => ∃ (T : Nat → Bool) (X : ByteArray → Bool) (left c : Nat) (cb : Bool), lf = .int .i64 left ∧ ch = .bool cb ∧ Rd w wq node sq ∧ wo.heap.size + 2 ≤ wq.heap.size ∧ RowF wq (w.heap.size + 1) n (fun j => .int .u64 (W j)) ∧ RowF wq wo.heap.size n (fun j => .bool (T j)) ∧ SetIs wq (wo.heap.size + 1) c X ∧ c + left ≤ n ∧
          Fx fs ts zs n node sq T X left ∧ (cb = false → ∀ i, i < n → T i = false → ¬ may fs (evTo fs ts zs n) node sq X i)) (fun lf ch _ => 2 * (intOf lf).toNat + bitOf ch)
      case atStart =>
        have hB2 := rowF_made wo (.bool false) n 4
        have hS := SetIs.made (wo.alloc (.cells (zrow (.bool false) n) 4))
        simp at hS
        exact ⟨fun _ => false, fun _ => false, n, 0, true, rfl, rfl, (HRD.out.alloc _).alloc _, by simp, (HROW.out.grown (World.grownBy_alloc _ _ none) (by simp) (by omega)).grown (World.grownBy_alloc _ _ none) (by simp) (by simp; omega), hB2.grown (World.grownBy_alloc _ _ none) (by simp) (by simp), hS, by omega, Fx.start fs ts zs n node sq, fun h => (by cases h)⟩
      case round =>
        obtain ⟨T, X, left, c, cb, rfl, rfl, hrd, hszq, hrow1, hrow2, hset, hcl, hfx, hcb⟩ := hrel
        have HRDq := hid hrd
        have HR1 := hid hrow1
        have HR2 := hid hrow2
        have HSET := hid hset
        have HFX := hid hfx
        have hun := hfx.cn
        have HUN := hid hun
        clear hrd hrow1 hrow2 hset hfx hun HRD HROW
        by_cases hgo : cb = true ∧ 0 < left
        · obtain ⟨rfl, hpos⟩ := hgo
          have hpd : decide (0 < (left : Int)) = true := decide_eq_true (by omega)
          clear hcb
          obtain ⟨wl, rfl⟩ : ∃ wl : World, wl = wr := ⟨_, rfl⟩
          go_wp2
          go_loopw [23, 24, 25] (fun lf ch i wr => ∃ (p : Nat) (T' : Nat → Bool) (X' : ByteArray → Bool) (left' c' : Nat) (cb' : Bool), p ≤ n ∧ i = .int .i64 p ∧ lf = .int .i64 left' ∧ ch = .bool cb' ∧ Rd w wr node sq ∧ wo.heap.size + 2 ≤ wr.heap.size ∧ RowF wr (w.heap.size + 1) n (fun j => .int .u64 (W j)) ∧ RowF wr wo.heap.size n (fun j => .bool (T' j)) ∧ SetIs wr (wo.heap.size + 1) c' X' ∧ c' + left' ≤ n ∧
              Fx fs ts zs n node sq T' X' left' ∧ (cb' = false → ∀ i, i < p → T' i = false → ¬ may fs (evTo fs ts zs n) node sq X' i) ∧ left' ≤ left ∧ (cb' = true → left' < left)) (fun _ _ i _ => n - (intOf i).toNat)
          case atStart => exact ⟨0, T, X, left, c, false, Nat.zero_le _, rfl, rfl, rfl, HRDq.out, hszq, HR1.out, HR2.out, HSET.out, hcl, HFX.out, fun _ i hi => (by omega), Nat.le_refl _, fun h => (by cases h)⟩
          case round =>
            clear HRDq HR1 HR2 HSET HFX HUN
            obtain ⟨p, T', X', left', c', cb', hp, rfl, rfl, rfl, hrd, hszr, hrow1, hrow2, hset, hcl', hfx, hcb, hle, hlt4⟩ := hrel
            have HRq := hid hrd
            have HR1q := hid hrow1
            have HR2q := hid hrow2
            have HSq := hid hset
            have HFq := hid hfx
            have HCq := hid hcb
            clear hfx hcb
            by_cases hpn : p < n
            · have cT : wr.cell? ⟨wo.heap.size, p, none⟩ = some (.bool (T' p)) := (hrow2 p hpn).1
              have cTf := (hrow2 p hpn).2
              rcases hTp : T' p with _ | _
              · rw [hTp] at cT
                have HTp := hid hTp
                have cW : wr.cell? ⟨w.heap.size + 1, p, none⟩ = some (.int .u64 (W p)) := (hrow1 p hpn).1
                have hs0 := H0.out.below (hrd.bel.mono hB)
                have hs1 := H1.out.below (hrd.bel.mono hB)
                obtain ⟨b0, off0, rfl, hb0, hc0⟩ := hs0.2.2 (by omega)
                obtain ⟨b1, off1, rfl, hb1, hc1⟩ := hs1.2.2 (by omega)
                have c0 := hc0 p (by omega)
                have c1 := hc1 p (by omega)
                have hss := hs0.size p
                have hts := hs1.size p
                have d0 := hrd.d0
                have d1 := hrd.d1
                have ipf : (p : Int) < (fs.length : Int) := by omega
                have ipt : (p : Int) < (ts.length : Int) := by omega
                have ipn : (p : Int) < (n : Int) := by omega
                have hlk := fun q => (hset.drewN q).look hss
                have HWP := hid (HW.out p hpn)
                generalize W p = x at cW HWP
                have HNS := hid (show nth fs p = fs.getD p ByteArray.empty from rfl)
                have HTS := hid (show nth ts p = ts.getD p ByteArray.empty from rfl)
                generalize fs.getD p ByteArray.empty = s at c0 hss hlk HNS
                generalize ts.getD p ByteArray.empty = t at c1 hts HTS
                clear hrd hrow1 hrow2 hset hs0 hs1 hc0 hc1 hTp
                by_cases q1 : s = node
                · subst q1
                  by_cases q2 : sq ≤ x
                  · have q2' : decide (sq ≤ x) = true := decide_eq_true q2
                    clear hlk
                    have HFT := hid (HFq.out.take hpn HTp.out (.inl ⟨HNS.out, by rw [← HWP.out]; exact q2⟩))
                    go_wp2_with fail
                    go_quiet (fail)
                    obtain ⟨w5, hup, set5, hg5⟩ := ((HSq.out.drewN nq).setCell (p := ⟨wo.heap.size, p, none⟩) (by simp) (.bool true)).put hts (by unfold maxLen; omega)
                    have hg5' := hid hg5
                    have set5' := hid set5
                    clear hg5 set5
                    have e1 : ((wr.drewN nq).setCell ⟨wo.heap.size, p, none⟩ (.bool true)).cell? ⟨b1, off1 + p, none⟩ = some (.string t) := by
                      rw [World.cell?_setCell_other _ _ _ _ (fun e => by have := congrArg Addr.block e; simp at this; omega)]
                      exact c1
                    go_wp2
                    go_roundw
                    case rel =>
                      exact ⟨p + 1, setAt T' p, addOne X' (nth ts p), left' - 1, c' + 1, true, by omega, by go_num, (by have := HFT.out.2; rw [show ((left' - 1 : Nat) : Int) = (left' : Int) - 1 by omega]), rfl, ((HRq.out.drewN nq).setCell (by simp; omega) _).grown hg5'.out (by omega), (by have := hg5'.out.size; simp at this; omega), ((HR1q.out.drewN nq).setOther (by simp; omega) _).grown hg5'.out (by simp; omega) (by simp; omega), ((HR2q.out.drewN nq).setTrue hpn).grown hg5'.out (by simp) (by simp; omega), (HTS.out ▸ set5'.out), (by have := HFT.out.2; omega), HFT.out.1, fun h => (by cases h), (by omega), fun _ => (by have := HFT.out.2; omega)⟩
                    case measure => simp [intOf]; omega
                  · have q2' : decide (sq ≤ x) = false := decide_eq_false q2
                    have F1 : Hid (¬ (nth fs p = s ∧ sq ≤ evTo fs ts zs n p)) := fun h => q2 (by rw [HWP.out]; exact h.2)
                    rcases hX : X' (nth fs p) with _ | _
                    · have hlk' : ∀ q, (Instr.lookup 40 (.map (some (wo.heap.size + 1))) (.string s) false).run Try.prog (wr.drewN q) = .ok (.bool false) (wr.drewN q) := fun q => by have := hlk q; rw [HNS.out] at hX; rw [hX] at this; exact this
                      clear hlk
                      have HNM : Hid (¬ may fs (evTo fs ts zs n) s sq X' p) := not_may_a F1.out hX
                      go_wp2_with fail
                      go_quiet (fail)
                      go_wp2
                      go_roundw
                      case rel =>
                        exact ⟨p + 1, T', X', left', c', cb', by omega, by go_num, rfl, rfl, HRq.out.drewN nq, hszr, HR1q.out.drewN nq, HR2q.out.drewN nq, HSq.out.drewN nq, hcl', HFq.out, fun h i hi hT => (by
                          by_cases e : i = p
                          · rw [e]; exact HNM.out
                          · exact HCq.out h i (by omega) hT), hle, hlt4⟩
                      case measure => simp [intOf]; omega
                    · have hlk' : ∀ q, (Instr.lookup 40 (.map (some (wo.heap.size + 1))) (.string s) false).run Try.prog (wr.drewN q) = .ok (.bool true) (wr.drewN q) := fun q => by have := hlk q; rw [HNS.out] at hX; rw [hX] at this; exact this
                      clear hlk
                      by_cases q4 : 1 ≤ x
                      · have q4' : decide (1 ≤ x) = true := decide_eq_true q4
                        have HFT := hid (HFq.out.take hpn HTp.out (.inr ⟨hX, by rw [← HWP.out]; exact q4⟩))
                        go_wp2_with fail
                        go_quiet (fail)
                        obtain ⟨w5, hup, set5, hg5⟩ := ((HSq.out.drewN nq).setCell (p := ⟨wo.heap.size, p, none⟩) (by simp) (.bool true)).put hts (by unfold maxLen; omega)
                        have hg5' := hid hg5
                        have set5' := hid set5
                        clear hg5 set5
                        have e1 : ((wr.drewN nq).setCell ⟨wo.heap.size, p, none⟩ (.bool true)).cell? ⟨b1, off1 + p, none⟩ = some (.string t) := by
                          rw [World.cell?_setCell_other _ _ _ _ (fun e => by have := congrArg Addr.block e; simp at this; omega)]
                          exact c1
                        go_wp2
                        go_roundw
                        case rel =>
                          exact ⟨p + 1, setAt T' p, addOne X' (nth ts p), left' - 1, c' + 1, true, by omega, by go_num, (by have := HFT.out.2; rw [show ((left' - 1 : Nat) : Int) = (left' : Int) - 1 by omega]), rfl, ((HRq.out.drewN nq).setCell (by simp; omega) _).grown hg5'.out (by omega), (by have := hg5'.out.size; simp at this; omega), ((HR1q.out.drewN nq).setOther (by simp; omega) _).grown hg5'.out (by simp; omega) (by simp; omega), ((HR2q.out.drewN nq).setTrue hpn).grown hg5'.out (by simp) (by simp; omega), (HTS.out ▸ set5'.out), (by have := HFT.out.2; omega), HFT.out.1, fun h => (by cases h), (by omega), fun _ => (by have := HFT.out.2; omega)⟩
                        case measure => simp [intOf]; omega
                      · have q4' : decide (1 ≤ x) = false := decide_eq_false q4
                        have HNM : Hid (¬ may fs (evTo fs ts zs n) s sq X' p) := not_may_b F1.out (by rw [← HWP.out]; exact q4)
                        go_wp2_with fail
                        go_quiet (fail)
                        go_wp2
                        go_roundw
                        case rel =>
                          exact ⟨p + 1, T', X', left', c', cb', by omega, by go_num, rfl, rfl, HRq.out.drewN nq, hszr, HR1q.out.drewN nq, HR2q.out.drewN nq, HSq.out.drewN nq, hcl', HFq.out, fun h i hi hT => (by
                            by_cases e : i = p
                            · rw [e]; exact HNM.out
                            · exact HCq.out h i (by omega) hT), hle, hlt4⟩
                        case measure => simp [intOf]; omega
                · have q1' := str_ne q1
                  have F1 : Hid (¬ (nth fs p = node ∧ sq ≤ evTo fs ts zs n p)) := fun h => q1 (by rw [← HNS.out]; exact h.1)
                  clear q1
                  rcases hX : X' (nth fs p) with _ | _
                  · have hlk' : ∀ q, (Instr.lookup 40 (.map (some (wo.heap.size + 1))) (.string s) false).run Try.prog (wr.drewN q) = .ok (.bool false) (wr.drewN q) := fun q => by have := hlk q; rw [HNS.out] at hX; rw [hX] at this; exact this
                    clear hlk
                    have HNM : Hid (¬ may fs (evTo fs ts zs n) node sq X' p) := not_may_a F1.out hX
                    go_wp2_with fail
                    go_quiet (fail)
                    go_wp2
                    go_roundw
                    case rel =>
                      exact ⟨p + 1, T', X', left', c', cb', by omega, by go_num, rfl, rfl, HRq.out.drewN nq, hszr, HR1q.out.drewN nq, HR2q.out.drewN nq, HSq.out.drewN nq, hcl', HFq.out, fun h i hi hT => (by
                        by_cases e : i = p
                        · rw [e]; exact HNM.out
                        · exact HCq.out h i (by omega) hT), hle, hlt4⟩
                    case measure => simp [intOf]; omega
                  · have hlk' : ∀ q, (Instr.lookup 40 (.map (some (wo.heap.size + 1))) (.string s) false).run Try.prog (wr.drewN q) = .ok (.bool true) (wr.drewN q) := fun q => by have := hlk q; rw [HNS.out] at hX; rw [hX] at this; exact this
                    clear hlk
                    by_cases q4 : 1 ≤ x
                    · have q4' : decide (1 ≤ x) = true := decide_eq_true q4
                      have HFT := hid (HFq.out.take hpn HTp.out (.inr ⟨hX, by rw [← HWP.out]; exact q4⟩))
                      go_wp2_with fail
                      go_quiet (fail)
                      obtain ⟨w5, hup, set5, hg5⟩ := ((HSq.out.drewN nq).setCell (p := ⟨wo.heap.size, p, none⟩) (by simp) (.bool true)).put hts (by unfold maxLen; omega)
                      have hg5' := hid hg5
                      have set5' := hid set5
                      clear hg5 set5
                      have e1 : ((wr.drewN nq).setCell ⟨wo.heap.size, p, none⟩ (.bool true)).cell? ⟨b1, off1 + p, none⟩ = some (.string t) := by
                        rw [World.cell?_setCell_other _ _ _ _ (fun e => by have := congrArg Addr.block e; simp at this; omega)]
                        exact c1
                      go_wp2
                      go_roundw
                      case rel =>
                        exact ⟨p + 1, setAt T' p, addOne X' (nth ts p), left' - 1, c' + 1, true, by omega, by go_num, (by have := HFT.out.2; rw [show ((left' - 1 : Nat) : Int) = (left' : Int) - 1 by omega]), rfl, ((HRq.out.drewN nq).setCell (by simp; omega) _).grown hg5'.out (by omega), (by have := hg5'.out.size; simp at this; omega), ((HR1q.out.drewN nq).setOther (by simp; omega) _).grown hg5'.out (by simp; omega) (by simp; omega), ((HR2q.out.drewN nq).setTrue hpn).grown hg5'.out (by simp) (by simp; omega), (HTS.out ▸ set5'.out), (by have := HFT.out.2; omega), HFT.out.1, fun h => (by cases h), (by omega), fun _ => (by have := HFT.out.2; omega)⟩
                      case measure => simp [intOf]; omega
                    · have q4' : decide (1 ≤ x) = false := decide_eq_false q4
                      have HNM : Hid (¬ may fs (evTo fs ts zs n) node sq X' p) := not_may_b F1.out (by rw [← HWP.out]; exact q4)
                      go_wp2_with fail
                      go_quiet (fail)
                      go_wp2
                      go_roundw
                      case rel =>
                        exact ⟨p + 1, T', X', left', c', cb', by omega, by go_num, rfl, rfl, HRq.out.drewN nq, hszr, HR1q.out.drewN nq, HR2q.out.drewN nq, HSq.out.drewN nq, hcl', HFq.out, fun h i hi hT => (by
                          by_cases e : i = p
                          · rw [e]; exact HNM.out
                          · exact HCq.out h i (by omega) hT), hle, hlt4⟩
                      case measure => simp [intOf]; omega
              · rw [hTp] at cT
                have HTp := hid hTp
                clear hrd hrow1 hrow2 hset hTp
                go_wp2
                go_roundw
                case rel =>
                  exact ⟨p + 1, T', X', left', c', cb', by omega, by go_num, rfl, rfl, HRq.out, hszr, HR1q.out, HR2q.out, HSq.out, hcl', HFq.out, fun h i hi hT => (by
                    by_cases e : i = p
                    · rw [e, HTp.out] at hT; cases hT
                    · exact HCq.out h i (by omega) hT), hle, hlt4⟩
                case measure => simp [intOf]; omega
            · clear hrd hrow1 hrow2 hset
              go_wp2
              go_roundw
              case rel =>
                exact ⟨T', X', left', c', cb', rfl, rfl, HRq.out, hszr, HR1q.out, HR2q.out, HSq.out, hcl', HFq.out, fun h i hi hT => HCq.out h i (by omega) hT⟩
              case measure =>
                cases cb'
                · simp [intOf, bitOf]; omega
                · have := hlt4 rfl
                  simp [intOf, bitOf]; omega
        · have HCL : Hid (∀ i, i < n → T i = false → ¬ may fs (evTo fs ts zs n) node sq X i) := by
            cases cb
            · exact hcb rfl
            · have h0 : left = 0 := by
                by_cases h : 0 < left
                · exact absurd ⟨rfl, h⟩ hgo
                · omega
              intro i hi hT
              have := unt_zero (by rw [← HUN.out]; exact h0) i hi
              rw [this] at hT
              cases hT
          have hleft : cb = true → left = 0 := fun h => by
            by_cases h' : 0 < left
            · exact absurd ⟨h, h'⟩ hgo
            · omega
          clear hcb hgo
          obtain ⟨wl, rfl⟩ : ∃ wl : World, wl = wr := ⟨_, rfl⟩
          cases cb
          · clear hleft
            go_wp2
            go_loopw [26] (fun i wr => ∃ p : Nat, p ≤ n ∧ i = .int .i64 p ∧ wl = wr ∧ ∀ i, i < p → T i = true → goalOf ks vs th ut (nth ts i) = false) (fun i _ => n - (intOf i).toNat)
            case atStart => exact ⟨0, Nat.zero_le _, rfl, rfl, fun i hi => (by omega)⟩
            case round =>
              obtain ⟨p, hp, rfl, hwl, hng⟩ := hrel
              subst hwl
              have HNG := hid hng
              clear hng
              by_cases hpn : p < n
              · have cT : wl.cell? ⟨wo.heap.size, p, none⟩ = some (.bool (T p)) := (HR2.out p hpn).1
                rcases hTp : T p with _ | _
                · rw [hTp] at cT
                  have HTp := hid hTp
                  clear hTp
                  go_wp2_with fail
                  go_roundw
                  case rel =>
                    exact ⟨p + 1, by omega, by go_num, by first | rfl | trivial, fun i hi hT => (by
                      by_cases e : i = p
                      · rw [e, HTp.out] at hT; cases hT
                      · exact HNG.out i (by omega) hT)⟩
                  case measure => simp [intOf]; omega
                · rw [hTp] at cT
                  have HTp := hid hTp
                  clear hTp
                  have hs1 := H1.out.below (HRDq.out.bel.mono hB)
                  obtain ⟨b1, off1, rfl, hb1, hc1⟩ := hs1.2.2 (by omega)
                  have c1 := hc1 p (by omega)
                  have HTS := hid (show nth ts p = ts.getD p ByteArray.empty from rfl)
                  generalize ts.getD p ByteArray.empty = t at c1 HTS
                  clear hs1 hc1
                  go_wp2_with fail
                  refine (lookup a3 a4 ks vs cap3 cap4 t _ B (H3.out.below (HRDq.out.bel.mono hB)) (H4.out.below (HRDq.out.bel.mono hB))).mono ?_
                  rintro e w5 ⟨rfl, hw5⟩
                  subst hw5
                  have HGO : Hid (goalOf ks vs th ut (nth ts p) = (decide (0 < (lkTo ks vs (min ks.length vs.length) t).getD 0) && (!ut || inTo th t th.length))) := by rw [HTS.out]; exact rfl
                  generalize (lkTo ks vs (min ks.length vs.length) t).getD 0 = y at HGO ⊢
                  by_cases hy : 0 < y
                  · have hy' : decide (0 < y) = true := decide_eq_true hy
                    cases ut
                    · have HY : Hid (Hits (edTo fs ts zs n) (goalOf ks vs th false) node sq) := (HFX.out.yes hpn HTp.out (by rw [HGO.out, hy']; rfl)).1 rfl
                      go_wp2_with fail
                      go_ret
                      exact ⟨Tells.mk ⟨fun _ => HY.out, fun _ => rfl⟩, HRDq.out.bel⟩
                    · go_wp2_with fail
                      refine (isIn a5 th cap5 t _ B (H5.out.below (HRDq.out.bel.mono hB))).mono ?_
                      rintro e w6 ⟨rfl, hw6⟩
                      subst hw6
                      generalize inTo th t th.length = z at HGO ⊢
                      cases z
                      · have HNP : Hid (goalOf ks vs th true (nth ts p) = false) := by show _ = _; rw [HGO.out]; simp
                        go_wp2_with fail
                        go_roundw
                        case rel =>
                          exact ⟨p + 1, by omega, by go_num, by first | rfl | trivial, fun i hi hT => (by
                            by_cases e : i = p
                            · rw [e]; exact HNP.out
                            · exact HNG.out i (by omega) hT)⟩
                        case measure => simp [intOf]; omega
                      · have HY : Hid (Hits (edTo fs ts zs n) (goalOf ks vs th true) node sq) := (HFX.out.yes hpn HTp.out (by rw [HGO.out, hy']; rfl)).1 rfl
                        go_wp2_with fail
                        go_ret
                        exact ⟨Tells.mk ⟨fun _ => HY.out, fun _ => rfl⟩, HRDq.out.bel⟩
                  · have hy' : decide (0 < y) = false := decide_eq_false hy
                    have HNP : Hid (goalOf ks vs th ut (nth ts p) = false) := by show _ = _; rw [HGO.out, hy']; rfl
                    go_wp2_with fail
                    go_roundw
                    case rel =>
                      exact ⟨p + 1, by omega, by go_num, by first | rfl | trivial, fun i hi hT => (by
                        by_cases e : i = p
                        · rw [e]; exact HNP.out
                        · exact HNG.out i (by omega) hT)⟩
                    case measure => simp [intOf]; omega
              · have HY : Hid (false = true ↔ Hits (edTo fs ts zs n) (goalOf ks vs th ut) node sq) := HFX.out.no HCL.out (fun i hi => HNG.out i (by omega))
                go_wp2_with fail
                go_ret
                exact ⟨Tells.mk HY.out, HRDq.out.bel⟩
          · have hpd : decide (0 < (left : Int)) = false := decide_eq_false (by have := hleft rfl; omega)
            have hnl : (left : Int) < 1 := by have := hleft rfl; omega
            clear hleft
            go_wp2
            rename ¬0 < left => hz0
            clear hpd hnl hz0
            go_loopw [26] (fun i wr => ∃ p : Nat, p ≤ n ∧ i = .int .i64 p ∧ wl = wr ∧ ∀ i, i < p → T i = true → goalOf ks vs th ut (nth ts i) = false) (fun i _ => n - (intOf i).toNat)
            case atStart => exact ⟨0, Nat.zero_le _, rfl, rfl, fun i hi => (by omega)⟩
            case round =>
              obtain ⟨p, hp, rfl, hwl, hng⟩ := hrel
              subst hwl
              have HNG := hid hng
              clear hng
              by_cases hpn : p < n
              · have cT : wl.cell? ⟨wo.heap.size, p, none⟩ = some (.bool (T p)) := (HR2.out p hpn).1
                rcases hTp : T p with _ | _
                · rw [hTp] at cT
                  have HTp := hid hTp
                  clear hTp
                  go_wp2_with fail
                  go_roundw
                  case rel =>
                    exact ⟨p + 1, by omega, by go_num, by first | rfl | trivial, fun i hi hT => (by
                      by_cases e : i = p
                      · rw [e, HTp.out] at hT; cases hT
                      · exact HNG.out i (by omega) hT)⟩
                  case measure => simp [intOf]; omega
                · rw [hTp] at cT
                  have HTp := hid hTp
                  clear hTp
                  have hs1 := H1.out.below (HRDq.out.bel.mono hB)
                  obtain ⟨b1, off1, rfl, hb1, hc1⟩ := hs1.2.2 (by omega)
                  have c1 := hc1 p (by omega)
                  have HTS := hid (show nth ts p = ts.getD p ByteArray.empty from rfl)
                  generalize ts.getD p ByteArray.empty = t at c1 HTS
                  clear hs1 hc1
                  go_wp2_with fail
                  refine (lookup a3 a4 ks vs cap3 cap4 t _ B (H3.out.below (HRDq.out.bel.mono hB)) (H4.out.below (HRDq.out.bel.mono hB))).mono ?_
                  rintro e w5 ⟨rfl, hw5⟩
                  subst hw5
                  have HGO : Hid (goalOf ks vs th ut (nth ts p) = (decide (0 < (lkTo ks vs (min ks.length vs.length) t).getD 0) && (!ut || inTo th t th.length))) := by rw [HTS.out]; exact rfl
                  generalize (lkTo ks vs (min ks.length vs.length) t).getD 0 = y at HGO ⊢
                  by_cases hy : 0 < y
                  · have hy' : decide (0 < y) = true := decide_eq_true hy
                    cases ut
                    · have HY : Hid (Hits (edTo fs ts zs n) (goalOf ks vs th false) node sq) := (HFX.out.yes hpn HTp.out (by rw [HGO.out, hy']; rfl)).1 rfl
                      go_wp2_with fail
                      go_ret
                      exact ⟨Tells.mk ⟨fun _ => HY.out, fun _ => rfl⟩, HRDq.out.bel⟩
                    · go_wp2_with fail
                      refine (isIn a5 th cap5 t _ B (H5.out.below (HRDq.out.bel.mono hB))).mono ?_
                      rintro e w6 ⟨rfl, hw6⟩
                      subst hw6
                      generalize inTo th t th.length = z at HGO ⊢
                      cases z
                      · have HNP : Hid (goalOf ks vs th true (nth ts p) = false) := by show _ = _; rw [HGO.out]; simp
                        go_wp2_with fail
                        go_roundw
                        case rel =>
                          exact ⟨p + 1, by omega, by go_num, by first | rfl | trivial, fun i hi hT => (by
                            by_cases e : i = p
                            · rw [e]; exact HNP.out
                            · exact HNG.out i (by omega) hT)⟩
                        case measure => simp [intOf]; omega
                      · have HY : Hid (Hits (edTo fs ts zs n) (goalOf ks vs th true) node sq) := (HFX.out.yes hpn HTp.out (by rw [HGO.out, hy']; rfl)).1 rfl
                        go_wp2_with fail
                        go_ret
                        exact ⟨Tells.mk ⟨fun _ => HY.out, fun _ => rfl⟩, HRDq.out.bel⟩
                  · have hy' : decide (0 < y) = false := decide_eq_false hy
                    have HNP : Hid (goalOf ks vs th ut (nth ts p) = false) := by show _ = _; rw [HGO.out, hy']; rfl
                    go_wp2_with fail
                    go_roundw
                    case rel =>
                      exact ⟨p + 1, by omega, by go_num, by first | rfl | trivial, fun i hi hT => (by
                        by_cases e : i = p
                        · rw [e]; exact HNP.out
                        · exact HNG.out i (by omega) hT)⟩
                    case measure => simp [intOf]; omega
              · have HY : Hid (false = true ↔ Hits (edTo fs ts zs n) (goalOf ks vs th ut) node sq) := HFX.out.no HCL.out (fun i hi => HNG.out i (by omega))
                go_wp2_with fail
                go_ret
                exact ⟨Tells.mk HY.out, HRDq.out.bel⟩

end Go.Proofs.Qxb6614579a
