/-
  Seat b6605675aF: buildBranches (11).
-/
import Derived.Test.Qxb6605675aFmtSame
import Derived.Deep.AppendLies
import Derived.Deep.RegionHeld3
import Derived.Lib.OwnKind
namespace Go.Proofs.Qxb6605675aFmt
open Go.RowKit

/-- Block p is a node's branch. -/
def BrP (w : World) (p : Nat) (x : Br) : Prop := w.heap[p]? = some (.cells #[.string x.host, .int .u16 x.port, .string x.path, .string x.id, .pointer none, .string x.ident, .bool false] 57 (0, 0))
def ptrV (p : Nat) : Value := .pointer (some ⟨p, 0, none⟩)

theorem info48 : (Tryf.prog.info? 48).map (fun i => (i.zero, i.size, i.bytes)) = some (some (.pointer none), 1, 8) := by kernel_rfl

/-- A block that is not the row's is as it was. -/
theorem grown_block {w w' : World} {row : Option Nat} (hg : w.grownBy w' row) {p : Nat} {o : Obj} (h : w.heap[p]? = some o) (hne : some p ≠ row) : w'.heap[p]? = some o :=
  (hg.block p (lt_of_block h) hne).trans h

/-- The row's block holds elements of type e, so a block of another type is not it. -/
theorem own_ne {w : World} {base : Nat} {e t : TypeId} {size : Nat} {v : Value} {n : Nat} {xs : List Value} (h : w.ownsRow base e size v n xs) {p : Nat} {c : Array Value} {fz : Nat × Nat} (hp : w.heap[p]? = some (.cells c t fz)) (hne : t ≠ e) : some p ≠ v.ownBlock := fun e1 => by
  obtain ⟨c', fz', h'⟩ := Go.Lib.ownsRow_kind h p e1.symm
  rw [hp] at h'
  cases h'
  exact hne rfl

theorem news_one {w : World} {p : Value} {t : TypeId} {H : Nat} (hH : w.heap.size = H) : ∀ j u, [p][j]? = some u → (w.alloc (.cells #[p] t)).cell? ((⟨H, 0, none⟩ : Addr).add j) = some u := by
  subst hH
  intro j u hj
  match j, hj with
  | 0, hj =>
    cases hj
    rw [Go.WideShapes.add_plain]
    exact World.cell?_alloc_new _ _ _ _
theorem one_ptr (p : Nat) : ∀ u ∈ [ptrV p], u.oneCell' = true := fun u hu => by
  simp only [List.mem_cons, List.not_mem_nil, or_false] at hu
  subst hu
  rfl

theorem brP_alloc {w : World} {p : Nat} {x : Br} (h : BrP w p x) (o : Obj) : BrP (w.alloc o) p x :=
  (Below.heap_alloc _ _ _ (lt_of_block h)).trans h
theorem brP_new (w : World) (x : Br) : BrP (w.alloc (.cells #[.string x.host, .int .u16 x.port, .string x.path, .string x.id, .pointer none, .string x.ident, .bool false] 57)) w.heap.size x := heap_alloc_new w _
theorem brP_grown {w w' : World} {base : Nat} {v : Value} {n : Nat} {xs : List Value} {e : TypeId} {size : Nat} (h : w.ownsRow base e size v n xs) (hne : 57 ≠ e) (hg : w.grownBy w' v.ownBlock) {p : Nat} {x : Br} (hp : BrP w p x) : BrP w' p x :=
  grown_block hg hp (own_ne h hp hne)

theorem build_step {N : Nat} {w0 w w3 : World} {v v' : Value} {k : Nat} {ps : List Nat} {bs : List Br} {x : Br} {o : Obj} (hx : bs.getD k br0 = x) (hown : w.ownsRow N 48 1 v k (ps.map ptrV)) (hps : ps.length = k) (hbr : ∀ j, j < k → BrP w (ps.getD j 0) (bs.getD j br0)) (hbel : Below N w0 w) (hN : N ≤ w.heap.size)
    (hown3 : w3.ownsRow N 48 1 v' (k + 1) (ps.map ptrV ++ [ptrV w.heap.size]))
    (hgrow : (((w.drew.alloc (.cells #[.string x.host, .int .u16 x.port, .string x.path, .string x.id, .pointer none, .string x.ident, .bool false] 57)).alloc o)).grownBy w3 v.ownBlock) :
    w3.ownsRow N 48 1 v' (k + 1) ((ps ++ [w.heap.size]).map ptrV) ∧ (ps ++ [w.heap.size]).length = k + 1 ∧ (∀ j, j < k + 1 → BrP w3 ((ps ++ [w.heap.size]).getD j 0) (bs.getD j br0)) ∧ Below N w0 w3 := by
  have hownW := (hown.drew.alloc (.cells #[.string x.host, .int .u16 x.port, .string x.path, .string x.id, .pointer none, .string x.ident, .bool false] 57)).alloc o
  refine ⟨by rw [List.map_append]; exact hown3, by simp [hps], fun j hj => ?_, ?_⟩
  · by_cases e : j = k
    · subst e
      have e1 : (ps ++ [w.heap.size]).getD j 0 = w.heap.size := by
        rw [List.getD, List.getElem?_append_right (by omega), hps, Nat.sub_self]
        rfl
      rw [e1, hx]
      exact brP_grown hownW (by decide) hgrow (brP_alloc (brP_new w.drew x) o)
    · have e1 : (ps ++ [w.heap.size]).getD j 0 = ps.getD j 0 := by
        rw [List.getD, List.getElem?_append_left (by omega)]
        rfl
      rw [e1]
      exact brP_grown hownW (by decide) hgrow (brP_alloc (brP_alloc (w := w.drew) (hbr j (by omega)) _) o)
  · have hb1 : Below N w0 (((w.drew.alloc (.cells #[.string x.host, .int .u16 x.port, .string x.path, .string x.id, .pointer none, .string x.ident, .bool false] 57)).alloc o)) := (hbel.drew.alloc hN _).alloc (by simp; omega) o
    refine hb1.trans ⟨hgrow.os, hgrow.tape, hgrow.output, hgrow.size, fun j hj => hgrow.block j (by simp; omega) (fun e => ?_)⟩
    have := (hown.lt j e.symm).1
    omega

set_option maxHeartbeats 4000000 in
set_option maxRecDepth 100000 in
theorem buildBranches (a : Option Addr) (bs : List Br) (cap : Nat) (w : World) (B : Nat) (hB : B ≤ w.heap.size) (hn : bs.length ≤ 65536) (hs : Brs B w a bs) :
    Calls Tryf.prog 11 #[.slice a bs.length cap] w fun e w' => (∃ (v : Value) (ps : List Nat), e = .returned v ∧ w'.ownsRow w.heap.size 48 1 v bs.length (ps.map ptrV) ∧ ps.length = bs.length ∧ ∀ j, j < bs.length → BrP w' (ps.getD j 0) (bs.getD j br0)) ∧ Below w.heap.size w w' := by
  have HS := hid hs
  clear hs
  obtain ⟨i0, hi, hz0, hz1, hz2⟩ := info_parts info48
  go_enter Tryf.func11, Tryf.ntmps11
  go_wp2_with (refine wpList_make_own _ rfl _ _ 29 rfl w.heap.size 48 i0 (.pointer none) 1 Tryf.underlying29 hi hz0 hz1 .i64 .i64 bs.length bs.length rfl rfl rfl (by rw [hz2]; omega) (by unfold maxLen; omega) (Nat.le_refl _) ?_; intro w1 hown1 hgrow1)
  have HOWN1 := hid hown1
  have HB1 : Hid (Below w.heap.size w w1) := ⟨hgrow1.os, hgrow1.tape, hgrow1.output, hgrow1.size, fun j hj => hgrow1.block j hj (by simp)⟩
  clear hown1 hgrow1
  go_wp2_with fail
  go_loopw [3, 4] (fun v i wr => ∃ (k : Nat) (ps : List Nat), k ≤ bs.length ∧ i = .int .i64 k ∧ wr.ownsRow w.heap.size 48 1 v k (ps.map ptrV) ∧ ps.length = k ∧ (∀ j, j < k → BrP wr (ps.getD j 0) (bs.getD j br0)) ∧ Below w.heap.size w wr) (fun _ i _ => bs.length - (intOf i).toNat)
  case atStart => exact ⟨0, [], Nat.zero_le _, rfl, HOWN1.out, rfl, fun j hj => (by omega), HB1.out⟩
  case round =>
    clear HOWN1 HB1
    obtain ⟨k, ps, hk, rfl, hown, hps, hbr, hbel⟩ := hrel
    have HOWN := hid hown
    have HPS := hid hps
    have HBR := hid hbr
    have HBEL := hid hbel
    clear hown hps hbr hbel
    by_cases hlt : k < bs.length
    · obtain ⟨b, off, rfl, hbB, hc⟩ := (HS.out.below (HBEL.out.mono hB)).2.2 (by omega)
      obtain ⟨c0, c1, c2, c3, c4⟩ := hc k hlt
      clear hc
      have hbs : b < wr.heap.size := Nat.lt_of_lt_of_le hbB (Nat.le_trans hB HBEL.out.size)
      have hbN : b < w.heap.size := Nat.lt_of_lt_of_le hbB hB
      have hNs : w.heap.size ≤ wr.heap.size := HBEL.out.size
      have ik : (k : Int) < bs.length := by omega
      have ik0 : 0 ≤ (k : Int) := by omega
      obtain ⟨x, hx⟩ : ∃ x, bs.getD k br0 = x := ⟨_, rfl⟩
      have HX := hid hx
      rw [hx] at c0 c1 c2 c3 c4
      clear hx
      have hvb : some b ≠ u3.ownBlock := fun e => (by have := (HOWN.out.lt b e.symm).1; omega)
      go_wp2_with fail
      go_region_held3 (fun w' => w'.cell? ⟨b, off + k * 5, none⟩ = some (.string x.host) ∧ w'.cell? ⟨b, off + k * 5 + 1, none⟩ = some (.int .u16 x.port) ∧ w'.cell? ⟨b, off + k * 5 + 2, none⟩ = some (.string x.path) ∧ w'.cell? ⟨b, off + k * 5 + 3, none⟩ = some (.string x.id) ∧ w'.cell? ⟨b, off + k * 5 + 4, none⟩ = some (.string x.ident)) (first | go_keep | (go_split_ands; refine ⟨?_, ?_, ?_, ?_, ?_⟩ <;> (rw [hgrow3.cell_far _ (by simp; omega) hvb]; assumption)))
        (first | (go_at_call 26; refine (newBranch x _).mono ?_; rintro e w2 ⟨rfl, rfl⟩) | (refine step_append_lies _ (by rfl) _ _ 29 (by rfl) w.heap.size 48 i0 (.pointer none) 1 8 Tryf.underlying29 hi hz0 hz1 hz2 rfl (by omega) _ k (ps.map ptrV) (by rfl) ((HOWN.out.drew.alloc _).alloc _) ⟨wr.heap.size + 1, 0, none⟩ 1 1 [ptrV wr.heap.size] (by rfl) (by rfl) (news_one (by simp)) (one_ptr _) (by omega) (by unfold maxLen; omega) (by omega) (by simp; omega) (wr.heap.size + 1 + 1) (by simp) ?_; intro g cap' w3 hown3 hgrow3 hat3 hlt3))
      have HREL := hid (build_step HX.out HOWN.out HPS.out HBR.out HBEL.out hNs hown3 hgrow3)
      clear hown3 hgrow3 hat3 hlt3 hvb
      go_wp2_with fail
      go_roundw
      case rel => exact ⟨k + 1, ps ++ [wr.heap.size], by omega, by go_num, HREL.out⟩
      case measure => simp [intOf]; omega
    · have hkn : k = bs.length := by omega
      subst hkn
      go_wp2_with fail
      go_ret
      exact ⟨⟨_, ps, rfl, HOWN.out, HPS.out, HBR.out⟩, HBEL.out⟩

end Go.Proofs.Qxb6605675aFmt
