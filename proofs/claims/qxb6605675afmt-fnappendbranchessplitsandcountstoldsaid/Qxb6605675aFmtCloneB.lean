/-
  Seat b6605675aF: cloneBranches (9).
-/
import Derived.Test.Qxb6605675aFmtClone
import Derived.Deep.MidRow
namespace Go.Proofs.Qxb6605675aFmt
open Go.RowKit

/-- A branch's cells. -/
def brVals (x : Br) : List Value := [.string x.host, .int .u16 x.port, .string x.path, .string x.id, .string x.ident]
theorem brVals_one (x : Br) : (brVals x).toArray.all (·.oneCell') = true := all_oneCell_toArray (fun v hv => by
  simp only [brVals, List.mem_cons, List.not_mem_nil, or_false] at hv
  rcases hv with rfl | rfl | rfl | rfl | rfl <;> rfl)
theorem BrAt.range {w : World} {b o : Nat} {x : Br} (h : BrAt w b o x) : w.rangeAt b o (brVals x) := fun j v hv => by
  match j, hv with
  | 0, hv => cases hv; exact h.host
  | 1, hv => cases hv; exact h.port
  | 2, hv => cases hv; exact h.path
  | 3, hv => cases hv; exact h.id
  | 4, hv => cases hv; exact h.ident
theorem BrAt.of_range {w : World} {b o : Nat} {x : Br} (h : w.rangeAt b o (brVals x)) : BrAt w b o x :=
  ⟨h 0 _ rfl, h 1 _ rfl, h 2 _ rfl, h 3 _ rfl, h 4 _ rfl⟩

theorem Below.setCells {n : Nat} {w : World} {b : Nat} (hb : n ≤ b) : ∀ (vs : List Value) (o : Nat) (w' : World), Below n w w' → Below n w (w'.setCells b o vs)
  | [], _, _, h => h
  | v :: r, o, _, h => Below.setCells hb r (o + 1) _ (h.setCell hb v)

theorem setCells_size {b : Nat} : ∀ (vs : List Value) (o : Nat) (w : World), (w.setCells b o vs).heap.size = w.heap.size
  | [], _, _ => rfl
  | v :: r, o, w => (setCells_size r (o + 1) (w.setCell ⟨b, o, none⟩ v)).trans (by simp)

def zbr : Array Value := #[.string ByteArray.empty, .int .u16 0, .string ByteArray.empty, .string ByteArray.empty, .string ByteArray.empty]
theorem info44 : (Tryf.prog.info? 44).map (fun i => (i.zero, i.size, i.bytes)) = some (some (.agg zbr), 5, 72) := by kernel_rfl
theorem size44 : (Tryf.prog.info? 44).map (·.size) = some 5 := by kernel_rfl
theorem make23 (n : Nat) (hn : n ≤ 65536) (w : World) : ∃ cur : Array Value, cur.size = n * 5 ∧ (Instr.makeSlice 23 (.int .i64 n) (.int .i64 n)).run Tryf.prog w = .ok (.slice (some ⟨w.heap.size, 0, none⟩) n n) (w.alloc (.cells cur 44)) := by
  obtain ⟨i, h1, h2, h3, h4⟩ := info_parts info44
  have := run_make (P := Tryf.prog) w 23 44 i (.agg zbr) Tryf.underlying23 h1 h2 .i64 .i64 n n (by omega) (by omega) (by rw [h4]; omega) (by omega)
  rw [this, h3]
  exact ⟨_, by simp [madeCells], rfl⟩

set_option maxHeartbeats 1000000 in
theorem cloneBranches (a : Option Addr) (bs : List Br) (cap : Nat) (w : World) (B : Nat) (hB : B ≤ w.heap.size) (hn : bs.length ≤ 65536) (hs : Brs B w a bs) :
    Calls Tryf.prog 9 #[.slice a bs.length cap] w fun e w' => (∃ a', e = .returned (.slice a' bs.length bs.length) ∧ Brs (w.heap.size + 1) w' a' bs ∧ (∀ x, a' = some x → x = ⟨w.heap.size, 0, none⟩ ∧ w.heap.size < w'.heap.size)) ∧ Below w.heap.size w w' := by
  have HS := hid hs
  clear hs
  rcases a with _ | ad
  · have hz : bs = [] := by
      by_cases h : 0 < bs.length
      · obtain ⟨b, off, e, _⟩ := HS.out.2.2 h
        cases e
      · exact List.eq_nil_of_length_eq_zero (by omega)
    subst hz
    have hnil : ∀ w, (binOp .eql 23 (.slice none 0 cap) (.slice none 0 0)).run Tryf.prog w = .ok (.bool true) w := fun w => by
      have := run_equal_slice_nil (P := Tryf.prog) w 23 44 none 0 cap Tryf.underlying23
      simp [binOp, this]
    go_enter Tryf.func9, Tryf.ntmps9
    go_wp2
    go_ret
    exact ⟨⟨none, rfl, ⟨fun _ h => (by cases h), Nat.zero_le _, fun h => (by cases h)⟩, fun _ h => (by cases h)⟩, Below.refl _ _⟩
  · have hnil : ∀ w, (binOp .eql 23 (.slice (some ad) bs.length cap) (.slice none 0 0)).run Tryf.prog w = .ok (.bool false) w := fun w => by
      have := run_equal_slice_nil (P := Tryf.prog) w 23 44 (some ad) bs.length cap Tryf.underlying23
      simp [binOp, this]
    obtain ⟨cur0, hcur0, hmk⟩ := make23 bs.length hn w
    have HC0 := hid hcur0
    clear hcur0
    go_enter Tryf.func9, Tryf.ntmps9
    go_wp2
    clear hnil hmk
    go_loopw [4] (fun i wr => ∃ k : Nat, k ≤ bs.length ∧ i = .int .i64 k ∧ wr.there w.heap.size 0 (bs.length * 5) ∧ (∀ j, j < k → BrAt wr w.heap.size (j * 5) (bs.getD j br0)) ∧ Below w.heap.size w wr ∧ w.heap.size < wr.heap.size) (fun i _ => bs.length - (intOf i).toNat)
    case atStart =>
      refine ⟨0, Nat.zero_le _, rfl, fun j hj => ⟨?_, World.frozen?_alloc_new _ _ _ _⟩, fun j hj => (by omega), (Below.refl _ _).alloc (Nat.le_refl _) _, by simp⟩
      rw [Nat.zero_add, World.cell?_alloc_new]
      have : j < cur0.size := by rw [HC0.out]; exact hj
      simp [this]
    case round =>
      obtain ⟨k, hk, rfl, hthere, hcur, hbel, hgt⟩ := hrel
      have HTH := hid hthere
      have HCUR := hid hcur
      have HBEL := hid hbel
      have HGT := hid hgt
      clear hthere hcur hbel hgt
      by_cases hlt : k < bs.length
      · obtain ⟨b, off, e, hbB, hc⟩ := (HS.out.below (HBEL.out.mono hB)).2.2 (by omega)
        cases e
        obtain ⟨c0, c1, c2, c3, c4⟩ := hc k hlt
        clear hc
        have ht5 : wr.there w.heap.size (k * 5) (brVals (bs.getD k br0)).toArray.size := fun j hj => (by
          have hj' : j < 5 := hj
          have := HTH.out (k * 5 + j) (by omega)
          rw [Nat.zero_add] at this
          exact this)
        have HNEW : Hid ((wr.setCells w.heap.size (k * 5) (brVals (bs.getD k br0))).there w.heap.size 0 (bs.length * 5) ∧ (∀ j, j < k + 1 → BrAt (wr.setCells w.heap.size (k * 5) (brVals (bs.getD k br0))) w.heap.size (j * 5) (bs.getD j br0)) ∧ Below w.heap.size w (wr.setCells w.heap.size (k * 5) (brVals (bs.getD k br0))) ∧ w.heap.size < (wr.setCells w.heap.size (k * 5) (brVals (bs.getD k br0))).heap.size) := by
          refine ⟨World.there_setCells HTH.out _ _ _, fun j hj => ?_, Below.setCells (Nat.le_refl _) _ _ _ HBEL.out, by rw [setCells_size]; exact HGT.out⟩
          by_cases e : j = k
          · subst e
            exact BrAt.of_range (World.rangeAt_setCells_same _ _ _ _ ht5)
          · exact BrAt.of_range (World.rangeAt_setCells_apart (HCUR.out j (by omega)).range _ _ _ (.inr (by simp [brVals]; omega)))
        obtain ⟨o0, t0⟩ := Option.isSome_iff_exists.1 (ht5 0 (by simp [brVals])).1
        obtain ⟨o1, t1⟩ := Option.isSome_iff_exists.1 (ht5 1 (by simp [brVals])).1
        obtain ⟨o2, t2⟩ := Option.isSome_iff_exists.1 (ht5 2 (by simp [brVals])).1
        obtain ⟨o3, t3⟩ := Option.isSome_iff_exists.1 (ht5 3 (by simp [brVals])).1
        obtain ⟨o4, t4⟩ := Option.isSome_iff_exists.1 (ht5 4 (by simp [brVals])).1
        have f0 := (ht5 0 (by simp [brVals])).2
        have f1 := (ht5 1 (by simp [brVals])).2
        have f2 := (ht5 2 (by simp [brVals])).2
        have f3 := (ht5 3 (by simp [brVals])).2
        have f4 := (ht5 4 (by simp [brVals])).2
        rw [Nat.add_zero] at t0 f0
        clear HTH HCUR HBEL HGT ht5
        generalize bs.getD k br0 = x at *
        obtain ⟨xh, xp, xt, xi, xd⟩ := x
        have HN2 : Hid (((((wr.setCell ⟨w.heap.size, k * 5, none⟩ (.string xh)).setCell ⟨w.heap.size, k * 5 + 1, none⟩ (.int .u16 xp)).setCell ⟨w.heap.size, k * 5 + 2, none⟩ (.string xt)).setCell ⟨w.heap.size, k * 5 + 3, none⟩ (.string xi)).setCell ⟨w.heap.size, k * 5 + 4, none⟩ (.string xd) = wr.setCells w.heap.size (k * 5) (brVals ⟨xh, xp, xt, xi, xd⟩)) := rfl
        go_wp2_with fail
        go_roundw
        case rel => exact ⟨k + 1, by omega, by go_num, HNEW.out⟩
        case measure => simp [intOf]; omega
      · have hkn : k = bs.length := by omega
        have HB2 : Hid (Brs (w.heap.size + 1) wr (some ⟨w.heap.size, 0, none⟩) bs) := ⟨HS.out.1, HS.out.2.1, fun _ => ⟨w.heap.size, 0, rfl, by omega, fun j hj => by rw [Nat.zero_add]; exact HCUR.out j (by omega)⟩⟩
        clear HCUR hkn
        go_wp2_with fail
        go_ret
        exact ⟨⟨_, rfl, HB2.out, fun x h => (by cases h; exact ⟨rfl, HGT.out⟩)⟩, HBEL.out⟩

end Go.Proofs.Qxb6605675aFmt
