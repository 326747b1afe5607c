/-
  Seat b6608868a: a whole array loaded out of the middle of a block; atRank (28), ZZatRank (12).
-/
import Derived.Test.Qxb6608868aLat
import Derived.Laws.Rows
import Derived.Deep.QuietTactic
import Derived.BigQuiet
namespace Go.Proofs.Qxb6608868a
open Go.RowKit

theorem run_loadVar_mid {P : Program} (w : World) (g off : Nat) (ty : TypeId) (vs : List Value) (d : TypeDesc) (hc : ∀ j v, vs[j]? = some v → w.cell? ⟨g, off + j, none⟩ = some v)
    (hu : P.underlying ty = some d) (hd : (match d with | .struct _ | .array _ _ => true | _ => false) = true) (hi : (P.info? ty).map (·.size) = some vs.length) :
    (loadVar ty ⟨g, off, none⟩).run P w = .ok (.agg vs.toArray) w := by
  have hl : (loadCells ⟨g, off, none⟩ vs.length).run P w = .ok vs.toArray w :=
    run_loadCells_list (P := P) w ⟨g, off, none⟩ vs (fun j v hv => by
      rw [Go.WideShapes.add_plain]
      exact hc j v hv)
  cases hq : P.info? ty with
  | none => simp [hq] at hi
  | some i =>
    have hs : i.size = vs.length := by simpa [hq] using hi
    have hagg : (isAgg ty).run P w = .ok true w := by
      unfold isAgg
      rw [Sem.run_bind, run_underlying hu w]
      cases d <;> simp_all
    simp [loadVar, Sem.run_bind, hagg, sizeOf, typeInfo, hq, hs, hl]

theorem wpList_load_mid {P : Program} {ops : Array Oper} {rest : List Oper} {o : Oper} {a : Act} {w : World} {Q : Exit → Act → World → Prop} (hgd : o.guard = none) (ty : TypeId) (x : Operand) (ho : o.op = .load ty x)
    (g off : Nat) (hx : a.eval x = .pointer (some ⟨g, off, none⟩)) (vs : List Value) (d : TypeDesc) (hc : ∀ j v, vs[j]? = some v → w.cell? ⟨g, off + j, none⟩ = some v)
    (hu : P.underlying ty = some d) (hd : (match d with | .struct _ | .array _ _ => true | _ => false) = true) (hi : (P.info? ty).map (·.size) = some vs.length)
    (h : wpList P ops Q rest (a.put o.dst (.agg vs.toArray)) w) : wpList P ops Q (o :: rest) a w := by
  refine wpList_plain hgd fun K hK => ?_
  unfold Oper.wp execOp
  simp only [ho, hx, Instr.loadAt, Instr.sureAddr, Sem.run_bind, Sem.run_pure, Result.andThen_ok, run_loadVar_mid w g off ty vs d hc hu hd hi]
  exact hK _ _ h

def gvals (G : Nat → Option Nat) : List Value := (List.range 58).map fun g => gptr (G g)
theorem gvals_len (G : Nat → Option Nat) : (gvals G).length = 58 := by simp [gvals]
theorem gvals_at (G : Nat → Option Nat) {g : Nat} (h : g < 58) : (gvals G)[g]? = some (gptr (G g)) := by simp [gvals, h]
theorem gvals_cells {w : World} {b : Nat} {c : Int} {G : Nat → Option Nat} {C : Nat → Int} (h : Lat w b c G C) : ∀ j v, (gvals G)[j]? = some v → w.cell? ⟨b, 1 + j, none⟩ = some v := fun j v hv => by
  have hj : j < 58 := by
    have := (List.getElem?_eq_some_iff.1 hv).1
    rw [gvals_len] at this
    exact this
  rw [gvals_at G hj] at hv
  cases hv
  exact (h.gp j hj).1

theorem index51 (G : Nat → Option Nat) {g : Nat} (h : g < 58) (w : World) : (Instr.index 51 (.agg (gvals G).toArray) (.int .i64 g)).run Try.prog w = .ok (gptr (G g)) w := by
  have hu : Try.prog.underlying 51 = some (.array 58 50) := Try.underlying51
  have hs : (sizeOf 50).run Try.prog w = .ok 1 w := by kernel_rfl
  unfold Instr.index
  simp [asIntOf, Sem.run_bind, run_underlying hu, hs, part, h, gvals_at G h]

theorem size51 : (Try.prog.info? 51).map (·.size) = some 58 := by kernel_rfl

theorem pre_zero {C : Nat → Int} {a : Nat} : ∀ {k : Nat}, (∀ i, i < k → C (a + i) = 0) → pre C (a + k) = pre C a
  | 0, _ => rfl
  | k + 1, h => by
    show pre C (a + k) + C (a + k) = pre C a
    rw [pre_zero (fun i hi => h i (by omega)), h k (by omega)]
    omega

theorem Lat.drewN {w : World} {b : Nat} {c : Int} {G : Nat → Option Nat} {C : Nat → Int} (h : Lat w b c G C) (q : Nat) : Lat (w.drewN q) b c G C := ⟨h.lt, h.cc, h.gp, h.row, h.nil, h.inj⟩

set_option maxHeartbeats 1000000 in
set_option maxRecDepth 100000 in
theorem atRank (b : Nat) (c : Int) (G : Nat → Option Nat) (C : Nat → Int) (r : Int) (w : World) (hL : Lat w b c G C) (hC : ∀ j, 0 ≤ C j ∧ C j ≤ 1000000) (hr0 : 1 ≤ r) (hr1 : r ≤ 1000000) (hr : r ≤ pre C 3712) (hp : pre C 3712 ≤ 1000000) :
    Calls Try.prog 28 #[.pointer (some ⟨b, 0, none⟩), .int .i64 r] w fun e w' => (∃ B, Falls C r B ∧ e = .returned (.int .i64 (midOf B))) ∧ ∃ q, w' = w.drewN q := by
  have hload := gvals_cells hL
  have hlen : (Try.prog.info? 51).map (·.size) = some (gvals G).length := by rw [gvals_len]; exact size51
  have HL := hid hL
  have HC := hid hC
  clear hL hC
  go_enter Try.func28, Try.ntmps28
  go_wp2_with (refine wpList_load_mid rfl 51 _ rfl b 1 rfl (gvals G) _ hload Try.underlying51 rfl hlen ?_)
  clear hload hlen
  go_loopw [1, 13] (fun x i wr => ∃ (g q : Nat), g ≤ 58 ∧ i = .int .i64 g ∧ x = .int .i64 (r - pre C (64 * g)) ∧ 0 < r - pre C (64 * g) ∧ wr = w.drewN q) (fun _ i _ => 58 - (intOf i).toNat)
  case atStart => exact ⟨0, 0, by omega, rfl, by show _ = Value.int .i64 (r - 0); rw [Int.sub_zero], by show 0 < r - 0; omega, rfl⟩
  case round =>
    obtain ⟨g, q, hg, rfl, rfl, hpos, hwr⟩ := hrel
    have HPOS := hid hpos
    have hpre0 : 0 ≤ pre C (64 * g) := pre_mono (fun j => (HC.out j).1) (Nat.zero_le _)
    have hpre1 : pre C (64 * g) ≤ 1000000 := Int.le_trans (pre_mono (fun j => (HC.out j).1) (by omega)) hp
    by_cases hlt : g < 58
    · have hgd : decide ((g : Int) < 58) = true := decide_eq_true (by omega)
      have hix := index51 G hlt
      rcases hgg : G g with _ | x
      · rw [hgg] at hix
        have hix' : ∀ w, (Instr.index 51 (.agg (gvals G).toArray) (.int .i64 g)).run Try.prog w = .ok (.pointer none) w := hix
        have HZ : Hid (pre C (64 * (g + 1)) = pre C (64 * g)) := by
          show _ = _
          rw [show 64 * (g + 1) = 64 * g + 64 by omega]
          exact pre_zero (fun i hi => HL.out.nil g hlt hgg i hi)
        have HW := hid hwr
        clear hix hgg hwr hpos
        generalize pre C (64 * g) = y at *
        go_wp2
        go_roundw
        case rel => exact ⟨g + 1, q, by omega, by go_num, by rw [HZ.out], by rw [HZ.out]; exact HPOS.out, HW.out⟩
        case measure => simp [intOf]; omega
      · rw [hgg] at hix
        have hix' : ∀ w, (Instr.index 51 (.agg (gvals G).toArray) (.int .i64 g)).run Try.prog w = .ok (.pointer (some ⟨x, 0, none⟩)) w := hix
        have HROW : Hid (RowF w x 64 (fun i => .int .i64 (C (64 * g + i)))) := (HL.out.row g x hlt hgg).2.2
        have HW := hid hwr
        clear hix hgg hwr
        go_wp2
        obtain ⟨wo, rfl⟩ : ∃ wo : World, wo = wr := ⟨_, rfl⟩
        go_loopw [1, 20] (fun y i wr => ∃ (j q : Nat), j ≤ 64 ∧ i = .int .i64 j ∧ y = .int .i64 (r - pre C (64 * g + j)) ∧ 0 < r - pre C (64 * g + j) ∧ wr = w.drewN q) (fun _ i _ => 64 - (intOf i).toNat)
        case atStart => exact ⟨0, q, by omega, rfl, rfl, HPOS.out, HW.out⟩
        case round =>
          obtain ⟨j, q', hj, rfl, rfl, hpos', hwr⟩ := hrel
          have HPOS' := hid hpos'
          have HW' := hid hwr
          have qre0 : 0 ≤ pre C (64 * g + j) := pre_mono (fun j => (HC.out j).1) (Nat.zero_le _)
          have qre1 : pre C (64 * g + j) ≤ 1000000 := Int.le_trans (pre_mono (fun j => (HC.out j).1) (by omega)) hp
          by_cases hlj : j < 64
          · have hcell : wr.cell? ⟨x, j, none⟩ = some (.int .i64 (C (64 * g + j))) := by rw [hwr]; exact (HROW.out j hlj).1
            have hb := HC.out (64 * g + j)
            have ij : (j : Int) < 64 := by omega
            have ij0 : (0 : Int) ≤ (j : Int) := by omega
            have HE : Hid (pre C (64 * g + (j + 1)) = pre C (64 * g + j) + C (64 * g + j)) := rfl
            obtain ⟨hb0, hb1⟩ := hb
            clear hwr hpos hpos' hpre0 hpre1
            by_cases hle : r - pre C (64 * g + j) - C (64 * g + j) ≤ 0
            · have HF : Hid (Falls C r (64 * g + j)) := ⟨by omega, by have := HPOS'.out; omega, by show r ≤ pre C (64 * g + j) + C (64 * g + j); omega⟩
              generalize C (64 * g + j) = z at hcell hb0 hb1 hle HE
              generalize pre C (64 * g + j) = y at *
              go_wp2_with fail
              go_quiet (fail)
              go_wp2_with fail
              rw [show (g : Int) * 64 + j = ((64 * g + j : Nat) : Int) by omega]
              refine (binMiddle (64 * g + j) (by omega) _).mono ?_
              rintro e w9 ⟨rfl, rfl⟩
              have HWF : Hid (∃ q, wr.drewN nq = w.drewN q) := ⟨q' + nq, by rw [HW'.out]; exact World.drewN_drewN _ _ _⟩
              go_wp2_with fail
              go_ret
              exact ⟨⟨_, HF.out, rfl⟩, HWF.out⟩
            · generalize C (64 * g + j) = z at hcell hb0 hb1 hle HE
              generalize pre C (64 * g + j) = y at *
              go_wp2_with fail
              go_quiet (fail)
              go_wp2_with fail
              go_roundw
              case rel => exact ⟨j + 1, q' + nq, by omega, by go_num, by rw [HE.out, Int.sub_sub], by rw [HE.out]; omega, by rw [HW'.out]; exact World.drewN_drewN _ _ _⟩
              case measure => simp [intOf]; omega
          · have hj64 : j = 64 := by omega
            have HE : Hid (pre C (64 * (g + 1)) = pre C (64 * g + j)) := by show _ = _; rw [hj64]; rfl
            clear hpos hpos' hpre0 hpre1 hwr
            generalize pre C (64 * g + j) = y at *
            clear hj64
            go_wp2_with fail
            go_roundw
            case rel => exact ⟨g + 1, q', by omega, by go_num, by rw [HE.out], by rw [HE.out]; exact HPOS'.out, HW'.out⟩
            case measure => simp [intOf]; omega
    · exfalso
      have : g = 58 := by omega
      subst this
      rw [show 64 * 58 = 3712 from rfl] at hpos
      omega

theorem zzAtRank (b : Nat) (c : Int) (G : Nat → Option Nat) (C : Nat → Int) (r : Int) (w : World) (hL : Lat w b c G C) (hC : ∀ j, 0 ≤ C j ∧ C j ≤ 1000000) (hr0 : 1 ≤ r) (hr1 : r ≤ 1000000) (hr : r ≤ pre C 3712) (hp : pre C 3712 ≤ 1000000) :
    Calls Try.prog 12 #[.pointer (some ⟨b, 0, none⟩), .int .i64 r] w fun e w' => (∃ B, Falls C r B ∧ e = .returned (.int .i64 (midOf B))) ∧ ∃ q, w' = w.drewN q := by
  go_enter Try.func12, Try.ntmps12
  go_wp2_with fail
  refine (atRank b c G C r _ hL hC hr0 hr1 hr hp).mono ?_
  rintro e w1 ⟨⟨B, hB, rfl⟩, hq⟩
  have HB := hid hB
  have HQ := hid hq
  clear hL hC hB hq hr hp
  go_wp2_with fail
  go_ret
  exact ⟨⟨B, HB.out, rfl⟩, HQ.out⟩

end Go.Proofs.Qxb6608868a
