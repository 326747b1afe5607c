/-
  Seat b6608868a: two 'latencies' apart; merge (29), ZZmerge (15).
-/
import Derived.Test.Qxb6608868aRank
namespace Go.Proofs.Qxb6608868a
open Go.RowKit

/-- No block is of both. -/
def Own (b : Nat) (G : Nat → Option Nat) (j : Nat) : Prop := j = b ∨ ∃ g, g < 58 ∧ G g = some j
def Apart (b : Nat) (G : Nat → Option Nat) (b' : Nat) (G' : Nat → Option Nat) : Prop := ∀ j, Own b G j → ¬ Own b' G' j
theorem Apart.symm {b b' : Nat} {G G' : Nat → Option Nat} (h : Apart b G b' G') : Apart b' G' b G := fun j h1 h2 => h j h2 h1

theorem cell_of_heap {w w' : World} {b off : Nat} (h : w'.heap[b]? = w.heap[b]?) : w'.cell? ⟨b, off, none⟩ = w.cell? ⟨b, off, none⟩ := by
  unfold World.cell?
  simp only [h]
theorem frozen_of_heap {w w' : World} {b off : Nat} (h : w'.heap[b]? = w.heap[b]?) : w'.frozen? ⟨b, off, none⟩ = w.frozen? ⟨b, off, none⟩ := by
  unfold World.frozen?
  simp only [h]

theorem Lat.own_lt {w : World} {b : Nat} {c : Int} {G : Nat → Option Nat} {C : Nat → Int} (h : Lat w b c G C) {j : Nat} (hj : Own b G j) : j < w.heap.size := by
  rcases hj with rfl | ⟨g, hg, e⟩
  · exact h.lt
  · exact (h.row g j hg e).2.1

/-- What turns in another leaves this one. -/
theorem Lat.only {w w' : World} {b b' : Nat} {c : Int} {G G' : Nat → Option Nat} {C : Nat → Int} (h : Lat w b c G C) (ho : Only w w' b' G') (ha : Apart b G b' G') : Lat w' b c G C := by
  have hk : ∀ j, Own b G j → w'.heap[j]? = w.heap[j]? := fun j hj => ho.block j (h.own_lt hj) (fun e => ha j hj (.inl e)) (fun g hg e => ha j hj (.inr ⟨g, hg, e⟩))
  have hb := hk b (.inl rfl)
  refine ⟨Nat.lt_of_lt_of_le h.lt ho.size, ⟨(cell_of_heap hb).trans h.cc.1, (frozen_of_heap hb).trans h.cc.2⟩, fun g hg => ⟨(cell_of_heap hb).trans (h.gp g hg).1, (frozen_of_heap hb).trans (h.gp g hg).2⟩, fun g x hg hx => ?_, h.nil, h.inj⟩
  obtain ⟨h1, h2, h3⟩ := h.row g x hg hx
  have hx' := hk x (.inr ⟨g, hg, hx⟩)
  exact ⟨h1, Nat.lt_of_lt_of_le h2 ho.size, fun i hi => ⟨(cell_of_heap hx').trans (h3 i hi).1, (frozen_of_heap hx').trans (h3 i hi).2⟩⟩

/-- New arrays of one are apart from the other. -/
theorem Apart.more {w : World} {b b' : Nat} {c : Int} {G G' G'' : Nat → Option Nat} {C : Nat → Int} (ha : Apart b G b' G') (h : Lat w b c G C) (hm : More w.heap.size G' G'') : Apart b G b' G'' := fun j hj hj' => by
  rcases hj' with e | ⟨g, hg, e⟩
  · exact ha j hj (.inl e)
  · rcases hm g j hg e with e' | e'
    · exact ha j hj (.inr ⟨g, hg, e'⟩)
    · have := h.own_lt hj
      omega

theorem Only.trans {w w1 w2 : World} {b : Nat} {G G1 : Nat → Option Nat} (h : Only w w1 b G) (hm : More w.heap.size G G1) (h' : Only w1 w2 b G1) : Only w w2 b G :=
  ⟨h'.os.trans h.os, h'.tape.trans h.tape, h'.output.trans h.output, Nat.le_trans h.size h'.size, fun j h1 h2 h3 => (h'.block j (Nat.lt_of_lt_of_le h1 h.size) h2 (fun g hg e => by
    rcases hm g j hg e with e' | e'
    · exact h3 g hg e'
    · omega)).trans (h.block j h1 h2 h3)⟩
theorem Only.drewN {w w' : World} {b : Nat} {G : Nat → Option Nat} (h : Only w w' b G) (q : Nat) : Only w (w'.drewN q) b G := ⟨h.os, h.tape, h.output, h.size, h.block⟩
theorem More.trans {n n1 : Nat} {G G1 G2 : Nat → Option Nat} (h : More n G G1) (hn : n ≤ n1) (h' : More n1 G1 G2) : More n G G2 := fun g x hg hx => by
  rcases h' g x hg hx with e | e
  · exact h g x hg e
  · exact .inr (by omega)
theorem More.refl (n : Nat) (G : Nat → Option Nat) : More n G G := fun _ _ _ h => .inl h

/-- The counts C with those of D below k added. -/
def mix (C D : Nat → Int) (k : Nat) : Nat → Int := fun j => if j < k then C j + D j else C j
theorem mix_at (C D : Nat → Int) (k : Nat) : mix C D k k = C k := if_neg (Nat.lt_irrefl _)
theorem mix_zero (C D : Nat → Int) : mix C D 0 = C := by
  funext j
  exact if_neg (by omega)
theorem mix_step (C D : Nat → Int) (k : Nat) : upd (mix C D k) k (mix C D k k + D k) = mix C D (k + 1) := by
  funext j
  by_cases e : j = k
  · subst e
    rw [upd_same, mix_at]
    exact (if_pos (by omega)).symm
  · rw [upd_other _ _ e]
    unfold mix
    by_cases h : j < k
    · rw [if_pos h, if_pos (by omega)]
    · rw [if_neg h, if_neg (by omega)]
theorem mix_skip (C D : Nat → Int) (k : Nat) (h : D k = 0) : mix C D k = mix C D (k + 1) := by
  rw [← mix_step, h]
  funext j
  by_cases e : j = k
  · subst e
    rw [upd_same, Int.add_zero]
  · rw [upd_other _ _ e]

/-- How far the merge has come: the first k bins. -/
def Mrg (w : World) (b : Nat) (c : Int) (G : Nat → Option Nat) (C D : Nat → Int) (k : Nat) (wr : World) : Prop :=
  ∃ G', Lat wr b (c + pre D k) G' (mix C D k) ∧ More w.heap.size G G' ∧ Only w wr b G

theorem Mrg.zero {w : World} {b : Nat} {c : Int} {G : Nat → Option Nat} {C : Nat → Int} (D : Nat → Int) (h : Lat w b c G C) : Mrg w b c G C D 0 w :=
  ⟨G, by rw [mix_zero]; show Lat w b (c + 0) G C; rw [Int.add_zero]; exact h, More.refl _ _, Only.refl _ _ _⟩
theorem Mrg.drewN {w : World} {b : Nat} {c : Int} {G : Nat → Option Nat} {C D : Nat → Int} {k : Nat} {wr : World} (h : Mrg w b c G C D k wr) (q : Nat) : Mrg w b c G C D k (wr.drewN q) := by
  obtain ⟨G', h1, h2, h3⟩ := h
  exact ⟨G', h1.drewN q, h2, h3.drewN q⟩
theorem Mrg.skip {w : World} {b : Nat} {c : Int} {G : Nat → Option Nat} {C D : Nat → Int} {k : Nat} {wr : World} (h : Mrg w b c G C D k wr) (h0 : D k = 0) : Mrg w b c G C D (k + 1) wr := by
  obtain ⟨G', h1, h2, h3⟩ := h
  refine ⟨G', ?_, h2, h3⟩
  rw [← mix_skip C D k h0]
  show Lat wr b (c + (pre D k + D k)) G' _
  rw [h0, Int.add_zero]
  exact h1
theorem Mrg.skips {w : World} {b : Nat} {c : Int} {G : Nat → Option Nat} {C D : Nat → Int} {k : Nat} {wr : World} (h : Mrg w b c G C D k wr) : ∀ n, (∀ i, i < n → D (k + i) = 0) → Mrg w b c G C D (k + n) wr
  | 0, _ => h
  | n + 1, hz => (Mrg.skips h n (fun i hi => hz i (by omega))).skip (hz n (by omega))

set_option maxHeartbeats 1000000 in
set_option maxRecDepth 100000 in
theorem merge (b : Nat) (c : Int) (G : Nat → Option Nat) (C : Nat → Int) (b2 : Nat) (c2 : Int) (G2 : Nat → Option Nat) (D : Nat → Int) (w : World) (hL : Lat w b c G C) (hM : Lat w b2 c2 G2 D) (hA : Apart b2 G2 b G)
    (hC : ∀ j, 0 ≤ C j ∧ C j ≤ 100000) (hD : ∀ j, 0 ≤ D j ∧ D j ≤ 100000) (hc0 : 0 ≤ c) (hc1 : c ≤ 100000) (hp : pre D 3712 ≤ 100000) :
    Calls Try.prog 29 #[.pointer (some ⟨b, 0, none⟩), .pointer (some ⟨b2, 0, none⟩)] w fun e w' => e = .returned (.tuple #[]) ∧ Mrg w b c G C D 3712 w' := by
  have hload := gvals_cells hM
  have hlen : (Try.prog.info? 51).map (·.size) = some (gvals G2).length := by rw [gvals_len]; exact size51
  have HL := hid hL
  have HM := hid hM
  have HA := hid hA
  have HC := hid hC
  have HD := hid hD
  have HP := hid hp
  clear hL hM hA hC hD hp
  go_enter Try.func29, Try.ntmps29
  go_wp2_with (refine wpList_load_mid rfl 51 _ rfl b2 1 rfl (gvals G2) _ hload Try.underlying51 rfl hlen ?_)
  clear hload hlen
  go_loopw [12] (fun i wr => ∃ g : Nat, g ≤ 58 ∧ i = .int .i64 g ∧ Mrg w b c G C D (64 * g) wr) (fun i _ => 58 - (intOf i).toNat)
  case atStart => exact ⟨0, by omega, rfl, Mrg.zero D HL.out⟩
  case round =>
    obtain ⟨g, hg, rfl, hmrg⟩ := hrel
    have HMRG := hid hmrg
    clear hmrg
    by_cases hlt : g < 58
    · have hgd : decide ((g : Int) < 58) = true := decide_eq_true (by omega)
      have hix := index51 G2 hlt
      rcases hgg : G2 g with _ | x
      · rw [hgg] at hix
        have hix' : ∀ w, (Instr.index 51 (.agg (gvals G2).toArray) (.int .i64 g)).run Try.prog w = .ok (.pointer none) w := hix
        have HZ : Hid (Mrg w b c G C D (64 * (g + 1)) wr) := by
          show Mrg _ _ _ _ _ _ _ _
          rw [show 64 * (g + 1) = 64 * g + 64 by omega]
          exact HMRG.out.skips 64 (fun i hi => HM.out.nil g hlt hgg i hi)
        clear hix hgg HMRG
        go_wp2
        go_roundw
        case rel => exact ⟨g + 1, by omega, by go_num, HZ.out⟩
        case measure => simp [intOf]; omega
      · rw [hgg] at hix
        have hix' : ∀ w, (Instr.index 51 (.agg (gvals G2).toArray) (.int .i64 g)).run Try.prog w = .ok (.pointer (some ⟨x, 0, none⟩)) w := hix
        have HGG := hid hgg
        clear hix hgg
        go_wp2
        obtain ⟨wo, rfl⟩ : ∃ wo : World, wo = wr := ⟨_, rfl⟩
        go_loopw [19] (fun i wr => ∃ j : Nat, j ≤ 64 ∧ i = .int .i64 j ∧ Mrg w b c G C D (64 * g + j) wr) (fun i _ => 64 - (intOf i).toNat)
        case atStart => exact ⟨0, by omega, rfl, HMRG.out⟩
        case round =>
          obtain ⟨j, hj, rfl, hmrg⟩ := hrel
          have HM1 := hid hmrg
          clear hmrg HMRG
          by_cases hlj : j < 64
          · have hcell : wr.cell? ⟨x, j, none⟩ = some (.int .i64 (D (64 * g + j))) := by
              obtain ⟨G', h1, h2, h3⟩ := HM1.out
              exact (((HM.out.only h3 HA.out).row g x hlt HGG.out).2.2 j hlj).1
            have hb := HD.out (64 * g + j)
            have ij : (j : Int) < 64 := by omega
            have ij0 : (0 : Int) ≤ (j : Int) := by omega
            obtain ⟨hb0, hb1⟩ := hb
            by_cases hz : D (64 * g + j) = 0
            · have HS := hid (HM1.out.skip hz)
              rw [hz] at hcell
              clear hz hb0 hb1 HM1
              go_wp2_with fail
              go_quiet (fail)
              go_wp2_with fail
              go_roundw
              case rel => exact ⟨j + 1, by omega, by go_num, HS.out.drewN _⟩
              case measure => simp [intOf]; omega
            · obtain ⟨y, hy⟩ : ∃ y, D (64 * g + j) = y := ⟨_, rfl⟩
              have HY := hid hy
              rw [hy] at hcell hb0 hb1 hz
              clear hy
              go_wp2_with fail
              go_quiet (fail)
              go_wp2_with fail
              rw [show (g : Int) * 64 + j = ((64 * g + j : Nat) : Int) by omega]
              obtain ⟨G', hlat, hmore, honly⟩ := HM1.out.drewN nq
              have p0 : 0 ≤ pre D (64 * g + j) := pre_mono (fun j => (HD.out j).1) (Nat.zero_le _)
              have p1 : pre D (64 * g + j) ≤ 100000 := Int.le_trans (pre_mono (fun j => (HD.out j).1) (by omega)) HP.out
              have c0 := HC.out (64 * g + j)
              refine (addToBin b _ G' _ (64 * g + j) (by omega) y _ hlat (by omega) (by omega) (by rw [mix_at]; omega) (by rw [mix_at]; omega) (by omega) (by omega)).mono ?_
              rintro e w9 ⟨rfl, G'', hlat', hmore', honly'⟩
              have HS : Hid (Mrg w b c G C D (64 * g + (j + 1)) w9) := by
                refine ⟨G'', ?_, hmore.trans honly.size hmore', honly.trans hmore honly'⟩
                rw [show 64 * g + (j + 1) = 64 * g + j + 1 by omega, ← mix_step]
                show Lat w9 b (c + (pre D (64 * g + j) + D (64 * g + j))) G'' _
                rw [HY.out, ← Int.add_assoc]
                exact hlat'
              clear hlat hmore honly p0 p1 c0 hlat' hmore' honly' HM1
              go_wp2_with fail
              go_roundw
              case rel => exact ⟨j + 1, by omega, by go_num, HS.out⟩
              case measure => simp [intOf]; omega
          · have hj64 : j = 64 := by omega
            have HE : Hid (Mrg w b c G C D (64 * (g + 1)) wr) := by
              have := HM1.out
              rw [hj64] at this
              exact this
            clear HM1 hj64
            go_wp2_with fail
            go_roundw
            case rel => exact ⟨g + 1, by omega, by go_num, HE.out⟩
            case measure => simp [intOf]; omega
    · have hg58 : g = 58 := by omega
      have HE : Hid (Mrg w b c G C D 3712 wr) := by
        have := HMRG.out
        rw [hg58] at this
        exact this
      clear hg58 HMRG
      go_wp2_with fail
      go_end0
      exact ⟨rfl, HE.out⟩

theorem zzMerge (b : Nat) (c : Int) (G : Nat → Option Nat) (C : Nat → Int) (b2 : Nat) (c2 : Int) (G2 : Nat → Option Nat) (D : Nat → Int) (w : World) (hL : Lat w b c G C) (hM : Lat w b2 c2 G2 D) (hA : Apart b2 G2 b G)
    (hC : ∀ j, 0 ≤ C j ∧ C j ≤ 100000) (hD : ∀ j, 0 ≤ D j ∧ D j ≤ 100000) (hc0 : 0 ≤ c) (hc1 : c ≤ 100000) (hp : pre D 3712 ≤ 100000) :
    Calls Try.prog 15 #[.pointer (some ⟨b, 0, none⟩), .pointer (some ⟨b2, 0, none⟩)] w fun e w' => e = .returned (.tuple #[]) ∧ Mrg w b c G C D 3712 w' := by
  go_enter Try.func15, Try.ntmps15
  go_wp2_with fail
  refine (merge b c G C b2 c2 G2 D _ hL hM hA hC hD hc0 hc1 hp).mono ?_
  rintro e w1 ⟨rfl, hx⟩
  have HX := hid hx
  clear hx hL hM hA hC hD
  go_wp2_with fail
  go_end0
  exact ⟨rfl, HX.out⟩

end Go.Proofs.Qxb6608868a
