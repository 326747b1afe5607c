/-
  Seat b6608868a: rows of cells as functions of the index; zzSortedJoin (11).
-/
import Derived.Test.Qxb6608868aSmall
import Derived.Test.Qxb6608868aCount
import Derived.OwnWalk
namespace Go.Proofs.Qxb6608868a
open Go.RowKit

/-- A slice of int64 that came in, below block B: its numbers are A 0 .. A (n - 1). -/
def Ints (B : Nat) (w : World) (a : Option Addr) (n : Nat) (A : Nat → Int) : Prop :=
  n ≤ maxLen ∧ (∀ j, j < n → -9223372036854775808 ≤ A j ∧ A j ≤ 9223372036854775807) ∧ (0 < n → ∃ b off, a = some ⟨b, off, none⟩ ∧ b < B ∧ ∀ j, j < n → w.cell? ⟨b, off + j, none⟩ = some (.int .i64 (A j)))

theorem Ints.below {B : Nat} {w w' : World} {a : Option Addr} {n : Nat} {A : Nat → Int} (h : Ints B w a n A) (hb : Below B w w') : Ints B w' a n A := by
  obtain ⟨h1, h2, h3⟩ := h
  refine ⟨h1, h2, fun hp => ?_⟩
  obtain ⟨b, off, e, hlt, hc⟩ := h3 hp
  exact ⟨b, off, e, hlt, fun j hj => (hb.cell (p := ⟨b, off + j, none⟩) hlt).trans (hc j hj)⟩

def RowF (w : World) (b n : Nat) (F : Nat → Value) : Prop := ∀ j, j < n → w.cell? ⟨b, j, none⟩ = some (F j) ∧ w.frozen? ⟨b, j, none⟩ = false
theorem RowF.below {w w' : World} {b n B : Nat} {F : Nat → Value} (h : RowF w b n F) (hb : Below B w w') (hB : b < B) : RowF w' b n F := fun j hj =>
  ⟨(hb.cell (p := ⟨b, j, none⟩) hB).trans (h j hj).1, (hb.frozen (p := ⟨b, j, none⟩) hB).trans (h j hj).2⟩
theorem RowF.set {w : World} {b n i : Nat} {F : Nat → Value} (h : RowF w b n F) (hi : i < n) (v : Value) : RowF (w.setCell ⟨b, i, none⟩ v) b n (fun j => if j = i then v else F j) := fun j hj => by
  constructor
  · dsimp only
    by_cases e : j = i
    · subst e
      rw [if_pos rfl]
      exact World.cell?_setCell_same _ _ _ (h j hj).1
    · rw [if_neg e]
      rw [World.cell?_setCell_other _ _ _ _ (by intro e1; cases e1; exact e rfl)]
      exact (h j hj).1
  · rw [World.frozen?_setCell]
    exact (h j hj).2
theorem RowF.setInt {w : World} {b n i : Nat} {F : Nat → Int} (h : RowF w b n (fun j => .int .i64 (F j))) (hi : i < n) (x : Int) : RowF (w.setCell ⟨b, i, none⟩ (.int .i64 x)) b n (fun j => .int .i64 (upd F i x j)) := by
  have := h.set hi (.int .i64 x)
  have e : (fun j => if j = i then Value.int .i64 x else .int .i64 (F j)) = fun j => .int .i64 (upd F i x j) := by
    funext j
    unfold upd
    by_cases e : j = i
    · rw [if_pos e, if_pos e]
    · rw [if_neg e, if_neg e]
  rw [e] at this
  exact this
theorem RowF.setOther {w : World} {b n : Nat} {F : Nat → Value} (h : RowF w b n F) {p : Addr} (hp : p.block ≠ b) (v : Value) : RowF (w.setCell p v) b n F := fun j hj =>
  ⟨(World.cell?_setCell_other _ _ _ _ (fun e => hp (by rw [e]))).trans (h j hj).1, (World.frozen?_setCell _ _ _ _).trans (h j hj).2⟩

def zrow (v : Value) (n : Nat) : Array Value := madeCells #[v] n
theorem zrow_at (v : Value) (n j : Nat) (h : j < n) : (zrow v n)[j]? = some v := by
  unfold zrow madeCells
  simp [h, Nat.mod_one]
theorem rowF_made (w : World) (v : Value) (n t : Nat) : RowF (w.alloc (.cells (zrow v n) t)) w.heap.size n (fun _ => v) := fun j hj =>
  ⟨by rw [World.cell?_alloc_new]; exact zrow_at v n j hj, World.frozen?_alloc_new _ _ _ _⟩

theorem info2 : (Try.prog.info? 2).map (fun i => (i.zero, i.size, i.bytes)) = some (some (.int .i64 0), 1, 8) := by kernel_rfl
theorem make22 (n : Int) (h0 : 0 ≤ n) (hn : n ≤ 8192) (w : World) : (Instr.makeSlice 22 (.int .i64 n) (.int .i64 n)).run Try.prog w = .ok (.slice (some ⟨w.heap.size, 0, none⟩) n.toNat n.toNat) (w.alloc (.cells (zrow (.int .i64 0) n.toNat) 2)) := by
  obtain ⟨i, h1, h2, h3, h4⟩ := info_parts info2
  have := run_make (P := Try.prog) w 22 2 i (.int .i64 0) Try.underlying22 h1 h2 .i64 .i64 n n (by omega) (by omega) (by rw [h4]; omega) (by omega)
  rw [this, h3]
  simp [zrow, Value.cells]

/-- The two arrays behind one another. -/
def join (n : Nat) (A B : Nat → Int) : Nat → Int := fun i => if i < n then A i else B (i - n)

/-- What stands in the inner loop: sorted but for the hole at j. -/
structure Hole (F : Nat → Int) (J : Nat → Int) (n k j : Nat) (v : Int) : Prop where
  le : j ≤ k
  lt : k < n
  srt : ∀ a b, a < b → b ≤ k → a ≠ j → b ≠ j → F a ≤ F b
  up : ∀ b, j < b → b ≤ k → v ≤ F b
  cn : ∀ p, cnt p (upd F j v) n = cnt p J n

theorem Hole.start {F J : Nat → Int} {n k : Nat} (hk : k < n) (hs : Sorted F k) (hc : ∀ p, cnt p F n = cnt p J n) : Hole F J n k k (F k) := by
  refine ⟨Nat.le_refl _, hk, fun a b h1 h2 h3 h4 => hs a b h1 (by omega), fun b h1 h2 => by omega, fun p => ?_⟩
  have e : upd F k (F k) = F := by
    funext j
    unfold upd
    by_cases e : j = k
    · rw [if_pos e, e]
    · rw [if_neg e]
  rw [e]
  exact hc p
theorem Hole.step {F J : Nat → Int} {n k j : Nat} {v : Int} (h : Hole F J n k j v) (h0 : 0 < j) (hv : v < F (j - 1)) : Hole (upd F j (F (j - 1))) J n k (j - 1) v := by
  have hle := h.le
  have hlt := h.lt
  refine ⟨by omega, hlt, fun a b h1 h2 h3 h4 => ?_, fun b h1 h2 => ?_, fun p => ?_⟩
  · by_cases ea : a = j
    · subst ea
      rw [upd_same, upd_other _ _ (by omega)]
      exact h.srt (a - 1) b (by omega) h2 (by omega) (by omega)
    · rw [upd_other _ _ ea]
      by_cases eb : b = j
      · subst eb
        rw [upd_same]
        by_cases e : a = b - 1
        · exact absurd e h3
        · exact h.srt a (b - 1) (by omega) (by omega) (by omega) (by omega)
      · rw [upd_other _ _ eb]
        exact h.srt a b h1 h2 ea eb
  · by_cases eb : b = j
    · subst eb
      rw [upd_same]
      omega
    · rw [upd_other _ _ eb]
      exact h.up b (by omega) h2
  · have c1 := cnt_set p F j v n (by omega)
    have c2 := cnt_set p F j (F (j - 1)) n (by omega)
    have c3 := cnt_set p (upd F j (F (j - 1))) (j - 1) v n (by omega)
    rw [upd_other F (F (j - 1)) (show j - 1 ≠ j by omega)] at c3
    have c4 := h.cn p
    omega
theorem Hole.fill {F J : Nat → Int} {n k j : Nat} {v : Int} (h : Hole F J n k j v) (h0 : j = 0 ∨ F (j - 1) ≤ v) : Sorted (upd F j v) (k + 1) ∧ ∀ p, cnt p (upd F j v) n = cnt p J n := by
  have hle := h.le
  refine ⟨fun a b h1 h2 => ?_, h.cn⟩
  by_cases eb : b = j
  · subst eb
    rw [upd_same, upd_other _ _ (by omega)]
    rcases h0 with e | e
    · omega
    · by_cases ea : a = b - 1
      · rw [ea]; exact e
      · have := h.srt a (b - 1) (by omega) (by omega) (by omega) (by omega)
        omega
  · rw [upd_other _ _ eb]
    by_cases ea : a = j
    · subst ea
      rw [upd_same]
      exact h.up b h1 (by omega)
    · rw [upd_other _ _ ea]
      exact h.srt a b h1 (by omega) ea eb

set_option maxHeartbeats 1000000 in
theorem sortedJoin (a0 a1 : Option Addr) (n m cap0 cap1 : Nat) (A0 A1 : Nat → Int) (w : World) (B : Nat) (hB : B ≤ w.heap.size) (h0 : Ints B w a0 n A0) (h1 : Ints B w a1 m A1) (hn : n ≤ 4096) (hm : m ≤ 4096) :
    Calls Try.prog 11 #[.slice a0 n cap0, .slice a1 m cap1] w fun e w' => e = .returned (.slice (some ⟨w.heap.size, 0, none⟩) (n + m) (n + m)) ∧ (∃ S, RowF w' w.heap.size (n + m) (fun j => .int .i64 (S j)) ∧ Sorted S (n + m) ∧ ∀ p, cnt p S (n + m) = cnt p (join n A0 A1) (n + m)) ∧ Below w.heap.size w w' := by
  have H0 := hid h0
  have H1 := hid h1
  clear h0 h1
  have hmk := make22 ((n : Int) + m) (by omega) (by omega)
  rw [show ((n : Int) + m).toNat = n + m by omega] at hmk
  go_enter Try.func11, Try.ntmps11
  go_wp2
  go_loopw [6] (fun i wr => ∃ (k : Nat) (F : Nat → Int), k ≤ n ∧ i = .int .i64 k ∧ RowF wr w.heap.size (n + m) (fun j => .int .i64 (F j)) ∧ (∀ j, j < k → F j = join n A0 A1 j) ∧ Below w.heap.size w wr) (fun i _ => n - (intOf i).toNat)
  case atStart => exact ⟨0, fun _ => 0, Nat.zero_le _, rfl, rowF_made w _ _ _, fun j hj => (by omega), (Below.refl _ _).alloc (Nat.le_refl _) _⟩
  case round =>
    obtain ⟨k, F, hk, rfl, hrow, hF, hnx⟩ := hrel
    by_cases hlt : k < n
    · have hs := H0.out.below (hnx.mono hB)
      obtain ⟨b0, off0, rfl, hb0, hc0'⟩ := hs.2.2 (by omega)
      have hc0 := hc0' k hlt
      obtain ⟨c1, c2⟩ := hrow k (by omega)
      have HR := hid hrow
      have HF := hid hF
      have HN := hid hnx
      have ik : (k : Int) < (n : Int) + m := by omega
      clear hc0' hrow hF hnx hs
      generalize hz : A0 k = z at hc0
      have HZ := hid hz
      clear hz
      go_wp2
      go_roundw
      case rel =>
        exact ⟨k + 1, upd F k z, by omega, by go_num, HR.out.setInt (by omega) z, fun j hj => (by
          by_cases e : j = k
          · rw [e, upd_same]; show z = if k < n then A0 k else _; rw [if_pos hlt]; exact HZ.out.symm
          · rw [upd_other _ _ e]; exact HF.out j (by omega)), HN.out.setCell (by simp) _⟩
      case measure => simp [intOf]; omega
    · have hkn : k = n := by omega
      have hF' : ∀ j, j < n → F j = join n A0 A1 j := fun j hj => hF j (by omega)
      have HR := hid hrow
      have HF := hid hF'
      have HN := hid hnx
      clear hrow hF hF' hnx
      go_wp2
      obtain ⟨wo, rfl⟩ : ∃ wo : World, wo = wr := ⟨_, rfl⟩
      clear hkn
      go_loopw [7] (fun i wr => ∃ (k : Nat) (F : Nat → Int), k ≤ m ∧ i = .int .i64 k ∧ RowF wr w.heap.size (n + m) (fun j => .int .i64 (F j)) ∧ (∀ j, j < n + k → F j = join n A0 A1 j) ∧ Below w.heap.size w wr) (fun i _ => m - (intOf i).toNat)
      case atStart => exact ⟨0, F, Nat.zero_le _, rfl, HR.out, HF.out, HN.out⟩
      case round =>
        clear HR HF HN
        obtain ⟨k', F, hk', rfl, hrow, hF, hnx⟩ := hrel
        by_cases hlt' : k' < m
        · have hs := H1.out.below (hnx.mono hB)
          obtain ⟨b1, off1, rfl, hb1, hc1'⟩ := hs.2.2 (by omega)
          have hc1 := hc1' k' hlt'
          obtain ⟨c1, c2⟩ := hrow (n + k') (by omega)
          have HR := hid hrow
          have HF := hid hF
          have HN := hid hnx
          have ik : (n : Int) + k' < (n : Int) + m := by omega
          clear hc1' hrow hF hnx hs
          generalize hz : A1 k' = z at hc1
          have HZ := hid hz
          clear hz
          go_wp2
          go_roundw
          case rel =>
            exact ⟨k' + 1, upd F (n + k') z, by omega, by go_num, HR.out.setInt (by omega) z, fun j hj => (by
              by_cases e : j = n + k'
              · rw [e, upd_same]; show z = if n + k' < n then _ else A1 (n + k' - n); rw [if_neg (by omega), show n + k' - n = k' by omega]; exact HZ.out.symm
              · rw [upd_other _ _ e]; exact HF.out j (by omega)), HN.out.setCell (by simp) _⟩
          case measure => simp [intOf]; omega
        · have hC : ∀ p, cnt p F (n + m) = cnt p (join n A0 A1) (n + m) := fun p => cnt_congr p (fun j hj => hF j (by omega))
          have HR := hid hrow
          have HC := hid hC
          have HN := hid hnx
          clear hrow hF hC hnx
          go_wp2
          clear hlt hk hlt' hk'
          obtain ⟨wp, rfl⟩ : ∃ wp : World, wp = wr := ⟨_, rfl⟩
          go_loopw [8] (fun i wr => ∃ (k : Nat) (F : Nat → Int), 1 ≤ k ∧ (k ≤ n + m ∨ k = 1) ∧ i = .int .i64 k ∧ RowF wr w.heap.size (n + m) (fun j => .int .i64 (F j)) ∧ Sorted F k ∧ (∀ p, cnt p F (n + m) = cnt p (join n A0 A1) (n + m)) ∧ Below w.heap.size w wr) (fun i _ => n + m - (intOf i).toNat)
          case atStart => exact ⟨1, F, by omega, .inr rfl, rfl, HR.out, fun a b h1 h2 => (by omega), HC.out, HN.out⟩
          case round =>
            clear HR HC HN
            obtain ⟨i, F, hi1, hi2, rfl, hrow, hS, hC, hnx⟩ := hrel
            by_cases hlt : i < n + m
            · have c1 : wr.cell? ⟨w.heap.size, i, none⟩ = some (.int .i64 (F i)) := (hrow i hlt).1
              have c2 := (hrow i hlt).2
              have HR := hid hrow
              have HO : Hid (Hole F (join n A0 A1) (n + m) i i (F i)) := Hole.start hlt hS hC
              have HN := hid hnx
              have ii : (i : Int) < (n : Int) + m := by omega
              generalize F i = v at c1 HO
              clear hrow hS hC hnx
              obtain ⟨wq, rfl⟩ : ∃ wq : World, wq = wr := ⟨_, rfl⟩
              go_wp2
              go_loopw [10] (fun j wr => ∃ (jn : Nat) (F' : Nat → Int), j = .int .i64 jn ∧ RowF wr w.heap.size (n + m) (fun j => .int .i64 (F' j)) ∧ Hole F' (join n A0 A1) (n + m) i jn v ∧ Below w.heap.size w wr) (fun j _ => (intOf j).toNat)
              case atStart => exact ⟨i, F, rfl, HR.out, HO.out, HN.out⟩
              case round =>
                clear HR HO HN c1 c2
                obtain ⟨j, F', rfl, hrow, hH, hnx⟩ := hrel
                have hjl := hH.le
                have c1 : wr.cell? ⟨w.heap.size, j, none⟩ = some (.int .i64 (F' j)) := (hrow j (by omega)).1
                have c2 := (hrow j (by omega)).2
                have ij : (j : Int) < (n : Int) + m := by omega
                have HR := hid hrow
                have HO := hid hH
                have HN := hid hnx
                clear hrow hH hnx
                by_cases hj : 0 < j
                · have d1 : wr.cell? ⟨w.heap.size, j - 1, none⟩ = some (.int .i64 (F' (j - 1))) := (HR.out (j - 1) (by omega)).1
                  have hjd : decide (0 < (j : Int)) = true := decide_eq_true (by omega)
                  have ij1 : (j : Int) - 1 < (n : Int) + m := by omega
                  have ij2 : 0 ≤ (j : Int) - 1 := by omega
                  have ij3 : ((j : Int) - 1).toNat = j - 1 := by omega
                  by_cases hv : v < F' (j - 1)
                  · have HO2 := hid (HO.out.step hj hv)
                    have hvd : decide (v < F' (j - 1)) = true := decide_eq_true hv
                    generalize F' (j - 1) = y at d1 hv hvd HO2
                    go_wp2
                    go_roundw
                    case rel => exact ⟨j - 1, upd F' j y, by rw [show ((j - 1 : Nat) : Int) = (j : Int) - 1 by omega], HR.out.setInt (by omega) y, HO2.out, HN.out.setCell (by simp) _⟩
                    case measure => simp [intOf]; omega
                  · have HO2 := hid (HO.out.fill (.inr (by omega)))
                    have hvd : decide (v < F' (j - 1)) = false := decide_eq_false hv
                    generalize F' (j - 1) = y at d1 hv hvd
                    go_wp2
                    go_roundw
                    case rel => exact ⟨i + 1, upd F' j v, by omega, .inl (by omega), by go_num, HR.out.setInt (by omega) v, HO2.out.1, HO2.out.2, HN.out.setCell (by simp) _⟩
                    case measure => simp [intOf]; omega
                · have HO2 := hid (HO.out.fill (.inl (by omega)))
                  have hj0 : j = 0 := by omega
                  subst hj0
                  clear hj
                  go_wp2
                  go_roundw
                  case rel => exact ⟨i + 1, upd F' 0 v, by omega, .inl (by omega), by go_num, HR.out.setInt (by omega) v, HO2.out.1, HO2.out.2, HN.out.setCell (by simp) _⟩
                  case measure => simp [intOf]; omega
            · have hS' : Sorted F (n + m) := fun a b h1 h2 => hS a b h1 (by omega)
              have HX := hid (And.intro hrow (And.intro hS' (And.intro hC hnx)))
              clear hrow hS hS' hC hnx
              go_wp2
              go_ret
              exact ⟨rfl, ⟨F, HX.out.1, HX.out.2.1, HX.out.2.2.1⟩, HX.out.2.2.2⟩

end Go.Proofs.Qxb6608868a
