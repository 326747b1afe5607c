/-
  Seat b6605675aF: branchesBytes (24), sizeOK (7).
-/
import Derived.Test.Qxb6605675aFmtBase
namespace Go.Proofs.Qxb6605675aFmt
open Go.RowKit

/-- What branchesBytes tells: beyond the ceiling; or a number within it, and then the branches are few and their texts short. -/
def BrsTold (bs : List Br) (e : Ending) : Prop := e = .returned (.int .i64 (-1)) ∨ ∃ r : Int, e = .returned (.int .i64 r) ∧ 0 ≤ r ∧ r ≤ 1048576 ∧ bs.length ≤ 65536 ∧ ∀ j, j < bs.length → (bs.getD j br0).host.size ≤ 1048576 ∧ (bs.getD j br0).path.size ≤ 1048576 ∧ (bs.getD j br0).id.size ≤ 1048576 ∧ (bs.getD j br0).ident.size ≤ 1048576

set_option maxHeartbeats 2000000 in
theorem branchesBytes (a : Option Addr) (bs : List Br) (cap : Nat) (w : World) (B : Nat) (hB : B ≤ w.heap.size) (hs : Brs B w a bs) :
    Calls Tryf.prog 24 #[.slice a bs.length cap] w fun e w' => BrsTold bs e ∧ Below B w w' := by
  have hn := hs.2.1
  unfold maxLen at hn
  have HS := hid hs
  clear hs
  by_cases hl : 65536 < (bs.length : Int)
  · go_enter Tryf.func24, Tryf.ntmps24
    go_wp2
    go_ret
    exact ⟨.inl rfl, Below.refl _ _⟩
  have hld : decide (65536 < (bs.length : Int)) = false := decide_eq_false hl
  go_enter Tryf.func24, Tryf.ntmps24
  go_wp2
  go_loopw [3, 4] (fun t i wr => ∃ (k : Nat) (x : Int), k ≤ bs.length ∧ i = .int .i64 k ∧ t = .int .i64 x ∧ 0 ≤ x ∧ x ≤ 1048576 ∧ Below B w wr ∧ ∀ j, j < k → (bs.getD j br0).host.size ≤ 1048576 ∧ (bs.getD j br0).path.size ≤ 1048576 ∧ (bs.getD j br0).id.size ≤ 1048576 ∧ (bs.getD j br0).ident.size ≤ 1048576) (fun _ i _ => bs.length - (intOf i).toNat)
  case atStart => exact ⟨0, 0, Nat.zero_le _, rfl, rfl, by omega, by omega, Below.refl _ _, fun j hj => (by omega)⟩
  case round =>
    obtain ⟨k, x, hk, rfl, rfl, hx0, hx1, hbel, hall⟩ := hrel
    have HBEL := hid hbel
    have HALL := hid hall
    clear hbel hall
    by_cases hk' : k < bs.length
    · obtain ⟨b, off, rfl, hbB, hc⟩ := (HS.out.below HBEL.out).2.2 (by omega)
      obtain ⟨c0, c1, c2, c3, c4⟩ := hc k hk'
      have ok := HS.out.ok k
      have s0 := ok.host
      have s2 := ok.path
      have s3 := ok.id
      have s4 := ok.ident
      have HX : Hid ((bs.getD k br0).host.size ≤ 1048576 ∧ (bs.getD k br0).path.size ≤ 1048576 ∧ (bs.getD k br0).id.size ≤ 1048576 ∧ (bs.getD k br0).ident.size ≤ 1048576 → ∀ j, j < k + 1 → (bs.getD j br0).host.size ≤ 1048576 ∧ (bs.getD j br0).path.size ≤ 1048576 ∧ (bs.getD j br0).id.size ≤ 1048576 ∧ (bs.getD j br0).ident.size ≤ 1048576) := fun h j hj => (by
        by_cases e : j = k
        · rw [e]; exact h
        · exact HALL.out j (by omega))
      have hsz : w.heap.size ≤ wr.heap.size := HBEL.out.size
      have HN : ∀ o, Hid (Below B w (wr.alloc o)) := fun o => HBEL.out.alloc (by omega) o
      clear hc ok HALL
      generalize (bs.getD k br0).host = h0 at *
      generalize (bs.getD k br0).port = p0 at *
      generalize (bs.getD k br0).path = t0 at *
      generalize (bs.getD k br0).id = i0 at *
      generalize (bs.getD k br0).ident = d0 at *
      unfold maxLen at s0 s2 s3 s4
      by_cases q0 : 1048576 < (h0.size : Int)
      · go_wp2
        go_ret
        exact ⟨.inl rfl, HN _⟩
      have r0 : decide (1048576 < (h0.size : Int)) = false := decide_eq_false q0
      by_cases q2 : 1048576 < (t0.size : Int)
      · go_wp2
        go_ret
        exact ⟨.inl rfl, HN _⟩
      have r2 : decide (1048576 < (t0.size : Int)) = false := decide_eq_false q2
      by_cases q3 : 1048576 < (i0.size : Int)
      · go_wp2
        go_ret
        exact ⟨.inl rfl, HN _⟩
      have r3 : decide (1048576 < (i0.size : Int)) = false := decide_eq_false q3
      by_cases q4 : 1048576 < (d0.size : Int)
      · go_wp2
        go_ret
        exact ⟨.inl rfl, HN _⟩
      have r4 : decide (1048576 < (d0.size : Int)) = false := decide_eq_false q4
      have HY := hid (HX.out (by omega))
      by_cases hz : 1048576 < x + (88 + (h0.size : Int) + t0.size + i0.size + d0.size)
      · go_wp2
        go_ret
        exact ⟨.inl rfl, HN _⟩
      · go_wp2
        go_roundw
        case rel => exact ⟨k + 1, _, by omega, by go_num, rfl, by omega, by omega, HN _, HY.out⟩
        case measure => simp [intOf]; omega
    · have hkn : k = bs.length := by omega
      have HALL' : Hid (∀ j, j < bs.length → (bs.getD j br0).host.size ≤ 1048576 ∧ (bs.getD j br0).path.size ≤ 1048576 ∧ (bs.getD j br0).id.size ≤ 1048576 ∧ (bs.getD j br0).ident.size ≤ 1048576) := by have := HALL.out; rw [hkn] at this; exact this
      clear HALL hkn
      go_wp2
      go_ret
      exact ⟨.inr ⟨_, rfl, hx0, hx1, by omega, HALL'.out⟩, HBEL.out⟩

/-- What sizeOK tells. -/
def SizeTold (n : Nat) (bs : List Br) (e : Ending) : Prop := e = .returned (.bool false) ∨ (e = .returned (.bool true) ∧ n ≤ 65536 ∧ bs.length ≤ 65536 ∧ ∀ j, j < bs.length → (bs.getD j br0).host.size ≤ 1048576 ∧ (bs.getD j br0).path.size ≤ 1048576 ∧ (bs.getD j br0).id.size ≤ 1048576 ∧ (bs.getD j br0).ident.size ≤ 1048576)

set_option maxHeartbeats 1000000 in
theorem sizeOK (a a' : Option Addr) (ss : List ByteArray) (bs : List Br) (cap cap' : Nat) (w : World) (B : Nat) (hB : B ≤ w.heap.size) (hs : Strs B w a ss) (hb : Brs B w a' bs) :
    Calls Tryf.prog 7 #[.slice a ss.length cap, .slice a' bs.length cap'] w fun e w' => SizeTold ss.length bs e ∧ Below B w w' := by
  have HS := hid hs
  have HB := hid hb
  clear hs hb
  go_enter Tryf.func7, Tryf.ntmps7
  go_wp2_with fail
  refine (wordsBytes a ss cap _ B HS.out).mono ?_
  rintro e w1 ⟨h1, hw1⟩
  subst hw1
  rcases h1 with rfl | ⟨r, rfl, hr0, hr1, hn⟩
  · go_wp2
    go_ret
    exact ⟨.inl rfl, Below.refl _ _⟩
  · have hrd : decide (r < 0) = false := decide_eq_false (by omega)
    go_wp2_with fail
    refine (branchesBytes a' bs cap' _ B hB HB.out).mono ?_
    rintro e w2 ⟨h2, hb2⟩
    have HB2 := hid hb2
    clear hb2
    rcases h2 with rfl | ⟨q, rfl, hq0, hq1, hm, hall⟩
    · go_wp2
      go_ret
      exact ⟨.inl rfl, HB2.out⟩
    · have HALL := hid hall
      clear hall
      have hqd : decide (q < 0) = false := decide_eq_false (by omega)
      by_cases hs : r + q ≤ 1048576
      · go_wp2
        go_ret
        exact ⟨.inr ⟨rfl, hn, hm, HALL.out⟩, HB2.out⟩
      · have hsd : decide (r + q ≤ 1048576) = false := decide_eq_false hs
        go_wp2
        go_ret
        exact ⟨.inl rfl, HB2.out⟩

end Go.Proofs.Qxb6605675aFmt
