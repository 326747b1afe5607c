/-
  Seat b6608868a: tally.merge (34).
-/
import Derived.Test.Qxb6608868aWinSmall
namespace Go.Proofs.Qxb6608868a
open Go.RowKit

theorem drew2 (w : World) (n : Nat) : w.drew.drew.drewN n = w.drewN (2 + n) := World.drewN_drewN w 2 n

set_option maxHeartbeats 1000000 in
theorem mergeT (bt b o : Nat) (r e r' e' : Int) (w : World) (hb : bt ≠ b)
    (tr : w.cell? ⟨bt, 0, none⟩ = some (.int .i64 r)) (tf : w.frozen? ⟨bt, 0, none⟩ = false) (te : w.cell? ⟨bt, 1, none⟩ = some (.int .i64 e)) (tg : w.frozen? ⟨bt, 1, none⟩ = false)
    (ur : w.cell? ⟨b, o, none⟩ = some (.int .i64 r')) (ue : w.cell? ⟨b, o + 1, none⟩ = some (.int .i64 e')) (us : w.cell? ⟨b, o + 2, none⟩ = some (.slice none 0 0))
    (ug : ∀ g, g < 58 → w.cell? ⟨b, o + 3 + 1 + g, none⟩ = some (.pointer none))
    (h1 : 0 ≤ r) (h2 : r ≤ 100000000000000) (h3 : 0 ≤ e) (h4 : e ≤ 100000000000000) (h5 : 0 ≤ r') (h6 : r' ≤ 1099511627776) (h7 : 0 ≤ e') (h8 : e' ≤ 1099511627776) :
    Calls Try.prog 34 #[.pointer (some ⟨bt, 0, none⟩), .pointer (some ⟨b, o, none⟩)] w fun x w' => x = .returned (.tuple #[]) ∧ ∃ q, w' = ((w.setCell ⟨bt, 0, none⟩ (.int .i64 (r + r'))).setCell ⟨bt, 1, none⟩ (.int .i64 (e + e'))).drewN q := by
  have hb' : b ≠ bt := fun h => hb h.symm
  have n01 : (⟨bt, 0, none⟩ : Addr) ≠ ⟨bt, 1, none⟩ := fun h => by cases h
  have UG : Hid (∀ g, g < 58 → ((w.setCell ⟨bt, 0, none⟩ (.int .i64 (r + r'))).setCell ⟨bt, 1, none⟩ (.int .i64 (e + e'))).cell? ⟨b, o + 3 + 1 + g, none⟩ = some (.pointer none)) := fun g hg => (by
    rw [World.cell?_setCell_other _ _ _ _ (blk_neq hb), World.cell?_setCell_other _ _ _ _ (blk_neq hb)]
    exact ug g hg)
  clear ug
  go_enter Try.func34, Try.ntmps34
  go_wp2_with fail
  go_region
  all_goals
    go_wp2_with fail
    go_region
    all_goals
      go_wp2_with fail
      go_loop [33] (fun i => i = .int .i64 0) (fun _ => 0)
      case atStart => rfl
      case round =>
        subst hrel
        go_wp2_with fail
        obtain ⟨W3, hW3⟩ : ∃ W3, W3 = ((w.setCell ⟨bt, 0, none⟩ (.int .i64 (r + r'))).setCell ⟨bt, 1, none⟩ (.int .i64 (e + e'))).drew.drew := ⟨_, rfl⟩
        rw [← hW3]
        have UG3 : Hid (∀ n g, g < 58 → (W3.drewN n).cell? ⟨b, o + 3 + 1 + g, none⟩ = some (.pointer none)) := fun n g hg => (by
          rw [hW3]
          exact UG.out g hg)
        have HW3 := hid hW3
        clear hW3 UG tr tf te tg ur ue us
        go_quiet ((go_at_call 29; exact Calls.quiet_of_same (mergeNil bt 3 b (o + 3) _ (UG3.out _))))
        go_wp2_with fail
        go_end0
        refine ⟨rfl, 2 + nq, ?_⟩
        rw [HW3.out]
        exact drew2 _ _

end Go.Proofs.Qxb6608868a
