/-
  Seat b6605675aF: ZZappendBranches (10); from what buildBranches leaves to what appendBranches takes; the branches cut in two.
-/
import Derived.Test.Qxb6605675aFmtAppend
namespace Go.Proofs.Qxb6605675aFmt
open Go.RowKit Go.Stop

/-- A row of pointers that the call owns. -/
theorem ptrs_own {w : World} {base : Nat} {v : Value} {bs : List Br} {ps : List Nat} (h : w.ownsRow base 48 1 v bs.length (ps.map ptrV)) (hps : ps.length = bs.length) (hbr : ∀ j, j < bs.length → BrP w (ps.getD j 0) (bs.getD j br0)) :
    ∃ ap cap, v = .slice ap bs.length cap ∧ (0 < bs.length → ∃ p, ap = some ⟨p, 0, none⟩ ∧ Ptrs w p bs) := by
  rcases h.2 with ⟨rfl, h0⟩ | ⟨g, cap, cur, rfl, hb, hg, hle, _, _, htake⟩
  · exact ⟨none, 0, by rw [h0], fun hp => by omega⟩
  · refine ⟨some ⟨g, 0, none⟩, cap, rfl, fun _ => ⟨g, rfl, cur, hg, fun j hj => ⟨ps.getD j 0, ?_, hbr j hj⟩⟩⟩
    have h1 : (cur.toList.take (bs.length * 1))[j]? = (ps.map ptrV)[j]? := by rw [htake]
    rw [List.getElem?_take, if_pos (by omega), List.getElem?_map, List.getElem?_eq_getElem (l := ps) (i := j) (by omega)] at h1
    have h2 : cur[j]? = some (ptrV (ps[j]'(by omega))) := by simpa using h1
    rw [h2, List.getD, List.getElem?_eq_getElem (l := ps) (i := j) (by omega)]
    rfl

theorem Brs.take {B : Nat} {w : World} {a : Option Addr} {bs : List Br} (h : Brs B w a bs) (k : Nat) : Brs B w a (bs.take k) := by
  obtain ⟨h1, h2, h3⟩ := h
  refine ⟨fun x hx => h1 x (List.mem_of_mem_take hx), by rw [List.length_take]; omega, fun hp => ?_⟩
  rw [List.length_take] at hp
  obtain ⟨b, off, e, hb, hc⟩ := h3 (by omega)
  refine ⟨b, off, e, hb, fun j hj => ?_⟩
  rw [List.length_take] at hj
  have e1 : (bs.take k).getD j br0 = bs.getD j br0 := by
    simp only [List.getD, List.getElem?_take]
    rw [if_pos (by omega)]
  rw [e1]
  exact hc j (by omega)
theorem Brs.drop {B : Nat} {w : World} {b off : Nat} {a : Option Addr} {bs : List Br} {k : Nat} (h : Brs B w (some ⟨b, off, none⟩) bs) (ha : k < bs.length → a = some ⟨b, off + k * 5, none⟩) : Brs B w a (bs.drop k) := by
  obtain ⟨h1, h2, h3⟩ := h
  refine ⟨fun x hx => h1 x (List.mem_of_mem_drop hx), by rw [List.length_drop]; omega, fun hp => ?_⟩
  rw [List.length_drop] at hp
  obtain ⟨b', off', e, hb, hc⟩ := h3 (by omega)
  cases e
  refine ⟨b, off + k * 5, ha (by omega), hb, fun j hj => ?_⟩
  rw [List.length_drop] at hj
  have e1 : (bs.drop k).getD j br0 = bs.getD (k + j) br0 := by
    simp only [List.getD, List.getElem?_drop]
  rw [e1, show off + k * 5 + j * 5 = off + (k + j) * 5 by omega]
  exact hc (k + j) (by omega)

set_option maxHeartbeats 1000000 in
theorem zzAppend (F : Interp) (base : Nat) (v : Value) (ss : List ByteArray) (ap : Option Addr) (bs : List Br) (capp : Nat) (w : World) (hF : F.answers w.tape) (hbase : base ≤ w.heap.size) (hown : OwnW w base v ss)
    (hp : 0 < bs.length → ∃ p, ap = some ⟨p, 0, none⟩ ∧ Ptrs w p bs) (hn : bs.length ≤ 65536) (hsl : ss.length ≤ 300000) (hident : ∀ j, j < bs.length → (bs.getD j br0).ident.size ≤ 1048576) :
    Calls Tryf.prog 10 #[v, .slice ap bs.length capp] w fun e w' => (∃ v', e = .returned v' ∧ OwnW w' base v' (ss ++ wordsTo F hexOf bs bs.length)) ∧ Below base w w' := by
  have H := hid (appendB F base v ss ap bs capp w hF hbase hown hp hn hsl hident)
  clear hF hown hp hident
  go_enter Tryf.func10, Tryf.ntmps10
  go_wp2_with fail
  refine H.out.mono ?_
  rintro e w1 ⟨⟨v', rfl, hown1⟩, hb1⟩
  have HX := hid (And.intro hown1 hb1)
  clear hown1 hb1 H
  go_wp2_with fail
  go_ret
  exact ⟨⟨_, rfl, HX.out.1⟩, HX.out.2⟩

end Go.Proofs.Qxb6605675aFmt
