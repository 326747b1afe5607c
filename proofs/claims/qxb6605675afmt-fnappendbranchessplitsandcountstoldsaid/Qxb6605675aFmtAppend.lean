/-
  Seat b6605675aF: appendBranches (25).
-/
import Derived.Test.Qxb6605675aFmtWords
import Derived.Test.Qxb6605675aFmtHex
namespace Go.Proofs.Qxb6605675aFmt
open Go.RowKit Go.Stop

theorem own_below {w w' : World} {base : Nat} {e : TypeId} {size : Nat} {v : Value} {n : Nat} {xs : List Value} (h : w.ownsRow base e size v n xs) (hb : Below w.heap.size w w') : w'.ownsRow base e size v n xs := by
  refine h.kept (row := none) ⟨hb.os, hb.tape, hb.output, hb.size, fun j hj _ => hb.block j hj⟩ ?_
  cases v.ownBlock with
  | none => exact .inl rfl
  | some g => exact .inr (fun e => by cases e)

theorem news_two {w : World} {p q : Value} {t : TypeId} {H : Nat} (hH : w.heap.size = H) : ∀ j u, [p, q][j]? = some u → (w.alloc (.cells #[p, q] t)).cell? ((⟨H, 0, none⟩ : Addr).add j) = some u := by
  subst hH
  intro j u hj
  rw [Go.WideShapes.add_plain, World.cell?_alloc_new]
  match j, hj with
  | 0, hj => cases hj; rfl
  | 1, hj => cases hj; rfl
theorem one_strs (ss : List ByteArray) : ∀ u ∈ ss.map Value.string, u.oneCell' = true := fun u hu => by
  obtain ⟨s, _, rfl⟩ := List.mem_map.1 hu
  rfl

/-- '[]byte(s)'. -/
theorem conv60 (s : ByteArray) (w : World) : ∃ (cp : Nat) (o : Obj), (convert 9 60 (.string s)).run Tryf.prog w = .ok (.slice (some ⟨w.heap.size, 0, none⟩) s.size cp) (w.drew.alloc o) ∧ ∀ i, i < s.size → (w.drew.alloc o).cell? ⟨w.heap.size, i, none⟩ = some (.int .u8 ((s.data.toList.map fun b => (b.toNat : Int)).getD i 0)) := by
  refine ⟨_, _, run_bytes_of_string (P := Tryf.prog) w 9 60 5 s Tryf.underlying9 Tryf.underlying60 Tryf.underlying5, fun i hi => ?_⟩
  have hd : i < s.data.size := hi
  have e : (w.drew.alloc (.cells (bytesRow s (grownCap w s.size 0 5)) 5 ((bytesRow s (grownCap w s.size 0 5)).size, (bytesRow s (grownCap w s.size 0 5)).size + 1))).heap[w.heap.size]? = some (.cells (bytesRow s (grownCap w s.size 0 5)) 5 ((bytesRow s (grownCap w s.size 0 5)).size, (bytesRow s (grownCap w s.size 0 5)).size + 1)) := heap_alloc_new w.drew _
  have e2 : (bytesRow s (grownCap w s.size 0 5))[i]? = some (.int .u8 ((s.data.toList.map fun b => (b.toNat : Int)).getD i 0)) := by
    unfold bytesRow
    rw [Array.getElem?_append_left (by simpa using hd)]
    rw [Array.getElem?_map, Array.getElem?_eq_getElem hd, List.getD, List.getElem?_map, List.getElem?_eq_getElem (by simpa using hd)]
    simp
  rw [← e2]
  unfold World.cell?
  show (match (w.drew.alloc _).heap[w.heap.size]? with
    | some (Obj.cells c _ _) => c[i]?
    | _ => none) = _
  rw [e]

theorem not_empty {s : ByteArray} (h : ¬ s.size = 0) : s.toList.isEmpty = false := by
  rw [ByteArray.toList_eq]
  have h1 : ¬ s.data.size = 0 := h
  cases hh : s.data.toList with
  | nil => exact absurd (by rw [← Array.length_toList, hh]; rfl) h1
  | cons _ _ => rfl

/-- What an append to the words has done. -/
theorem app_step {base : Nat} {wr w1 w2 w3 : World} {v v3 : Value} {ws news : List ByteArray} {m : Nat} {o : Obj} (hown : OwnW wr base v ws) (hd : w1.heap = wr.heap ∧ w1.os = wr.os ∧ w1.tape = wr.tape ∧ w1.output = wr.output) (hb2 : Below w1.heap.size w1 w2) (hbase : base ≤ wr.heap.size) (hm : m = news.length)
    (hown3 : w3.ownsRow base 9 1 v3 (ws.length + m) (ws.map Value.string ++ news.map Value.string)) (hgrow : (w2.alloc o).grownBy w3 v.ownBlock) :
    OwnW w3 base v3 (ws ++ news) ∧ (∀ p bs, Ptrs wr p bs → Ptrs w3 p bs) ∧ (∀ q x, BrP wr q x → BrP w3 q x) ∧ ∀ w0, Below base w0 wr → Below base w0 w3 := by
  obtain ⟨hd1, hd2, hd3, hd4⟩ := hd
  have hb : Below wr.heap.size wr w2 := ⟨hb2.os.trans hd2, hb2.tape.trans hd3, hb2.output.trans hd4, by have := hb2.size; rw [hd1] at this; exact this, fun j hj => (hb2.block j (by rw [hd1]; exact hj)).trans (by rw [hd1])⟩
  have hownW : (w2.alloc o).ownsRow base 9 1 v ws.length (ws.map Value.string) := (own_below hown hb).alloc o
  refine ⟨?_, fun p bs h => ((h.below hb).alloc o).grown hownW hgrow, fun q x h => brP_grown hownW (by decide) hgrow (brP_alloc ((hb.block q (lt_of_block h)).trans h) o), fun w0 h => ?_⟩
  · show w3.ownsRow base 9 1 v3 (ws ++ news).length ((ws ++ news).map Value.string)
    rw [List.length_append, List.map_append, ← hm]
    exact hown3
  · have h1 : Below base w0 w2 := h.trans (hb.mono hbase)
    have h2 : Below base w0 (w2.alloc o) := h1.alloc (Nat.le_trans hbase hb.size) o
    refine h2.trans ⟨hgrow.os, hgrow.tape, hgrow.output, hgrow.size, fun j hj => hgrow.block j (by have := hb.size; simp; omega) (fun e => ?_)⟩
    have := (hown.lt j e.symm).1
    omega

set_option maxHeartbeats 8000000 in
set_option maxRecDepth 100000 in
theorem appendB (F : Interp) (base : Nat) (v : Value) (ss : List ByteArray) (ap : Option Addr) (bs : List Br) (capp : Nat) (w : World) (hF : F.answers w.tape) (hbase : base ≤ w.heap.size) (hown : OwnW w base v ss)
    (hp : 0 < bs.length → ∃ p, ap = some ⟨p, 0, none⟩ ∧ Ptrs w p bs) (hn : bs.length ≤ 65536) (hsl : ss.length ≤ 300000) (hident : ∀ j, j < bs.length → (bs.getD j br0).ident.size ≤ 1048576) :
    Calls Tryf.prog 25 #[v, .slice ap bs.length capp] w fun e w' => (∃ v', e = .returned v' ∧ OwnW w' base v' (ss ++ wordsTo F hexOf bs bs.length)) ∧ Below base w w' := by
  have HF := hid hF
  have HOWN0 := hid hown
  have HP0 := hid hp
  have HID := hid hident
  clear hF hown hp hident
  obtain ⟨i0, hi, hz0, hz1, hz2⟩ := info_parts info9
  go_enter Tryf.func25, Tryf.ntmps25
  go_wp2_with fail
  go_loopw [0, 9] (fun v i wr => ∃ k : Nat, k ≤ bs.length ∧ i = .int .i64 k ∧ OwnW wr base v (ss ++ wordsTo F hexOf bs k) ∧ (0 < bs.length → ∃ p, ap = some ⟨p, 0, none⟩ ∧ Ptrs wr p bs) ∧ Below base w wr) (fun _ i _ => bs.length - (intOf i).toNat)
  case atStart => exact ⟨0, Nat.zero_le _, rfl, by show OwnW _ _ _ (ss ++ []); rw [List.append_nil]; exact HOWN0.out, HP0.out, Below.refl _ _⟩
  case round =>
    clear HOWN0 HP0
    obtain ⟨k, hk, rfl, hown, hp, hbel⟩ := hrel
    have HOWN := hid hown
    have HP := hid hp
    have HBEL := hid hbel
    clear hown hp hbel
    by_cases hlt : k < bs.length
    · obtain ⟨p, rfl, hptrs⟩ := HP.out (by omega)
      obtain ⟨cur, hrow, hq⟩ := hptrs
      obtain ⟨q, hcur, hbr⟩ := hq k hlt
      have cp : wr.cell? ⟨p, k, none⟩ = some (.pointer (some ⟨q, 0, none⟩)) := (row_cell hrow).trans hcur
      have hlen := wordsTo_len F hexOf bs k
      have hile := idents_le bs k
      have hll : (ss ++ wordsTo F hexOf bs k).length ≤ 600000 := by rw [List.length_append, hlen]; omega
      obtain ⟨x, hx⟩ : ∃ x, bs.getD k br0 = x := ⟨_, rfl⟩
      rw [hx] at hbr
      have HX := hid hx
      have HBR := hid hbr
      have c0 : wr.cell? ⟨q, 0, none⟩ = some (.string x.host) := row_cell hbr
      have c1 : wr.cell? ⟨q, 1, none⟩ = some (.int .u16 x.port) := row_cell hbr
      have c2 : wr.cell? ⟨q, 2, none⟩ = some (.string x.path) := row_cell hbr
      have c3 : wr.cell? ⟨q, 3, none⟩ = some (.string x.id) := row_cell hbr
      have hqlt : q < wr.heap.size := lt_of_block hbr
      have hqv : some q ≠ u0.ownBlock := own_ne HOWN.out hbr (by decide)
      have hNs : base ≤ wr.heap.size := Nat.le_trans hbase HBEL.out.size
      have HF2 : Hid (F.answers wr.tape) := by have := HF.out; rw [← HBEL.out.tape] at this; exact this
      have ik : (k : Int) < bs.length := by omega
      have ik0 : 0 ≤ (k : Int) := by omega
      obtain ⟨ws, hws⟩ : ∃ ws, ss ++ wordsTo F hexOf bs k = ws := ⟨_, rfl⟩
      rw [hws] at hll
      have HWS := hid hws
      have HOWN' : Hid (OwnW wr base u0 ws) := by have := HOWN.out; rw [hws] at this; exact this
      clear hq hrow hcur hlen hile hx hbr hws HOWN
      go_wp2_with fail
      go_region_held3 (fun w' => w'.cell? ⟨q, 0, none⟩ = some (.string x.host) ∧ w'.cell? ⟨q, 1, none⟩ = some (.int .u16 x.port) ∧ w'.cell? ⟨q, 2, none⟩ = some (.string x.path) ∧ w'.cell? ⟨q, 3, none⟩ = some (.string x.id)) (first | go_keep | (go_split_ands; refine ⟨?_, ?_, ?_, ?_⟩ <;> (rw [hgrow3.cell_far _ (by simp; omega) hqv]; assumption)) | (go_split_ands; refine ⟨?_, ?_, ?_, ?_⟩ <;> (rw [hb2.cell (by simpa using hqlt)]; assumption)))
        (first | (go_at_call 31; refine (addrString F x.host x.port x.path wr.drew HF2.out).mono ?_; rintro e w2 ⟨rfl, hb2⟩; have hq2 : q < w2.heap.size := Nat.lt_of_lt_of_le hqlt hb2.size) | (refine step_append_lies _ (by rfl) _ _ 22 (by rfl) base 9 i0 (.string ByteArray.empty) 1 16 Tryf.underlying22 hi hz0 hz1 hz2 rfl (by omega) _ ws.length (ws.map Value.string) (by rfl) ((own_below HOWN'.out.drew hb2).alloc _) ⟨w2.heap.size, 0, none⟩ 2 2 ([addrText F x.host x.port x.path, x.id].map Value.string) (by rfl) (by rfl) (news_two rfl) (one_strs _) (by omega) (by unfold maxLen; omega) (by omega) (by have := hb2.size; simp at this ⊢; omega) (w2.heap.size + 1) (by simp) ?_; intro g cap' w3 hown3 hgrow3 hat3 hlt3))
      have hst := app_step (m := 2) HOWN'.out (w1 := wr.drew) ⟨rfl, rfl, rfl, rfl⟩ hb2 hNs rfl hown3 hgrow3
      have HB3 := hid (hst.2.2.1 q x HBR.out)
      have HP3 : Hid (∃ p', some (⟨p, 0, none⟩ : Addr) = some ⟨p', 0, none⟩ ∧ Ptrs w3 p' bs) := by
        obtain ⟨p', e, h⟩ := HP.out (by omega)
        exact ⟨p', e, hst.2.1 p' bs h⟩
      have HBEL3 := hid (hst.2.2.2 w HBEL.out)
      have HOWN3 := hid hst.1
      have c5 : w3.cell? ⟨q, 5, none⟩ = some (.string x.ident) := row_cell HB3.out
      clear hst hown3 hgrow3 hat3 hlt3 hb2 hq2 c0 c1 c2 c3 cp
      by_cases hid0 : x.ident.size = 0
      · have hxe : x.ident = ⟨#[]⟩ := by
          have h1 : x.ident.data.size = 0 := hid0
          cases hh : x.ident with
          | mk d =>
            rw [hh] at h1
            have : d = #[] := Array.eq_empty_of_size_eq_zero h1
            rw [this]
        rw [hxe] at c5
        have HW : Hid (ss ++ wordsTo F hexOf bs (k + 1) = ws ++ [addrText F x.host x.port x.path, x.id]) := by
          show ss ++ (wordsTo F hexOf bs k ++ brWords F hexOf (bs.getD k br0)) = _
          rw [HX.out, ← List.append_assoc, HWS.out]
          unfold brWords
          rw [if_neg (by omega)]
        clear hid0 hxe
        go_wp2_with fail
        go_roundw
        case rel => exact ⟨k + 1, by omega, by go_num, by rw [HW.out]; exact HOWN3.out, fun _ => HP3.out, HBEL3.out⟩
        case measure => simp [intOf]; omega
      · have HW : Hid (ss ++ wordsTo F hexOf bs (k + 1) = (ws ++ [addrText F x.host x.port x.path, x.id]) ++ [hexOf x.ident]) := by
          show ss ++ (wordsTo F hexOf bs k ++ brWords F hexOf (bs.getD k br0)) = _
          rw [HX.out, ← List.append_assoc, HWS.out]
          unfold brWords
          rw [if_pos (by omega)]
          simp
        have hsz : x.ident.size ≤ 1048576 := by have := HID.out k hlt; rw [HX.out] at this; exact this
        obtain ⟨cp5, o5, hcv, hcc⟩ := conv60 x.ident w3
        have HCC := hid hcc
        have hn3 : base ≤ w3.heap.size := HBEL3.out.size |> fun h => Nat.le_trans hbase h
        clear hcc
        have hem := not_empty hid0
        generalize hsid : x.ident = sid at *
        go_wp2_with fail
        refine (hexStr w3.heap.size sid.size cp5 sid _ rfl (by simp) HCC.out hsz).mono ?_
        rintro e w4 ⟨rfl, hb4⟩
        have hl2 : (ws ++ [addrText F x.host x.port x.path, x.id]).length = ws.length + 2 := by simp
        have hs4 : base ≤ w4.heap.size := by have := hb4.size; simp at this; omega
        have hownX : (w4.alloc (.cells #[.string (hexOf sid)] 9)).ownsRow base 9 1 (.slice (some ⟨g, 0, none⟩) (ws.length + 2) cap') (ws.length + 2) ((ws ++ [addrText F x.host x.port x.path, x.id]).map Value.string) := by
          have h3 : OwnW w3 base (.slice (some ⟨g, 0, none⟩) (ws.length + 2) cap') (ws ++ [addrText F x.host x.port x.path, x.id]) := HOWN3.out
          unfold OwnW at h3
          rw [hl2] at h3
          exact (own_below (h3.drew.alloc o5) hb4).alloc _
        have HOWNX := hid hownX
        have HB4 := hid hb4
        have HL2 := hid hl2
        clear hownX hb4 hl2 hcv
        go_wp2_with (at_builtin; refine wpList_append_lies _ rfl _ _ 22 rfl base 9 i0 (.string ByteArray.empty) 1 16 Tryf.underlying22 hi hz0 hz1 hz2 rfl (by omega) _ (ws.length + 2) ((ws ++ [addrText F x.host x.port x.path, x.id]).map Value.string) rfl HOWNX.out ⟨w4.heap.size, 0, none⟩ 1 1 ([hexOf sid].map Value.string) rfl rfl (news_one rfl) (one_strs _) (by omega) (by unfold maxLen; omega) (by omega) (by simp; omega) (w4.heap.size + 1) (by simp) ?_; intro g2 cap2 w5 hown5 hgrow5 hat5 hlt5)
        have hown5' : w5.ownsRow base 9 1 (.slice (some ⟨g2, 0, none⟩) (ws.length + 2 + 1) cap2) ((ws ++ [addrText F x.host x.port x.path, x.id]).length + 1) ((ws ++ [addrText F x.host x.port x.path, x.id]).map Value.string ++ [hexOf sid].map Value.string) := by rw [HL2.out]; exact hown5
        have hst := app_step (m := 1) (wr := w3.drew.alloc o5) (v := .slice (some ⟨g, 0, none⟩) (ws.length + 2) cap') (World.ownsRow.alloc (World.ownsRow.drew HOWN3.out) o5) (w1 := w3.drew.alloc o5) ⟨rfl, rfl, rfl, rfl⟩ HB4.out (by simp; omega) rfl hown5' hgrow5
        have HP5 : Hid (∃ p', some (⟨p, 0, none⟩ : Addr) = some ⟨p', 0, none⟩ ∧ Ptrs w5 p' bs) := by
          obtain ⟨p', e, h⟩ := HP3.out
          exact ⟨p', e, hst.2.1 p' bs (Ptrs.alloc (w := w3.drew) h o5)⟩
        have HBEL5 := hid (hst.2.2.2 w (HBEL3.out.drew.alloc (by simpa using hn3) o5))
        have HOWN5 := hid hst.1
        clear hst hown5 hown5' hgrow5 hat5 hlt5 HOWNX HB4
        go_wp2_with fail
        go_roundw
        case rel => exact ⟨k + 1, by omega, by go_num, by rw [HW.out]; exact HOWN5.out, fun _ => HP5.out, HBEL5.out⟩
        case measure => simp [intOf]; omega
    · have hkn : k = bs.length := by omega
      subst hkn
      go_wp2_with fail
      go_ret
      exact ⟨⟨_, rfl, HOWN.out⟩, HBEL.out⟩

end Go.Proofs.Qxb6605675aFmt
