/-
  Seat b6614579a: zzMin3 (35), zzIn (20), zzLineage (11).
-/
import Derived.Test.Qxb6614579aSets
namespace Go.Proofs.Qxb6614579a
open Go.RowKit Go.Maps

theorem min3 (a b c : Nat) (w : World) : Calls Try.prog 35 #[.int .i64 a, .int .i64 b, .int .i64 c] w fun e w' => e = .returned (.int .i64 (min a (min b c) : Nat)) ∧ w' = w := by
  go_enter Try.func35, Try.ntmps35
  go_wp2_with fail
  refine (min2 a b _).mono ?_
  rintro e w1 ⟨rfl, rfl⟩
  go_wp2_with fail
  refine (min2 (min a b) c _).mono ?_
  rintro e w1 ⟨rfl, rfl⟩
  rw [Nat.min_assoc]
  go_wp2
  go_ret
  exact ⟨rfl, rfl⟩

/-! ### zzIn -/
theorem ret_bool {a b : Bool} (h : a = b) : Ending.returned (.bool a) = .returned (.bool b) := by rw [h]
def inTo (ss : List ByteArray) (x : ByteArray) : Nat → Bool
  | 0 => false
  | k + 1 => if ss.getD k ByteArray.empty = x then true else inTo ss x k

theorem inTo_mono {ss : List ByteArray} {x : ByteArray} {k : Nat} (h : ss.getD k ByteArray.empty = x) : ∀ n, k < n → inTo ss x n = true
  | 0, hn => by omega
  | n + 1, hn => by
    show (if _ then _ else _) = _
    by_cases e : ss.getD n ByteArray.empty = x
    · rw [if_pos e]
    · rw [if_neg e]
      by_cases ek : k = n
      · subst ek; exact absurd h e
      · exact inTo_mono h n (by omega)

set_option maxHeartbeats 400000 in
theorem isIn (a0 : Option Addr) (ss : List ByteArray) (cap0 : Nat) (x : ByteArray) (w : World) (B : Nat) (hs : Strs B w a0 ss) :
    Calls Try.prog 20 #[.slice a0 ss.length cap0, .string x] w fun e w' => e = .returned (.bool (inTo ss x ss.length)) ∧ w' = w := by
  have hn1 := hs.2.1
  have HS : Hid (Strs B w a0 ss) := hs
  clear hs
  unfold maxLen at hn1
  go_enter Try.func20, Try.ntmps20
  go_wp2
  go_loop [5] (fun i => ∃ k : Nat, k ≤ ss.length ∧ i = .int .i64 k ∧ inTo ss x k = false) (fun i => ss.length - (intOf i).toNat)
  case atStart => exact ⟨0, Nat.zero_le _, rfl, rfl⟩
  case round =>
    obtain ⟨k, hk, rfl, hno⟩ := hrel
    have HNO : Hid (inTo ss x k = false) := hno
    clear hno
    by_cases hlt : k < ss.length
    · obtain ⟨b0, off0, rfl, hb0, hc⟩ := HS.out.2.2 (by omega)
      have hc0 := hc k (by omega)
      clear hc
      by_cases heq : ss.getD k ByteArray.empty = x
      · have HY : Hid (inTo ss x ss.length = true) := inTo_mono heq _ hlt
        rw [heq] at hc0
        clear HS heq
        go_wp2
        go_ret
        exact ⟨ret_bool HY.out.symm, rfl⟩
      · have HL : Hid (inTo ss x (k + 1) = false) := by
          show (if _ then _ else _) = _
          rw [if_neg heq]
          exact HNO.out
        clear HS
        generalize ss.getD k ByteArray.empty = s at hc0 heq
        have hne := str_ne heq
        clear heq
        go_wp2
        go_round
        case rel => exact ⟨k + 1, by omega, by go_num, HL.out⟩
        case measure => simp [intOf]; omega
    · have : k = ss.length := by omega
      subst this
      go_wp2
      go_ret
      exact ⟨ret_bool HNO.out.symm, rfl⟩

theorem cell_alloc {w : World} {a : Addr} {v : Value} (h : w.cell? a = some v) (o : Obj) : (w.alloc o).cell? a = some v := (World.grownBy_alloc w o none).cell h (by simp)

/-! ### zzLineage -/
/-- The number that stands for the edge u, v among the first k. -/
def edTo (fs ts : List ByteArray) (zs : List Int) : Nat → ByteArray → ByteArray → Option Int
  | 0, _, _ => none
  | k + 1, u, v => if u = fs.getD k ByteArray.empty ∧ v = ts.getD k ByteArray.empty then some (zs.getD k 0) else edTo fs ts zs k u v

theorem Lin.wide {w : World} {L B B' n : Nat} {g : ByteArray → Option Nat} {E : ByteArray → ByteArray → Option Int} (h : Lin w L B n g E) (hB : B ≤ B') : Lin w L B' n g E :=
  ⟨h.out, Nat.lt_of_lt_of_le h.lt hB, h.no, fun u b hu => ⟨(h.at' u b hu).1, Nat.lt_of_lt_of_le (h.at' u b hu).2.1 hB, (h.at' u b hu).2.2⟩, h.inj⟩
theorem Lin.drew {w : World} {L B n : Nat} {g : ByteArray → Option Nat} {E : ByteArray → ByteArray → Option Int} (h : Lin w L B n g E) : Lin w.drew L B n g E :=
  h.grown (row := none) ⟨rfl, rfl, rfl, Nat.le_refl _, fun _ _ _ => rfl⟩ (fun j hj => by cases hj)

theorem Lin.addOld {w w' : World} {L B n b : Nat} {g : ByteArray → Option Nat} {E : ByteArray → ByteArray → Option Int} (h : Lin w L B n g E) {s t : ByteArray} {z : Int} (hu : g s = some b) (hv : Ver w' b (n + 1) (fun x => if x = t then some z else E s x)) (hg : w.grownBy w' (some b)) :
    Lin w' L B (n + 1) g (fun u v => if u = s ∧ v = t then some z else E u v) := by
  obtain ⟨h1, h2, _⟩ := h.at' s b hu
  refine ⟨(h.out.grown hg (fun e => by cases e; omega)).mono (Nat.le_succ n), h.lt, fun u hn v => ?_, fun u b' hb' => ?_, h.inj⟩
  · rw [if_neg (fun e => by rw [e.1, hu] at hn; cases hn)]
    exact h.no u hn v
  · by_cases e : u = s
    · subst e
      rw [hu] at hb'
      cases hb'
      refine ⟨h1, h2, ?_⟩
      have e2 : (fun v => if u = u ∧ v = t then some z else E u v) = fun x => if x = t then some z else E u x := by
        funext v
        by_cases hv : v = t
        · rw [if_pos ⟨rfl, hv⟩, if_pos hv]
        · rw [if_neg (fun e => hv e.2), if_neg hv]
      rw [e2]
      exact hv
    · obtain ⟨k1, k2, k3⟩ := h.at' u b' hb'
      refine ⟨k1, k2, ?_⟩
      have e2 : (fun v => if u = s ∧ v = t then some z else E u v) = E u := by
        funext v
        rw [if_neg (fun e1 => e e1.1)]
      rw [e2]
      exact (k3.grown hg (fun e1 => by cases e1; exact e (h.inj _ _ _ hb' hu))).mono (Nat.le_succ n)

theorem Lin.addNew {w w' : World} {L n : Nat} {g : ByteArray → Option Nat} {E : ByteArray → ByteArray → Option Int} (h : Lin w L w.heap.size n g E) {s : ByteArray} (hu : g s = none) (ho : Out w' L (n + 1) (fun x => if x = s then some w.heap.size else g x)) (hg : (w.alloc (.map #[] 0)).grownBy w' (some L)) :
    Lin w' L (w.heap.size + 1) (n + 1) (fun x => if x = s then some w.heap.size else g x) E := by
  have hlt := h.lt
  have hg0 : w.grownBy w' (some L) := (World.grownBy_alloc w _ _).trans hg
  refine ⟨ho, by omega, fun u hn v => ?_, fun u b hb => ?_, fun u u' b hb hb' => ?_⟩
  · by_cases e : u = s
    · rw [if_pos e] at hn; cases hn
    · rw [if_neg e] at hn; exact h.no u hn v
  · by_cases e : u = s
    · rw [if_pos e] at hb
      cases hb
      refine ⟨hlt, by omega, ?_⟩
      have e2 : E u = fun _ => none := by funext v; rw [e]; exact h.no s hu v
      rw [e2]
      exact ((Ver.made w).grown hg (fun e => by cases e; omega)).mono (Nat.zero_le _)
    · rw [if_neg e] at hb
      obtain ⟨k1, k2, k3⟩ := h.at' u b hb
      exact ⟨k1, by omega, (k3.grown hg0 (fun e => by cases e; omega)).mono (Nat.le_succ n)⟩
  · by_cases e : u = s
    · by_cases e' : u' = s
      · rw [e, e']
      · rw [if_pos e] at hb
        rw [if_neg e'] at hb'
        have := (h.at' u' b hb').2.1
        cases hb
        omega
    · by_cases e' : u' = s
      · rw [if_neg e] at hb
        rw [if_pos e'] at hb'
        have := (h.at' u b hb).2.1
        cases hb'
        omega
      · rw [if_neg e] at hb
        rw [if_neg e'] at hb'
        exact h.inj u u' b hb hb'

theorem Lin.made (w : World) : Lin (w.alloc (.map #[] 0)) w.heap.size (w.heap.size + 1) 0 (fun _ => none) (fun _ _ => none) :=
  ⟨Out.made w, Nat.lt_succ_self _, fun _ _ _ => rfl, fun _ _ h => (by cases h), fun _ _ _ h _ => (by cases h)⟩

set_option maxHeartbeats 1000000 in
theorem lineage (a0 a1 a2 : Option Addr) (fs ts : List ByteArray) (zs : List Int) (cap0 cap1 cap2 : Nat) (w : World) (B : Nat) (hB : B ≤ w.heap.size) (hs : Strs B w a0 fs) (ht : Strs B w a1 ts) (hz : Words B w a2 zs) (hl : fs.length ≤ 4096) :
    Calls Try.prog 11 #[.slice a0 fs.length cap0, .slice a1 ts.length cap1, .slice a2 zs.length cap2] w fun e w' => e = .returned (.map (some w.heap.size)) ∧ (∃ g, Lin w' w.heap.size w'.heap.size 8192 g (edTo fs ts zs (min fs.length (min ts.length zs.length)))) ∧ Below w.heap.size w w' := by
  have hmm := @run_makeMap Try.prog
  have q30 : ∀ (w : World) (r : Option Nat), (binOp .eql 30 (.map r) (.map none)).run Try.prog w = .ok (.bool r.isNone) w := fun w r => run_eql_map_nil w _ _ _ r Try.underlying30
  have hn1 := hs.2.1
  have hn2 := ht.2.1
  have hn3 := hz.2.1
  obtain ⟨n, hn⟩ : ∃ n, n = min fs.length (min ts.length zs.length) := ⟨_, rfl⟩
  have hN : Hid (n = min fs.length (min ts.length zs.length)) := hn
  have hfn : n ≤ fs.length := by omega
  have htn : n ≤ ts.length := by omega
  have hzn : n ≤ zs.length := by omega
  rw [← hn]
  clear hn
  have HS : Hid (Strs B w a0 fs) := hs
  have HT : Hid (Strs B w a1 ts) := ht
  have HZ : Hid (Words B w a2 zs) := hz
  clear hs ht hz
  unfold maxLen at hn1 hn2 hn3
  go_enter Try.func11, Try.ntmps11
  go_wp2_with fail
  refine (min3 fs.length ts.length zs.length _).mono ?_
  rintro e w1 ⟨rfl, rfl⟩
  rw [← hN.out]
  go_wp2
  go_loopw [9, 10] (fun i m wr => ∃ (k : Nat) (g : ByteArray → Option Nat), k ≤ n ∧ i = .int .i64 k ∧ Lin wr w1.heap.size wr.heap.size (2 * k) g (edTo fs ts zs k) ∧ Below w1.heap.size w1 wr) (fun i _ _ => n - (intOf i).toNat)
  case atStart => exact ⟨0, _, Nat.zero_le _, rfl, (Lin.made w1).wide (by simp), (Below.refl _ _).alloc (Nat.le_refl _) _⟩
  case round =>
    obtain ⟨k, g, hk, rfl, hlin, hnx⟩ := hrel
    by_cases hlt : k < n
    · have hs2 := HS.out.below (hnx.mono hB)
      have ht2 := HT.out.below (hnx.mono hB)
      have hz2 := HZ.out.below (hnx.mono hB)
      obtain ⟨b0, off0, rfl, hb0, hc0'⟩ := hs2.2.2 (by omega)
      obtain ⟨b1, off1, rfl, hb1, hc1'⟩ := ht2.2.2 (by omega)
      obtain ⟨b2, off2, rfl, hb2, hc2'⟩ := hz2.2.2 (by omega)
      have hc0 := hc0' k (by omega)
      have hc1 := hc1' k (by omega)
      have hc2 := hc2' k (by omega)
      clear hc0' hc1' hc2'
      have hss := hs2.size k
      have hts := ht2.size k
      have hzw := hz2.wf k
      have HE : Hid (edTo fs ts zs (k + 1) = fun u v => if u = fs.getD k ByteArray.empty ∧ v = ts.getD k ByteArray.empty then some (zs.getD k 0) else edTo fs ts zs k u v) := rfl
      clear hs2 ht2 hz2 HS HT HZ
      generalize fs.getD k ByteArray.empty = s at hc0 hss HE
      generalize ts.getD k ByteArray.empty = t at hc1 hts HE
      generalize zs.getD k 0 = z at hc2 hzw HE
      have hlook := hlin.out.look hss
      rcases hgs : g s with _ | b
      · rw [hgs] at hlook
        have hlt1 := hlin.out.lt
        obtain ⟨w2, hup, ho2, hg2⟩ := (hlin.out.grown (World.grownBy_alloc wr (.map #[] 0) none) (by simp)).put hss wr.heap.size (by unfold maxLen; omega)
        have hlin2 := hlin.addNew hgs ho2 hg2
        have hbel2 : Below w1.heap.size w1 w2 := (hnx.alloc hnx.size (.map #[] 0)).grown hg2 (by have := hnx.size; simp; omega) (fun j hj => by cases hj; exact Nat.le_refl _)
        have hsz2 := hg2.size
        simp at hsz2
        have hgs2 : (fun x => if x = s then some wr.heap.size else g x) s = some wr.heap.size := if_pos rfl
        obtain ⟨w3, hup3, hv3, hg3⟩ := (hlin2.at' s wr.heap.size hgs2).2.2.drew.put Try.underlying30 hts hzw (by unfold maxLen; omega)
        have hlin3 := (hlin2.drew.addOld hgs2 hv3 hg3).mono (show 2 * k + 1 + 1 ≤ 2 * (k + 1) by omega)
        rw [← HE.out] at hlin3
        have e0 := cell_alloc hc0 (.map #[] 0)
        have d1 := hg2.cell (cell_alloc hc1 (.map #[] 0)) (by simp; omega)
        have d2 := hg2.cell (cell_alloc hc2 (.map #[] 0)) (by simp; omega)
        have HX : Hid ((∃ g', Lin w3 w1.heap.size w3.heap.size (2 * (k + 1)) g' (edTo fs ts zs (k + 1))) ∧ Below w1.heap.size w1 w3) := ⟨⟨_, hlin3.wide (by have := hg3.size; show wr.heap.size + 1 ≤ _; exact Nat.le_trans hsz2 this)⟩, (hbel2.drew).grown hg3 hbel2.size (fun j hj => by cases hj; omega)⟩
        clear hlin3 hlin2 hv3 hg3 hg2 ho2 hlin HE hnx hgs hgs2 hbel2
        go_wp2
        go_region
        all_goals
          go_wp2
          go_roundw
          case rel =>
            obtain ⟨⟨g', hx1⟩, hx2⟩ := HX.out
            exact ⟨k + 1, g', by omega, by go_num, hx1, hx2⟩
          case measure => simp [intOf]; omega
      · rw [hgs] at hlook
        obtain ⟨w2, hup, hv2, hg2⟩ := (hlin.at' s b hgs).2.2.drew.put Try.underlying30 hts hzw (by unfold maxLen; omega)
        have hlin2 := (hlin.drew.addOld hgs hv2 hg2).mono (show 2 * k + 1 ≤ 2 * (k + 1) by omega)
        rw [← HE.out] at hlin2
        have hbL := (hlin.at' s b hgs).1
        have HX : Hid (Lin w2 w1.heap.size w2.heap.size (2 * (k + 1)) g (edTo fs ts zs (k + 1)) ∧ Below w1.heap.size w1 w2) := ⟨hlin2.wide hg2.size, (hnx.drew).grown hg2 hnx.size (fun j hj => by cases hj; omega)⟩
        clear hlin2 hv2 hg2 hlin HE hnx hgs
        go_wp2
        go_region
        all_goals
          go_wp2
          go_roundw
          case rel => exact ⟨k + 1, g, by omega, by go_num, HX.out.1, HX.out.2⟩
          case measure => simp [intOf]; omega
    · have : k = n := by omega
      subst this
      go_wp2
      go_ret
      exact ⟨rfl, ⟨g, hlin.mono (by omega)⟩, hnx⟩

end Go.Proofs.Qxb6614579a
