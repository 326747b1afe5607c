/-
  Seat b6614579a: a map[string]uint64 of the call's own as a function from strings to numbers ('Ver'); zzVersion (12), Unmade (23).
-/
import Derived.Test.Qxb6614579aBase
import Derived.RegionTactic
import Derived.BigRegion
namespace Go.Proofs.Qxb6614579a
open Go.RowKit Go.Maps

theorem law9 : Keyed Try.prog 9 := string_keyed Try.underlying9
theorem zero24 (w : World) : (zeroValue 24).run Try.prog w = .ok (.int .u64 0) w := by kernel_rfl
theorem cells47 : Try.prog.cellsOf 47 = 3 := by kernel_rfl

/-- The datum of a string used as a key. -/
def ky (s : ByteArray) : Lit := .string s.data.toList
theorem ky_inj {s t : ByteArray} (h : ky s = ky t) : s = t := by
  unfold ky at h
  simp at h
  cases s; cases t; simp_all
theorem ky_isKey (s : ByteArray) : WideAt.IsKeyLit (ky s) := trivial

theorem str_ne {s t : ByteArray} (h : ¬ s = t) : (s.toList == t.toList) = false := by
  rw [beq_eq_false_iff_ne]
  intro e
  rw [ByteArray.toList_eq, ByteArray.toList_eq] at e
  apply h
  cases s; cases t; simp_all
theorem str_of {s t : ByteArray} (h : (s.toList == t.toList) = true) : s = t := by
  by_cases e : s = t
  · exact e
  · rw [str_ne e] at h; cases h

/-- The map in block B of w, of at most n entries, gives each string s what f gives it. -/
def Ver (w : World) (B n : Nat) (f : ByteArray → Option Int) : Prop :=
  ∃ D : DataW Unit, w.ownsMap Try.prog 9 (plainElem Try.prog 24) B n D ∧ IsMap D ∧ ∀ s, Maps.has D (ky s) = (f s).isSome ∧ D.atKey (ky s) (.lit (.int .u64 0)) = .lit (.int .u64 ((f s).getD 0))

theorem Ver.lt {w : World} {B n : Nat} {f : ByteArray → Option Int} (h : Ver w B n f) : B < w.heap.size := by
  obtain ⟨D, h, _⟩ := h
  exact h.lt

theorem Ver.mono {w : World} {B n n' : Nat} {f : ByteArray → Option Int} (h : Ver w B n f) (hn : n ≤ n') : Ver w B n' f := by
  obtain ⟨D, h, r⟩ := h
  exact ⟨D, h.mono hn, r⟩

theorem Ver.below {w w' : World} {B n b : Nat} {f : ByteArray → Option Int} (h : Ver w B n f) (hb : Below b w w') (hB : B < b) : Ver w' B n f := by
  obtain ⟨D, ⟨es, clock, h1, h2⟩, r⟩ := h
  exact ⟨D, ⟨es, clock, (hb.block B hB).trans h1, h2⟩, r⟩

theorem Ver.grown {w w' : World} {B n : Nat} {row : Option Nat} {f : ByteArray → Option Int} (h : Ver w B n f) (hg : w.grownBy w' row) (hne : some B ≠ row) : Ver w' B n f := by
  obtain ⟨D, h, r⟩ := h
  exact ⟨D, h.kept hg hne, r⟩

theorem Ver.drew {w : World} {B n : Nat} {f : ByteArray → Option Int} (h : Ver w B n f) : Ver w.drew B n f := by
  obtain ⟨D, h, r⟩ := h
  exact ⟨D, h.drew, r⟩

theorem Ver.alloc {w : World} {B n : Nat} {f : ByteArray → Option Int} (h : Ver w B n f) (o : Obj) : Ver (w.alloc o) B n f := by
  obtain ⟨D, h, r⟩ := h
  exact ⟨D, h.alloc o, r⟩

theorem Ver.made (w : World) : Ver (w.alloc (.map #[] 0)) w.heap.size 0 (fun _ => none) :=
  ⟨_, World.ownsMap_made _ _ _ _, isMap_empty, fun _ => ⟨rfl, rfl⟩⟩

/-- What m[s] gives. -/
theorem Ver.look {w : World} {B n : Nat} {f : ByteArray → Option Int} (h : Ver w B n f) {t : TypeId} (ht : Try.prog.underlying t = some (.map 9 24)) {s : ByteArray} (hs : s.size ≤ maxLen) :
    (Instr.lookup t (.map (some B)) (.string s) false).run Try.prog w = .ok (.int .u64 ((f s).getD 0)) w ∧ (Lit.int .u64 ((f s).getD 0)).wf = true := by
  obtain ⟨D, h, _, r⟩ := h
  obtain ⟨c, hrun, hat, hw⟩ := h.lookup_int law9 ht Try.underlying24 (zero24 _) (WideMaps.keyOf_string_mk Try.underlying9 hs)
  have := (r s).2
  unfold ky at this
  rw [hat] at this
  simp at this
  rw [this] at hrun hw
  exact ⟨hrun, hw⟩

/-- m[s] = v. -/
theorem Ver.put {w : World} {B n : Nat} {f : ByteArray → Option Int} (h : Ver w B n f) {t : TypeId} (ht : Try.prog.underlying t = some (.map 9 24)) {s : ByteArray} (hs : s.size ≤ maxLen) {v : Int} (hv : (Lit.int .u64 v).wf = true) (hn : n < maxLen) :
    ∃ w', (Instr.mapUpdate t (.map (some B)) (.string s) (.int .u64 v)).run Try.prog w = .ok () w' ∧ Ver w' B (n + 1) (fun x => if x = s then some v else f x) ∧ w.grownBy w' (some B) := by
  obtain ⟨D, h, hD, r⟩ := h
  obtain ⟨w', h1, h2, h3⟩ := h.update law9 ht hn (WideMaps.keyOf_string_mk Try.underlying9 hs) (plainElem_int (H := Unit) Try.underlying24 hv)
  refine ⟨w', h1, ⟨_, h2, hD.put _ _, fun x => ?_⟩, h3⟩
  dsimp only
  by_cases hx : x = s
  · subst hx
    rw [if_pos rfl]
    exact ⟨has_put_same hD (ky_isKey x) _, atKey_put_same hD (ky_isKey x) _ _⟩
  · rw [if_neg hx]
    have hne : ky x ≠ ky s := fun e => hx (ky_inj e)
    exact ⟨(has_put_other hne _).trans (r x).1, (atKey_put_other hne _ _).trans (r x).2⟩

/-- What the first k pairs give: the last that names s stands. -/
def lkTo (ss : List ByteArray) (zs : List Int) : Nat → ByteArray → Option Int
  | 0, _ => none
  | k + 1, s => if s = ss.getD k ByteArray.empty then some (zs.getD k 0) else lkTo ss zs k s

theorem lkTo_succ (ss : List ByteArray) (zs : List Int) (k : Nat) : lkTo ss zs (k + 1) = fun s => if s = ss.getD k ByteArray.empty then some (zs.getD k 0) else lkTo ss zs k s := rfl

/-! ### Unmade -/
theorem unmade (inc : ByteArray) (sy ma : Int) (B n : Nat) (f : ByteArray → Option Int) (w : World) (hv : Ver w B n f) (hi : inc.size ≤ maxLen) :
    Calls Try.prog 23 #[.agg #[.string inc, .int .u64 sy, .int .u64 ma], .map (some B)] w fun e w' => e = .returned (.bool (decide (ma < (f inc).getD 0))) ∧ Below w.heap.size w w' := by
  have hl := fun o => ((hv.alloc o).look Try.underlying31 hi).1
  clear hv
  go_enter Try.func23, Try.ntmps23
  go_wp2
  go_ret
  exact ⟨rfl, (Below.refl _ _).alloc (Nat.le_refl _) _⟩

/-! ### zzVersion -/
set_option maxHeartbeats 400000 in
theorem version (a0 a1 : Option Addr) (ss : List ByteArray) (zs : List Int) (cap0 cap1 : Nat) (w : World) (B : Nat) (hB : B ≤ w.heap.size) (hs : Strs B w a0 ss) (hz : Words B w a1 zs) :
    Calls Try.prog 12 #[.slice a0 ss.length cap0, .slice a1 zs.length cap1] w fun e w' => e = .returned (.map (some w.heap.size)) ∧ Ver w' w.heap.size (min ss.length zs.length) (lkTo ss zs (min ss.length zs.length)) ∧ Below w.heap.size w w' := by
  have hmm := @run_makeMap Try.prog
  have hn1 := hs.2.1
  have hn2 := hz.2.1
  obtain ⟨n, hn⟩ : ∃ n, n = min ss.length zs.length := ⟨_, rfl⟩
  have hN : Hid (n = min ss.length zs.length) := hn
  have hsn : n ≤ ss.length := by omega
  have hzn : n ≤ zs.length := by omega
  rw [← hn]
  clear hn
  have hs' := Hid.out (p := Strs B w a0 ss) hs
  have hz' := Hid.out (p := Words B w a1 zs) hz
  clear hs hz
  have HS : Hid (Strs B w a0 ss) := hs'
  have HZ : Hid (Words B w a1 zs) := hz'
  clear hs' hz'
  unfold maxLen at hn1 hn2
  go_enter Try.func12, Try.ntmps12
  go_wp2_with fail
  refine (min2 ss.length zs.length _).mono ?_
  rintro e w1 ⟨rfl, rfl⟩
  rw [← hN.out]
  go_wp2
  go_loopw [7] (fun i wr => ∃ k : Nat, k ≤ n ∧ i = .int .i64 k ∧ Ver wr w1.heap.size k (lkTo ss zs k) ∧ Below w1.heap.size w1 wr) (fun i _ => n - (intOf i).toNat)
  case atStart => exact ⟨0, Nat.zero_le _, rfl, Ver.made _, (Below.refl _ _).alloc (Nat.le_refl _) _⟩
  case round =>
    obtain ⟨k, hk, rfl, hown, hnx⟩ := hrel
    by_cases hlt : k < n
    · have hs2 := HS.out.below (hnx.mono hB)
      have hz2 := HZ.out.below (hnx.mono hB)
      obtain ⟨b0, off0, rfl, hb0, hc0⟩ := hs2.2.2 (by omega)
      obtain ⟨b1, off1, rfl, hb1, hc1⟩ := hz2.2.2 (by omega)
      have hc0 := hc0 k (by omega)
      have hc1 := hc1 k (by omega)
      obtain ⟨w2, hup, hown2, hg⟩ := hown.drew.put Try.underlying31 (hs2.size k) (hz2.wf k) (by unfold maxLen; omega)
      rw [← lkTo_succ] at hown2
      generalize ss.getD k ByteArray.empty = s at hc0 hup
      generalize zs.getD k 0 = z at hc1 hup
      have HX : Hid (Below w1.heap.size w1 w2 ∧ Ver w2 w1.heap.size (k + 1) (lkTo ss zs (k + 1))) := ⟨(hnx.drew).grown hg hnx.size (fun j hj => by cases hj; exact Nat.le_refl _), hown2⟩
      clear hown2 hg hown hs2 hz2 hnx HS HZ
      go_wp2
      go_region
      all_goals
        go_wp2
        go_roundw
        case rel => exact ⟨k + 1, by omega, by go_num, HX.out.2, HX.out.1⟩
        case measure => simp [intOf]; omega
    · have : k = n := by omega
      subst this
      go_wp2
      go_ret
      exact ⟨rfl, hown, hnx⟩

end Go.Proofs.Qxb6614579a
