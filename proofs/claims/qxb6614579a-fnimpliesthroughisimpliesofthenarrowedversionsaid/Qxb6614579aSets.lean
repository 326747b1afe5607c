/-
  Seat b6614579a: a map[string]bool of the call's own as a set ('SetIs'); a map[string]map[string]uint64 of the call's own ('Out', 'Lin').
-/
import Derived.Test.Qxb6614579aMaps
import Derived.Maps.OwnSet
namespace Go.Proofs.Qxb6614579a
open Go.RowKit Go.Maps

theorem zero4 (w : World) : (zeroValue 4).run Try.prog w = .ok (.bool false) w := by kernel_rfl
theorem zero30 (w : World) : (zeroValue 30).run Try.prog w = .ok (.map none) w := by kernel_rfl

theorem plainElem_bool_inv {v : Value} {x : Bool} {ps : List MemPlace} (h : plainElem (H := Unit) Try.prog 4 v = some (.lit (.bool x), ps)) : v = .bool x := by
  unfold plainElem at h
  rw [Try.underlying4] at h
  cases v <;> simp at h
  rw [h.1]

/-! ### sets -/
def SetIs (w : World) (B n : Nat) (X : ByteArray → Bool) : Prop :=
  ∃ D : DataW Unit, w.ownsMap Try.prog 9 (plainElem Try.prog 4) B n D ∧ IsMap D ∧ ∀ s, D.atKey (ky s) (.lit (.bool false)) = .lit (.bool (X s))

theorem SetIs.lt {w : World} {B n : Nat} {X : ByteArray → Bool} (h : SetIs w B n X) : B < w.heap.size := by
  obtain ⟨D, h, _⟩ := h
  exact h.lt
theorem SetIs.mono {w : World} {B n n' : Nat} {X : ByteArray → Bool} (h : SetIs w B n X) (hn : n ≤ n') : SetIs w B n' X := by
  obtain ⟨D, h, r⟩ := h
  exact ⟨D, h.mono hn, r⟩
theorem SetIs.grown {w w' : World} {B n : Nat} {row : Option Nat} {X : ByteArray → Bool} (h : SetIs w B n X) (hg : w.grownBy w' row) (hne : some B ≠ row) : SetIs w' B n X := by
  obtain ⟨D, h, r⟩ := h
  exact ⟨D, h.kept hg hne, r⟩
theorem SetIs.below {w w' : World} {B n b : Nat} {X : ByteArray → Bool} (h : SetIs w B n X) (hb : Below b w w') (hB : B < b) : SetIs w' B n X := by
  obtain ⟨D, ⟨es, clock, h1, h2⟩, r⟩ := h
  exact ⟨D, ⟨es, clock, (hb.block B hB).trans h1, h2⟩, r⟩
theorem SetIs.drew {w : World} {B n : Nat} {X : ByteArray → Bool} (h : SetIs w B n X) : SetIs w.drew B n X := by
  obtain ⟨D, h, r⟩ := h
  exact ⟨D, h.drew, r⟩
theorem SetIs.alloc {w : World} {B n : Nat} {X : ByteArray → Bool} (h : SetIs w B n X) (o : Obj) : SetIs (w.alloc o) B n X := by
  obtain ⟨D, h, r⟩ := h
  exact ⟨D, h.alloc o, r⟩
theorem SetIs.made (w : World) : SetIs (w.alloc (.map #[] 0)) w.heap.size 0 (fun _ => false) :=
  ⟨_, World.ownsMap_made _ _ _ _, isMap_empty, fun _ => rfl⟩

theorem SetIs.look {w : World} {B n : Nat} {X : ByteArray → Bool} (h : SetIs w B n X) {s : ByteArray} (hs : s.size ≤ maxLen) :
    (Instr.lookup 40 (.map (some B)) (.string s) false).run Try.prog w = .ok (.bool (X s)) w := by
  obtain ⟨D, h, _, r⟩ := h
  obtain ⟨v, ps, hrun, hv⟩ := h.lookup law9 Try.underlying40 (zero4 _) (plainElem_bool (H := Unit) Try.underlying4 false) (WideMaps.keyOf_string_mk Try.underlying9 hs)
  have := r s
  unfold ky at this
  rw [this] at hv
  rw [plainElem_bool_inv hv] at hrun
  exact hrun

theorem SetIs.put {w : World} {B n : Nat} {X : ByteArray → Bool} (h : SetIs w B n X) {s : ByteArray} (hs : s.size ≤ maxLen) (hn : n < maxLen) :
    ∃ w', (Instr.mapUpdate 40 (.map (some B)) (.string s) (.bool true)).run Try.prog w = .ok () w' ∧ SetIs w' B (n + 1) (fun x => if x = s then true else X x) ∧ w.grownBy w' (some B) := by
  obtain ⟨D, h, hD, r⟩ := h
  obtain ⟨w', h1, h2, h3⟩ := h.update law9 Try.underlying40 hn (WideMaps.keyOf_string_mk Try.underlying9 hs) (plainElem_bool (H := Unit) Try.underlying4 true)
  refine ⟨w', h1, ⟨_, h2, hD.put _ _, fun x => ?_⟩, h3⟩
  dsimp only
  by_cases hx : x = s
  · subst hx
    rw [if_pos rfl]
    exact atKey_put_same hD (ky_isKey x) _ _
  · rw [if_neg hx]
    have hne : ky x ≠ ky s := fun e => hx (ky_inj e)
    exact (atKey_put_other hne _ _).trans (r x)

/-! ### a map of maps -/
def mread (v : Value) : Option (DataW Unit × List MemPlace) :=
  match v with
  | .map none => some (.nil, [])
  | .map (some b) => some (.ptr (.lit (.int .u64 (b : Int))), [])
  | _ => none
def mdat : Option Nat → DataW Unit
  | none => .nil
  | some b => .ptr (.lit (.int .u64 (b : Int)))
theorem mread_mk (o : Option Nat) : mread (.map o) = some (mdat o, []) := by cases o <;> rfl
theorem mread_inv {v : Value} {o : Option Nat} {ps : List MemPlace} (h : mread v = some (mdat o, ps)) : v = .map o := by
  cases v <;> simp [mread] at h
  rename_i o'
  cases o' <;> cases o <;> simp [mdat] at h ⊢
  have := h.1
  omega

/-- Block B is a map whose element at s is the map in block 'g s' (none: nil). -/
def Out (w : World) (B n : Nat) (g : ByteArray → Option Nat) : Prop :=
  ∃ D : DataW Unit, w.ownsMap Try.prog 9 mread B n D ∧ IsMap D ∧ ∀ s, D.atKey (ky s) .nil = mdat (g s)

theorem Out.lt {w : World} {B n : Nat} {g : ByteArray → Option Nat} (h : Out w B n g) : B < w.heap.size := by
  obtain ⟨D, h, _⟩ := h
  exact h.lt
theorem Out.mono {w : World} {B n n' : Nat} {g : ByteArray → Option Nat} (h : Out w B n g) (hn : n ≤ n') : Out w B n' g := by
  obtain ⟨D, h, r⟩ := h
  exact ⟨D, h.mono hn, r⟩
theorem Out.grown {w w' : World} {B n : Nat} {row : Option Nat} {g : ByteArray → Option Nat} (h : Out w B n g) (hg : w.grownBy w' row) (hne : some B ≠ row) : Out w' B n g := by
  obtain ⟨D, h, r⟩ := h
  exact ⟨D, h.kept hg hne, r⟩
theorem Out.made (w : World) : Out (w.alloc (.map #[] 0)) w.heap.size 0 (fun _ => none) :=
  ⟨_, World.ownsMap_made _ _ _ _, isMap_empty, fun _ => rfl⟩
theorem Out.look {w : World} {B n : Nat} {g : ByteArray → Option Nat} (h : Out w B n g) {s : ByteArray} (hs : s.size ≤ maxLen) :
    (Instr.lookup 28 (.map (some B)) (.string s) false).run Try.prog w = .ok (.map (g s)) w := by
  obtain ⟨D, h, _, r⟩ := h
  obtain ⟨v, ps, hrun, hv⟩ := h.lookup law9 Try.underlying28 (zero30 _) (mread_mk none) (WideMaps.keyOf_string_mk Try.underlying9 hs)
  have := r s
  unfold ky at this
  have e : mdat none = .nil := rfl
  rw [e, this] at hv
  rw [mread_inv hv] at hrun
  exact hrun
theorem Out.put {w : World} {B n : Nat} {g : ByteArray → Option Nat} (h : Out w B n g) {s : ByteArray} (hs : s.size ≤ maxLen) (b : Nat) (hn : n < maxLen) :
    ∃ w', (Instr.mapUpdate 28 (.map (some B)) (.string s) (.map (some b))).run Try.prog w = .ok () w' ∧ Out w' B (n + 1) (fun x => if x = s then some b else g x) ∧ w.grownBy w' (some B) := by
  obtain ⟨D, h, hD, r⟩ := h
  obtain ⟨w', h1, h2, h3⟩ := h.update law9 Try.underlying28 hn (WideMaps.keyOf_string_mk Try.underlying9 hs) (mread_mk (some b))
  refine ⟨w', h1, ⟨_, h2, hD.put _ _, fun x => ?_⟩, h3⟩
  dsimp only
  by_cases hx : x = s
  · subst hx
    rw [if_pos rfl]
    exact atKey_put_same hD (ky_isKey x) _ _
  · rw [if_neg hx]
    have hne : ky x ≠ ky s := fun e => hx (ky_inj e)
    exact (atKey_put_other hne _ _).trans (r x)

/-- A lineage: block L leads each string to a map of its own, all blocks in [L, B). -/
structure Lin (w : World) (L B n : Nat) (g : ByteArray → Option Nat) (E : ByteArray → ByteArray → Option Int) : Prop where
  out : Out w L n g
  lt : L < B
  no : ∀ u, g u = none → ∀ v, E u v = none
  at' : ∀ u b, g u = some b → L < b ∧ b < B ∧ Ver w b n (E u)
  inj : ∀ u u' b, g u = some b → g u' = some b → u = u'

theorem Lin.mono {w : World} {L B n n' : Nat} {g : ByteArray → Option Nat} {E : ByteArray → ByteArray → Option Int} (h : Lin w L B n g E) (hn : n ≤ n') : Lin w L B n' g E :=
  ⟨h.out.mono hn, h.lt, h.no, fun u b hu => ⟨(h.at' u b hu).1, (h.at' u b hu).2.1, (h.at' u b hu).2.2.mono hn⟩, h.inj⟩
theorem Lin.grown {w w' : World} {L B n : Nat} {g : ByteArray → Option Nat} {E : ByteArray → ByteArray → Option Int} {row : Option Nat} (h : Lin w L B n g E) (hg : w.grownBy w' row) (hr : ∀ j, row = some j → j < L ∨ B ≤ j) : Lin w' L B n g E := by
  have hne : ∀ b, L ≤ b → b < B → some b ≠ row := fun b h1 h2 e => by
    have := hr b e.symm
    omega
  exact ⟨h.out.grown hg (hne L (Nat.le_refl _) h.lt), h.lt, h.no, fun u b hu => by
    obtain ⟨h1, h2, h3⟩ := h.at' u b hu
    exact ⟨h1, h2, h3.grown hg (hne b (by omega) h2)⟩, h.inj⟩

end Go.Proofs.Qxb6614579a
