/-
  Seat b6614579a: THE PLAIN LAW: reachability, and what a depth-first search with a set of looked-at names leaves. No Go in sight.
-/
import Derived.Test.Qxb6614579aRows
namespace Go.Proofs.Qxb6614579a

/-- t is reached from (node, sq): a first step along an edge of at least sq, later ones along edges of at least 1. -/
def Reach (E : ByteArray → ByteArray → Option Int) (node : ByteArray) (sq : Int) (t : ByteArray) : Prop :=
  ∀ X : ByteArray → Prop, (∀ v x, E node v = some x → sq ≤ x → X v) → (∀ u v x, X u → E u v = some x → 1 ≤ x → X v) → X t

theorem Reach.first {E : ByteArray → ByteArray → Option Int} {node : ByteArray} {sq : Int} {v : ByteArray} {x : Int} (h : E node v = some x) (hx : sq ≤ x) : Reach E node sq v :=
  fun _ h1 _ => h1 v x h hx
theorem Reach.step {E : ByteArray → ByteArray → Option Int} {node : ByteArray} {sq : Int} {u v : ByteArray} {x : Int} (hu : Reach E node sq u) (h : E u v = some x) (hx : 1 ≤ x) : Reach E node sq v :=
  fun X h1 h2 => h2 u v x (hu X h1 h2) h hx
theorem Reach.through {E : ByteArray → ByteArray → Option Int} {node u t : ByteArray} {sq : Int} (hu : Reach E node sq u) (ht : Reach E u 1 t) : Reach E node sq t :=
  fun X h1 h2 => ht X (fun v x hv hx => h2 u v x (hu X h1 h2) hv hx) h2

/-- Some goal is reached. -/
def Hits (E : ByteArray → ByteArray → Option Int) (goal : ByteArray → Bool) (node : ByteArray) (sq : Int) : Prop := ∃ t, Reach E node sq t ∧ goal t = true

/-- What a set of looked-at names Y holds more than X: no goal, and all that its edges lead to is in it. -/
def Shut (E : ByteArray → ByteArray → Option Int) (goal : ByteArray → Bool) (X Y : ByteArray → Bool) : Prop :=
  ∀ u, Y u = true → X u = true ∨ (goal u = false ∧ ∀ v x, E u v = some x → 1 ≤ x → Y v = true)

def Sub (X Y : ByteArray → Bool) : Prop := ∀ u, X u = true → Y u = true

/-- What the search from (node, sq), begun at X, leaves. -/
def Fol (E : ByteArray → ByteArray → Option Int) (goal : ByteArray → Bool) (node : ByteArray) (sq : Int) (X : ByteArray → Bool) (b : Bool) (Y : ByteArray → Bool) : Prop :=
  Sub X Y ∧ (b = true → Hits E goal node sq) ∧ (b = false → (∀ v x, E node v = some x → sq ≤ x → Y v = true) ∧ Shut E goal X Y)

def addOne (Y : ByteArray → Bool) (s : ByteArray) : ByteArray → Bool := fun x => if x = s then true else Y x

theorem sub_add (Y : ByteArray → Bool) (s : ByteArray) : Sub Y (addOne Y s) := fun u hu => by
  show (if u = s then true else Y u) = true
  by_cases e : u = s
  · rw [if_pos e]
  · rw [if_neg e]; exact hu

theorem Sub.trans {X Y Z : ByteArray → Bool} (h : Sub X Y) (k : Sub Y Z) : Sub X Z := fun u hu => k u (h u hu)

/-- The relation of the search's loop: 'left v': the entry at v is still to come. -/
structure Mid (E : ByteArray → ByteArray → Option Int) (goal : ByteArray → Bool) (node : ByteArray) (sq : Int) (X Y : ByteArray → Bool) (left : ByteArray → Bool) : Prop where
  sub : Sub X Y
  out : ∀ v x, E node v = some x → sq ≤ x → left v = true ∨ Y v = true
  shut : Shut E goal X Y

theorem Mid.start (E : ByteArray → ByteArray → Option Int) (goal : ByteArray → Bool) (node : ByteArray) (sq : Int) (X : ByteArray → Bool) (left : ByteArray → Bool) (hl : ∀ v x, E node v = some x → left v = true) : Mid E goal node sq X X left :=
  ⟨fun _ h => h, fun v x hv _ => .inl (hl v x hv), fun _ h => .inl h⟩

/-- The entry at s is passed over: too low an edge, or s has been looked at. -/
theorem Mid.pass {E : ByteArray → ByteArray → Option Int} {goal : ByteArray → Bool} {node : ByteArray} {sq : Int} {X Y left left' : ByteArray → Bool} (h : Mid E goal node sq X Y left) {s : ByteArray} (hl : ∀ v, left v = true → v = s ∨ left' v = true) (hs : (∀ x, E node s = some x → ¬ sq ≤ x) ∨ Y s = true) : Mid E goal node sq X Y left' := by
  refine ⟨h.sub, fun v x hv hx => ?_, h.shut⟩
  rcases h.out v x hv hx with h1 | h1
  · rcases hl v h1 with e | e
    · subst e
      rcases hs with hs | hs
      · exact absurd hx (hs x hv)
      · exact .inr hs
    · exact .inl e
  · exact .inr h1

/-- The entry at s was gone into, in vain. -/
theorem Mid.into {E : ByteArray → ByteArray → Option Int} {goal : ByteArray → Bool} {node : ByteArray} {sq : Int} {X Y Z left left' : ByteArray → Bool} (h : Mid E goal node sq X Y left) {s : ByteArray} (hl : ∀ v, left v = true → v = s ∨ left' v = true) (hg : goal s = false) (hf : Fol E goal s 1 (addOne Y s) false Z) : Mid E goal node sq X Z left' := by
  obtain ⟨h1, _, h3⟩ := hf
  obtain ⟨h4, h5⟩ := h3 rfl
  have hYZ : Sub Y Z := (sub_add Y s).trans h1
  have hsZ : Z s = true := h1 s (if_pos rfl)
  refine ⟨h.sub.trans hYZ, fun v x hv hx => ?_, fun u hu => ?_⟩
  · rcases h.out v x hv hx with k | k
    · rcases hl v k with e | e
      · subst e; exact .inr hsZ
      · exact .inl e
    · exact .inr (hYZ v k)
  · rcases h5 u hu with k | k
    · by_cases e : u = s
      · subst e
        exact .inr ⟨hg, fun v x hv hx => h4 v x hv hx⟩
      · have hYu : Y u = true := by
          have : (if u = s then true else Y u) = true := k
          rwa [if_neg e] at this
        rcases h.shut u hYu with q | ⟨q1, q2⟩
        · exact .inl q
        · exact .inr ⟨q1, fun v x hv hx => hYZ v (q2 v x hv hx)⟩
    · exact .inr k

theorem Mid.done {E : ByteArray → ByteArray → Option Int} {goal : ByteArray → Bool} {node : ByteArray} {sq : Int} {X Y left : ByteArray → Bool} (h : Mid E goal node sq X Y left) (hl : ∀ v, left v = false) : Fol E goal node sq X false Y :=
  ⟨h.sub, fun e => (by cases e), fun _ => ⟨fun v x hv hx => by
    rcases h.out v x hv hx with k | k
    · rw [hl v] at k; cases k
    · exact k, h.shut⟩⟩

theorem Mid.hit {E : ByteArray → ByteArray → Option Int} {goal : ByteArray → Bool} {node : ByteArray} {sq : Int} {X Y Z left : ByteArray → Bool} (h : Mid E goal node sq X Y left) (hYZ : Sub Y Z) (hh : Hits E goal node sq) : Fol E goal node sq X true Z :=
  ⟨h.sub.trans hYZ, fun _ => hh, fun e => by cases e⟩

/-- The whole search, begun at nothing, tells whether a goal is reached. -/
theorem Fol.tells {E : ByteArray → ByteArray → Option Int} {goal : ByteArray → Bool} {node : ByteArray} {sq : Int} {b : Bool} {Y : ByteArray → Bool} (h : Fol E goal node sq (fun _ => false) b Y) : (b = true ↔ Hits E goal node sq) := by
  refine ⟨h.2.1, fun ⟨t, ht, hg⟩ => ?_⟩
  cases b with
  | true => rfl
  | false =>
    obtain ⟨h1, h2⟩ := h.2.2 rfl
    have : Y t = true ∧ goal t = false := ht (fun u => Y u = true ∧ goal u = false)
      (fun v x hv hx => by
        have hy := h1 v x hv hx
        rcases h2 v hy with k | k
        · cases k
        · exact ⟨hy, k.1⟩)
      (fun u v x hu hv hx => by
        rcases h2 u hu.1 with k | k
        · cases k
        · have hy := k.2 v x hv hx
          rcases h2 v hy with q | q
          · cases q
          · exact ⟨hy, q.1⟩)
    rw [this.2] at hg
    cases hg

/-! ### how many names are still to be looked at -/
def cnt (ts : List ByteArray) (X : ByteArray → Bool) : Nat := (ts.filter (fun t => !X t)).length

theorem cnt_le (X Y : ByteArray → Bool) (h : Sub X Y) : ∀ ts : List ByteArray, cnt ts Y ≤ cnt ts X
  | [] => Nat.le_refl _
  | t :: r => by
    have ih := cnt_le X Y h r
    unfold cnt at ih ⊢
    cases hx : X t
    · cases hy : Y t
      · simp [hx, hy]; exact ih
      · simp [hx, hy]; omega
    · have hy := h t hx
      simp [hx, hy]; exact ih

theorem cnt_lt (Y : ByteArray → Bool) (s : ByteArray) (hs : Y s = false) : ∀ ts : List ByteArray, s ∈ ts → cnt ts (addOne Y s) + 1 ≤ cnt ts Y
  | [], h => by cases h
  | t :: r, h => by
    have hle := cnt_le Y (addOne Y s) (sub_add Y s) r
    by_cases e : t = s
    · subst e
      have h1 : addOne Y t t = true := if_pos rfl
      unfold cnt at hle ⊢
      simp [hs, h1]; exact hle
    · have ih := cnt_lt Y s hs r (by
        rcases List.mem_cons.1 h with h | h
        · exact absurd h.symm e
        · exact h)
      have h1 : addOne Y s t = Y t := if_neg e
      unfold cnt at ih ⊢
      cases hy : Y t
      · simp [hy, h1]; omega
      · simp [hy, h1]; omega

theorem cnt_all (ts : List ByteArray) (X : ByteArray → Bool) : cnt ts X ≤ ts.length := List.length_filter_le _ _

end Go.Proofs.Qxb6614579a
