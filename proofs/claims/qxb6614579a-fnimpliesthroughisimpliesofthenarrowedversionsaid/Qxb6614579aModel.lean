/-
  Seat b6614579a: THE PLAIN LAW of the model's fixpoint: edges taken round by round reach just what Reach says.
-/
import Derived.Test.Qxb6614579aLineage
import Derived.Test.Qxb6614579aReach
namespace Go.Proofs.Qxb6614579a

def nth (ss : List ByteArray) (i : Nat) : ByteArray := ss.getD i ByteArray.empty

theorem edTo_some {fs ts : List ByteArray} {zs : List Int} {u v : ByteArray} {x : Int} : ∀ {k : Nat}, edTo fs ts zs k u v = some x → ∃ i, i < k ∧ nth fs i = u ∧ nth ts i = v
  | 0, h => by cases h
  | k + 1, h => by
    unfold edTo at h
    by_cases e : u = fs.getD k ByteArray.empty ∧ v = ts.getD k ByteArray.empty
    · exact ⟨k, Nat.lt_succ_self k, e.1.symm, e.2.symm⟩
    · rw [if_neg e] at h
      obtain ⟨i, h1, h2⟩ := edTo_some h
      exact ⟨i, Nat.lt_succ_of_lt h1, h2⟩

theorem edTo_at (fs ts : List ByteArray) (zs : List Int) {i : Nat} : ∀ {k : Nat}, i < k → (edTo fs ts zs k (nth fs i) (nth ts i)).isSome = true
  | 0, h => by omega
  | k + 1, h => by
    unfold edTo
    by_cases e : nth fs i = fs.getD k ByteArray.empty ∧ nth ts i = ts.getD k ByteArray.empty
    · rw [if_pos e]; rfl
    · rw [if_neg e]
      by_cases ek : i = k
      · subst ek
        exact absurd ⟨rfl, rfl⟩ e
      · exact edTo_at fs ts zs (by omega)

/-- The number that stands for edge i's pair. -/
def evTo (fs ts : List ByteArray) (zs : List Int) (n i : Nat) : Int := (edTo fs ts zs n (nth fs i) (nth ts i)).getD 0

theorem ev_edge {fs ts : List ByteArray} {zs : List Int} {n i : Nat} (h : i < n) : edTo fs ts zs n (nth fs i) (nth ts i) = some (evTo fs ts zs n i) := by
  have := edTo_at fs ts zs h
  unfold evTo
  cases he : edTo fs ts zs n (nth fs i) (nth ts i) with
  | none => rw [he] at this; cases this
  | some x => rfl

theorem ev_of {fs ts : List ByteArray} {zs : List Int} {n : Nat} {u v : ByteArray} {x : Int} (h : edTo fs ts zs n u v = some x) : ∃ i, i < n ∧ nth fs i = u ∧ nth ts i = v ∧ evTo fs ts zs n i = x := by
  obtain ⟨i, h1, h2, h3⟩ := edTo_some h
  refine ⟨i, h1, h2, h3, ?_⟩
  unfold evTo
  rw [h2, h3, h]
  rfl

/-- How many of the first k are not taken. -/
def unt (T : Nat → Bool) : Nat → Nat
  | 0 => 0
  | k + 1 => (if T k then 0 else 1) + unt T k

def setAt (T : Nat → Bool) (i : Nat) : Nat → Bool := fun j => if j = i then true else T j

theorem unt_same (T : Nat → Bool) (i : Nat) : ∀ k, k ≤ i → unt (setAt T i) k = unt T k
  | 0, _ => rfl
  | k + 1, h => by
    unfold unt
    rw [unt_same T i k (by omega)]
    have : setAt T i k = T k := if_neg (by omega)
    rw [this]
theorem unt_set (T : Nat → Bool) (i : Nat) (hT : T i = false) : ∀ k, i < k → unt (setAt T i) k + 1 = unt T k
  | 0, h => by omega
  | k + 1, h => by
    unfold unt
    by_cases e : i = k
    · subst e
      rw [unt_same T i i (Nat.le_refl _)]
      have : setAt T i i = true := if_pos rfl
      rw [this, hT]
      simp
      omega
    · have ih := unt_set T i hT k (by omega)
      have : setAt T i k = T k := if_neg (by omega)
      rw [this]
      omega
theorem unt_zero {T : Nat → Bool} : ∀ {k : Nat}, unt T k = 0 → ∀ i, i < k → T i = true
  | 0, _, _, h => by omega
  | k + 1, h, i, hi => by
    unfold unt at h
    cases hT : T k with
    | false => rw [hT] at h; simp at h
    | true =>
      by_cases e : i = k
      · rw [e]; exact hT
      · exact unt_zero (k := k) (by rw [hT] at h; simpa using h) i (by omega)
theorem unt_none : ∀ k, unt (fun _ => false) k = k
  | 0 => rfl
  | k + 1 => by unfold unt; rw [unt_none k]; simp; omega

/-- Edge i may be taken. -/
def may (fs : List ByteArray) (ev : Nat → Int) (node : ByteArray) (sq : Int) (X : ByteArray → Bool) (i : Nat) : Prop :=
  (nth fs i = node ∧ sq ≤ ev i) ∨ (X (nth fs i) = true ∧ 1 ≤ ev i)

structure Fx (fs ts : List ByteArray) (zs : List Int) (n : Nat) (node : ByteArray) (sq : Int) (T : Nat → Bool) (X : ByteArray → Bool) (left : Nat) : Prop where
  sound : ∀ i, i < n → T i = true → Reach (edTo fs ts zs n) node sq (nth ts i)
  xs : ∀ s, X s = true ↔ ∃ i, i < n ∧ T i = true ∧ nth ts i = s
  cn : left = unt T n

theorem Fx.start (fs ts : List ByteArray) (zs : List Int) (n : Nat) (node : ByteArray) (sq : Int) : Fx fs ts zs n node sq (fun _ => false) (fun _ => false) n :=
  ⟨fun _ _ h => (by cases h), fun s => ⟨fun h => (by cases h), fun ⟨_, _, h, _⟩ => (by cases h)⟩, (unt_none n).symm⟩

theorem Fx.take {fs ts : List ByteArray} {zs : List Int} {n : Nat} {node : ByteArray} {sq : Int} {T : Nat → Bool} {X : ByteArray → Bool} {left : Nat} (h : Fx fs ts zs n node sq T X left) {i : Nat} (hi : i < n) (hT : T i = false) (hm : may fs (evTo fs ts zs n) node sq X i) :
    Fx fs ts zs n node sq (setAt T i) (addOne X (nth ts i)) (left - 1) ∧ 0 < left := by
  have hu := unt_set T i hT n hi
  have hc := h.cn
  have hreach : Reach (edTo fs ts zs n) node sq (nth ts i) := by
    rcases hm with ⟨h1, h2⟩ | ⟨h1, h2⟩
    · have := ev_edge (fs := fs) (ts := ts) (zs := zs) hi
      rw [h1] at this
      exact Reach.first this h2
    · obtain ⟨j, hj, hTj, he⟩ := (h.xs _).1 h1
      have hr := h.sound j hj hTj
      rw [he] at hr
      exact hr.step (ev_edge hi) h2
  refine ⟨⟨fun j hj hTj => ?_, fun s => ?_, by omega⟩, by omega⟩
  · by_cases e : j = i
    · rw [e]; exact hreach
    · have : setAt T i j = T j := if_neg e
      rw [this] at hTj
      exact h.sound j hj hTj
  · constructor
    · intro hs
      by_cases e : s = nth ts i
      · exact ⟨i, hi, if_pos rfl, e.symm⟩
      · have h1 : addOne X (nth ts i) s = X s := if_neg e
        rw [h1] at hs
        obtain ⟨j, hj, hTj, he⟩ := (h.xs s).1 hs
        refine ⟨j, hj, ?_, he⟩
        show (if j = i then true else T j) = true
        by_cases e2 : j = i
        · rw [if_pos e2]
        · rw [if_neg e2]; exact hTj
    · rintro ⟨j, hj, hTj, he⟩
      show (if s = nth ts i then true else X s) = true
      by_cases e : s = nth ts i
      · rw [if_pos e]
      · rw [if_neg e]
        by_cases e2 : j = i
        · rw [e2] at he; exact absurd he.symm e
        · have : setAt T i j = T j := if_neg e2
          rw [this] at hTj
          exact (h.xs s).2 ⟨j, hj, hTj, he⟩

/-- Nothing more may be taken: all that is reached has been. -/
theorem Fx.all {fs ts : List ByteArray} {zs : List Int} {n : Nat} {node : ByteArray} {sq : Int} {T : Nat → Bool} {X : ByteArray → Bool} {left : Nat} (h : Fx fs ts zs n node sq T X left) (hc : ∀ i, i < n → T i = false → ¬ may fs (evTo fs ts zs n) node sq X i) {t : ByteArray} (ht : Reach (edTo fs ts zs n) node sq t) :
    ∃ i, i < n ∧ T i = true ∧ nth ts i = t := by
  have taken : ∀ i, i < n → may fs (evTo fs ts zs n) node sq X i → T i = true := fun i hi hm => by
    cases hT : T i with
    | true => rfl
    | false => exact absurd hm (hc i hi hT)
  refine ht (fun t => ∃ i, i < n ∧ T i = true ∧ nth ts i = t) (fun v x hv hx => ?_) (fun u v x hu hv hx => ?_)
  · obtain ⟨i, hi, h1, h2, h3⟩ := ev_of hv
    exact ⟨i, hi, taken i hi (.inl ⟨h1, by omega⟩), h2⟩
  · obtain ⟨i, hi, h1, h2, h3⟩ := ev_of hv
    have hX : X u = true := (h.xs u).2 hu
    exact ⟨i, hi, taken i hi (.inr ⟨by rw [h1]; exact hX, by omega⟩), h2⟩

/-- The last loop's answers. -/
theorem Fx.yes {fs ts : List ByteArray} {zs : List Int} {n : Nat} {node : ByteArray} {sq : Int} {T : Nat → Bool} {X : ByteArray → Bool} {left : Nat} (h : Fx fs ts zs n node sq T X left) {goal : ByteArray → Bool} {i : Nat} (hi : i < n) (hT : T i = true) (hg : goal (nth ts i) = true) : (true = true ↔ Hits (edTo fs ts zs n) goal node sq) :=
  ⟨fun _ => ⟨_, h.sound i hi hT, hg⟩, fun _ => rfl⟩
theorem Fx.no {fs ts : List ByteArray} {zs : List Int} {n : Nat} {node : ByteArray} {sq : Int} {T : Nat → Bool} {X : ByteArray → Bool} {left : Nat} (h : Fx fs ts zs n node sq T X left) (hc : ∀ i, i < n → T i = false → ¬ may fs (evTo fs ts zs n) node sq X i) {goal : ByteArray → Bool} (hg : ∀ i, i < n → T i = true → goal (nth ts i) = false) : (false = true ↔ Hits (edTo fs ts zs n) goal node sq) := by
  refine ⟨fun h => (by cases h), fun ⟨t, ht, hgt⟩ => ?_⟩
  obtain ⟨i, hi, hT, rfl⟩ := h.all hc ht
  rw [hg i hi hT] at hgt
  cases hgt

end Go.Proofs.Qxb6614579a
