/-
  Seat b6605675aF: THE PLAIN LAW of the words appended; the node's branches in memory.
-/
import Derived.Test.Qxb6605675aFmtBuild
import Derived.Test.Qxb6605675aFmtText
namespace Go.Proofs.Qxb6605675aFmt
open Go.RowKit Go.Stop

/-- The words of one branch: her address's text, her identifier, her identity where she has one. 'hx': an identity's text. -/
def brWords (F : Interp) (hx : ByteArray → ByteArray) (x : Br) : List ByteArray :=
  addrText F x.host x.port x.path :: x.id :: (if 0 < x.ident.size then [hx x.ident] else [])
def wordsTo (F : Interp) (hx : ByteArray → ByteArray) (bs : List Br) : Nat → List ByteArray
  | 0 => []
  | k + 1 => wordsTo F hx bs k ++ brWords F hx (bs.getD k br0)

theorem wordsTo_len (F : Interp) (hx : ByteArray → ByteArray) (bs : List Br) : ∀ k, (wordsTo F hx bs k).length = 2 * k + idents bs k
  | 0 => rfl
  | k + 1 => by
    show (wordsTo F hx bs k ++ brWords F hx (bs.getD k br0)).length = 2 * (k + 1) + (idents bs k + (if 0 < (bs.getD k br0).ident.size then 1 else 0))
    rw [List.length_append, wordsTo_len F hx bs k]
    unfold brWords
    split
    · simp; omega
    · simp; omega
theorem wordsTo_congr (F : Interp) (hx : ByteArray → ByteArray) {bs cs : List Br} : ∀ {k : Nat}, (∀ j, j < k → bs.getD j br0 = cs.getD j br0) → wordsTo F hx bs k = wordsTo F hx cs k
  | 0, _ => rfl
  | k + 1, h => by
    show wordsTo F hx bs k ++ brWords F hx (bs.getD k br0) = wordsTo F hx cs k ++ brWords F hx (cs.getD k br0)
    rw [wordsTo_congr F hx (fun j hj => h j (by omega)), h k (by omega)]
theorem wordsTo_split (F : Interp) (hx : ByteArray → ByteArray) (bs : List Br) (k : Nat) : ∀ m, wordsTo F hx bs (k + m) = wordsTo F hx bs k ++ wordsTo F hx (bs.drop k) m
  | 0 => (List.append_nil _).symm
  | m + 1 => by
    show wordsTo F hx bs (k + m) ++ brWords F hx (bs.getD (k + m) br0) = wordsTo F hx bs k ++ (wordsTo F hx (bs.drop k) m ++ brWords F hx ((bs.drop k).getD m br0))
    rw [wordsTo_split F hx bs k m, List.append_assoc]
    have e : (bs.drop k).getD m br0 = bs.getD (k + m) br0 := by
      simp only [List.getD, List.getElem?_drop]
    rw [e]
/-- In two pieces as at once. -/
theorem words_pieces (F : Interp) (hx : ByteArray → ByteArray) (bs : List Br) (k : Nat) (hk : k ≤ bs.length) (ss : List ByteArray) :
    (ss ++ wordsTo F hx (bs.take k) (bs.take k).length) ++ wordsTo F hx (bs.drop k) (bs.drop k).length = ss ++ wordsTo F hx bs bs.length := by
  have e1 : (bs.take k).length = k := by rw [List.length_take]; omega
  have e2 : (bs.drop k).length = bs.length - k := List.length_drop
  rw [e1, e2, List.append_assoc]
  have e3 : wordsTo F hx (bs.take k) k = wordsTo F hx bs k := wordsTo_congr F hx (fun j hj => by
    simp only [List.getD, List.getElem?_take]
    rw [if_pos hj])
  rw [e3, ← wordsTo_split, show k + (bs.length - k) = bs.length by omega]

/-- Block p is a row of pointers to the branches bs. -/
def Ptrs (w : World) (p : Nat) (bs : List Br) : Prop :=
  ∃ cur, w.heap[p]? = some (.cells cur 48 (0, 0)) ∧ ∀ j, j < bs.length → ∃ q, cur[j]? = some (ptrV q) ∧ BrP w q (bs.getD j br0)
theorem Ptrs.keep {w w' : World} {p : Nat} {bs : List Br} (h : Ptrs w p bs) (hk : ∀ (j : Nat) (c : Array Value) (t : TypeId) (fz : Nat × Nat), (t = 48 ∨ t = 57) → w.heap[j]? = some (Obj.cells c t fz) → w'.heap[j]? = some (Obj.cells c t fz)) : Ptrs w' p bs := by
  obtain ⟨cur, h1, h2⟩ := h
  refine ⟨cur, hk _ _ _ _ (.inl rfl) h1, fun j hj => ?_⟩
  obtain ⟨q, h3, h4⟩ := h2 j hj
  exact ⟨q, h3, hk _ _ _ _ (.inr rfl) h4⟩
theorem Ptrs.grown {w w' : World} {p : Nat} {bs : List Br} {base : Nat} {v : Value} {n : Nat} {xs : List Value} (h : Ptrs w p bs) (ho : w.ownsRow base 9 1 v n xs) (hg : w.grownBy w' v.ownBlock) : Ptrs w' p bs :=
  h.keep (fun _ _ _ _ ht hj => grown_block hg hj (own_ne ho hj (by rcases ht with rfl | rfl <;> decide)))
theorem Ptrs.below {w w' : World} {p : Nat} {bs : List Br} (h : Ptrs w p bs) (hb : Below w.heap.size w w') : Ptrs w' p bs :=
  h.keep (fun j _ _ _ _ hj => (hb.block j (lt_of_block hj)).trans hj)
theorem Ptrs.alloc {w : World} {p : Nat} {bs : List Br} (h : Ptrs w p bs) (o : Obj) : Ptrs (w.alloc o) p bs :=
  h.keep (fun _ _ _ _ _ hj => (Below.heap_alloc _ _ _ (lt_of_block hj)).trans hj)

end Go.Proofs.Qxb6605675aFmt
