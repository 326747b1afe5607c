/-
  Seat b6605675aF: encoding/hex.EncodeToString (32), by the shelf's contract.
-/
import Derived.Test.Qxb6605675aFmtBase
import Derived.Shelf.Hex.Encode
import Derived.Shelf.Lay
namespace Go.Proofs.Qxb6605675aFmt
open Go.Shelf Go.Lib Go.RowKit

shelf_lay Lays.ph39 Pa 39 at Tryf as laysHex

/-- An identity's text. -/
def hexOf (s : ByteArray) : ByteArray := ⟨(Hx.encode (Lib.bytesOf (s.data.toList.map fun b => (b.toNat : Int)))).toArray⟩

theorem hexStr (b n cs : Nat) (s : ByteArray) (w : World) (hn : s.size = n) (hb : b < w.heap.size) (hc : ∀ i, i < n → w.cell? ⟨b, i, none⟩ = some (.int .u8 ((s.data.toList.map fun b => (b.toNat : Int)).getD i 0))) (hbig : n ≤ 1048576) :
    Calls Tryf.prog 32 #[.slice (some ⟨b, 0, none⟩) n cs] w fun e w' => e = .returned (.string (hexOf s)) ∧ Below w.heap.size w w' := by
  refine Any.hex_EncodeToString laysHex b 0 n cs (s.data.toList.map fun b => (b.toNat : Int)) w ?_ (fun i hi => ?_) (fun i hi => ?_) hb (by omega)
  · rw [List.length_map, ← hn]
    rfl
  · have hl : i < (s.data.toList.map fun b => (b.toNat : Int)).length := by rw [List.length_map]; rw [← hn] at hi; exact hi
    rw [List.getD, List.getElem?_eq_getElem hl]
    simp only [Option.getD_some, List.getElem_map]
    have := (s.data.toList[i]'(by simpa using hl)).toNat_lt
    omega
  · rw [Nat.zero_add]
    exact hc i hi

end Go.Proofs.Qxb6605675aFmt
