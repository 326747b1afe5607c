/-
  Seat b6605675aF: what a slice of strings or of branches is to the walks; wordsBytes (23), countIdentities (12).
-/
import Derived.Test.Qxb6605675aFmtCards
import Derived.Test.Qxb6605675aFmtProg
import Derived.WalkKit
import Derived.WalkLawsBesides
import Derived.WalkSpells
import Derived.Below
import Derived.Outline
import Derived.LoopTactic
namespace Go.Proofs.Qxb6605675aFmt
open Go.RowKit

/-- A statement that the walk's simp leaves alone. -/
def Hid (p : Prop) : Prop := p
theorem hid {p : Prop} (h : p) : Hid p := h
theorem Hid.out {p : Prop} (h : Hid p) : p := h

/-- A slice of strings below block B. -/
def Strs (B : Nat) (w : World) (a : Option Addr) (ss : List ByteArray) : Prop :=
  (∀ s ∈ ss, s.size ≤ maxLen) ∧ ss.length ≤ maxLen ∧ (0 < ss.length → ∃ b off, a = some ⟨b, off, none⟩ ∧ b < B ∧ ∀ j, j < ss.length → w.cell? ⟨b, off + j, none⟩ = some (.string (ss.getD j ByteArray.empty)))

theorem Strs.below {B : Nat} {w w' : World} {a : Option Addr} {ss : List ByteArray} (h : Strs B w a ss) (hb : Below B w w') : Strs B w' a ss := by
  obtain ⟨h1, h2, h3⟩ := h
  refine ⟨h1, h2, fun hp => ?_⟩
  obtain ⟨b, off, e, hlt, hc⟩ := h3 hp
  exact ⟨b, off, e, hlt, fun j hj => (hb.cell (p := ⟨b, off + j, none⟩) hlt).trans (hc j hj)⟩
theorem Strs.mono {B B' : Nat} {w : World} {a : Option Addr} {ss : List ByteArray} (h : Strs B w a ss) (hB : B ≤ B') : Strs B' w a ss := by
  obtain ⟨h1, h2, h3⟩ := h
  refine ⟨h1, h2, fun hp => ?_⟩
  obtain ⟨b, off, e, hlt, hc⟩ := h3 hp
  exact ⟨b, off, e, Nat.lt_of_lt_of_le hlt hB, hc⟩
theorem Strs.size {B : Nat} {w : World} {a : Option Addr} {ss : List ByteArray} (h : Strs B w a ss) (k : Nat) : (ss.getD k ByteArray.empty).size ≤ maxLen := by
  by_cases hk : k < ss.length
  · rw [List.getD, List.getElem?_eq_getElem hk]
    exact h.1 _ (List.getElem_mem hk)
  · rw [List.getD, List.getElem?_eq_none (by omega)]
    exact Nat.zero_le _

/-- A branch as the law takes it. -/
structure Br where
  host : ByteArray
  port : Int
  path : ByteArray
  id : ByteArray
  ident : ByteArray
def br0 : Br := ⟨ByteArray.empty, 0, ByteArray.empty, ByteArray.empty, ByteArray.empty⟩
structure Br.Ok (x : Br) : Prop where
  host : x.host.size ≤ maxLen
  port : (Lit.int .u16 x.port).wf = true
  path : x.path.size ≤ maxLen
  id : x.id.size ≤ maxLen
  ident : x.ident.size ≤ maxLen

/-- A branch's five cells. -/
structure BrAt (w : World) (b o : Nat) (x : Br) : Prop where
  host : w.cell? ⟨b, o, none⟩ = some (.string x.host)
  port : w.cell? ⟨b, o + 1, none⟩ = some (.int .u16 x.port)
  path : w.cell? ⟨b, o + 2, none⟩ = some (.string x.path)
  id : w.cell? ⟨b, o + 3, none⟩ = some (.string x.id)
  ident : w.cell? ⟨b, o + 4, none⟩ = some (.string x.ident)
theorem BrAt.below {B : Nat} {w w' : World} {b o : Nat} {x : Br} (h : BrAt w b o x) (hb : Below B w w') (hlt : b < B) : BrAt w' b o x := by
  have c : ∀ k, w'.cell? ⟨b, k, none⟩ = w.cell? ⟨b, k, none⟩ := fun k => hb.cell (p := ⟨b, k, none⟩) hlt
  exact ⟨(c _).trans h.host, (c _).trans h.port, (c _).trans h.path, (c _).trans h.id, (c _).trans h.ident⟩

/-- A slice of branches below block B. -/
def Brs (B : Nat) (w : World) (a : Option Addr) (bs : List Br) : Prop :=
  (∀ x ∈ bs, x.Ok) ∧ bs.length ≤ maxLen ∧ (0 < bs.length → ∃ b off, a = some ⟨b, off, none⟩ ∧ b < B ∧ ∀ j, j < bs.length → BrAt w b (off + j * 5) (bs.getD j br0))
theorem Brs.below {B : Nat} {w w' : World} {a : Option Addr} {bs : List Br} (h : Brs B w a bs) (hb : Below B w w') : Brs B w' a bs := by
  obtain ⟨h1, h2, h3⟩ := h
  refine ⟨h1, h2, fun hp => ?_⟩
  obtain ⟨b, off, e, hlt, hc⟩ := h3 hp
  exact ⟨b, off, e, hlt, fun j hj => (hc j hj).below hb hlt⟩
theorem Brs.mono {B B' : Nat} {w : World} {a : Option Addr} {bs : List Br} (h : Brs B w a bs) (hB : B ≤ B') : Brs B' w a bs := by
  obtain ⟨h1, h2, h3⟩ := h
  refine ⟨h1, h2, fun hp => ?_⟩
  obtain ⟨b, off, e, hlt, hc⟩ := h3 hp
  exact ⟨b, off, e, Nat.lt_of_lt_of_le hlt hB, hc⟩
theorem br0_ok : br0.Ok := ⟨Nat.zero_le _, by decide, Nat.zero_le _, Nat.zero_le _, Nat.zero_le _⟩
theorem Brs.ok {B : Nat} {w : World} {a : Option Addr} {bs : List Br} (h : Brs B w a bs) (k : Nat) : (bs.getD k br0).Ok := by
  by_cases hk : k < bs.length
  · rw [List.getD, List.getElem?_eq_getElem hk]
    exact h.1 _ (List.getElem_mem hk)
  · rw [List.getD, List.getElem?_eq_none (by omega)]
    exact br0_ok

def SomeBool (e : Ending) : Prop := ∃ b : Bool, e = .returned (.bool b)
theorem SomeBool.mk (b : Bool) : SomeBool (.returned (.bool b)) := ⟨b, rfl⟩

/-- What wordsBytes tells: beyond the ceiling; or a number within it, and then the words are few. -/
def WordsTold (n : Nat) (e : Ending) : Prop := e = .returned (.int .i64 (-1)) ∨ ∃ r : Int, e = .returned (.int .i64 r) ∧ 0 ≤ r ∧ r ≤ 1048576 ∧ n ≤ 65536

set_option maxHeartbeats 1000000 in
theorem wordsBytes (a : Option Addr) (ss : List ByteArray) (cap : Nat) (w : World) (B : Nat) (hs : Strs B w a ss) :
    Calls Tryf.prog 23 #[.slice a ss.length cap] w fun e w' => WordsTold ss.length e ∧ w' = w := by
  have hn := hs.2.1
  unfold maxLen at hn
  have HS := hid hs
  clear hs
  by_cases hl : 65536 < (ss.length : Int)
  · go_enter Tryf.func23, Tryf.ntmps23
    go_wp2
    go_ret
    exact ⟨.inl rfl, rfl⟩
  have hld : decide (65536 < (ss.length : Int)) = false := decide_eq_false hl
  go_enter Tryf.func23, Tryf.ntmps23
  go_wp2
  go_loop [3, 4] (fun t i => ∃ (k : Nat) (x : Int), k ≤ ss.length ∧ i = .int .i64 k ∧ t = .int .i64 x ∧ 0 ≤ x ∧ x ≤ 1048576) (fun _ i => ss.length - (intOf i).toNat)
  case atStart => exact ⟨0, 0, Nat.zero_le _, rfl, rfl, by omega, by omega⟩
  case round =>
    obtain ⟨k, x, hk, rfl, rfl, hx0, hx1⟩ := hrel
    by_cases hk' : k < ss.length
    · obtain ⟨b, off, rfl, _, hc⟩ := HS.out.2.2 (by omega)
      have hcx := hc k hk'
      have hs1 := HS.out.size k
      clear hc
      generalize ss.getD k ByteArray.empty = s at hcx hs1
      unfold maxLen at hs1
      by_cases hy : 1048576 < (s.size : Int)
      · go_wp2
        go_ret
        exact ⟨.inl rfl, rfl⟩
      · by_cases hz : 1048576 < x + (16 + (s.size : Int))
        · go_wp2
          go_ret
          exact ⟨.inl rfl, rfl⟩
        · go_wp2
          go_round
          case rel => exact ⟨k + 1, _, by omega, by go_num, rfl, by omega, by omega⟩
          case measure => simp [intOf]; omega
    · go_wp2
      go_ret
      exact ⟨.inr ⟨_, rfl, hx0, hx1, by omega⟩, rfl⟩

/-- How many of the first k bear an identity. -/
def idents (bs : List Br) : Nat → Nat
  | 0 => 0
  | k + 1 => idents bs k + (if 0 < (bs.getD k br0).ident.size then 1 else 0)
theorem idents_le (bs : List Br) : ∀ k, idents bs k ≤ k
  | 0 => Nat.le_refl _
  | k + 1 => by
    have := idents_le bs k
    unfold idents
    split <;> omega

set_option maxHeartbeats 1000000 in
theorem countIdents (a : Option Addr) (bs : List Br) (cap : Nat) (w : World) (B : Nat) (hs : Brs B w a bs) (hn : bs.length ≤ 65536) :
    Calls Tryf.prog 12 #[.slice a bs.length cap] w fun e w' => e = .returned (.int .i64 (idents bs bs.length)) ∧ w' = w := by
  have HS := hid hs
  clear hs
  go_enter Tryf.func12, Tryf.ntmps12
  go_wp2
  go_loop [3, 4] (fun t i => ∃ k : Nat, k ≤ bs.length ∧ i = .int .i64 k ∧ t = .int .i64 (idents bs k)) (fun _ i => bs.length - (intOf i).toNat)
  case atStart => exact ⟨0, Nat.zero_le _, rfl, rfl⟩
  case round =>
    obtain ⟨k, hk, rfl, rfl⟩ := hrel
    by_cases hk' : k < bs.length
    · obtain ⟨b, off, rfl, _, hc⟩ := HS.out.2.2 (by omega)
      have hcx := (hc k hk').ident
      have hs1 := (HS.out.ok k).ident
      have HE : Hid (idents bs (k + 1) = idents bs k + (if 0 < (bs.getD k br0).ident.size then 1 else 0)) := rfl
      have hle := idents_le bs k
      clear hc
      generalize (bs.getD k br0).ident = s at hcx hs1 HE
      unfold maxLen at hs1
      by_cases hy : 0 < (s.size : Int)
      · have HF : Hid (idents bs (k + 1) = idents bs k + 1) := by show _ = _; rw [HE.out, if_pos (by omega)]
        generalize idents bs k = y at *
        go_wp2
        go_round
        case rel => exact ⟨k + 1, by omega, by go_num, by rw [HF.out]; go_num⟩
        case measure => simp [intOf]; omega
      · have HF : Hid (idents bs (k + 1) = idents bs k) := by show _ = _; rw [HE.out, if_neg (by omega)]; rfl
        generalize idents bs k = y at *
        go_wp2
        go_round
        case rel => exact ⟨k + 1, by omega, by go_num, by rw [HF.out]⟩
        case measure => simp [intOf]; omega
    · have hkn : k = bs.length := by omega
      subst hkn
      go_wp2
      go_ret
      exact ⟨rfl, rfl⟩

end Go.Proofs.Qxb6605675aFmt
