/-
  No cell of these rows narrows 'for every input' (looked for: loops, veiled, ifaces, maps, wideKeys, modest, calm, conditions, laid).
  DERIVED. THE GIVEN ROWS OF THIS SEAT. 4 by the template 'for every input the law returns true; each argument reads behind the call as it read before'; 0 by the template 'total and deterministic' (their statements: Qxb6608868aTotals.lean).
  GIVEN WITH THE SEED: the statements are not yours to turn. If you find one false, say at which input.
  Laid BY PROGRAM, IN A SANDBOX (cutbox-rows.mjs): the forced cells as the released guide's own fill.sh prints them over the translation 2bbf2d097679b3d8… (all of the seat's roots in one cut). By AI agents, Wed Nov 11 2026. No macro, syntax, notation, axiom, sorry.
-/
import Derived.Test.Qxb6608868aChecked
import GoSem.Claim
import GoSem.ClaimJoined
import GoSem.ClaimMapViews
import Derived.JoinedTies
import Derived.KernelRfl
namespace Go.Proofs.Qxb6608868a
/- THE CELL 'sum', in the pinned program and in every row, IS THE sha256 OF THE DUMP (.gsa) THAT Qxb6608868aProg.lean LOADS. Nothing in Lean hashes anything: it is a label: what it is worth is what the hold of that sum in a sandbox is worth. -/
noncomputable def Try.pinned : Pinned := { name := "qxb6608868a", sum := "2bbf2d097679b3d8aa5468bc7955a1fb9a8f14b1c98d51793d4dece8bfbdfe82", checked := Try.checked }
namespace Rows
def none {H : Type} : Left H := { results := [], args := [] }

/-- 'zzlaws_root_b1.FnAtRankNearRthFastest': WHATEVER THE INPUT: true; the input reads as it did. -/
def fnAtRankNearRthFastestSpec : ChangeSpec := { name := "fnAtRankNearRthFastest", fn := fun _ => fun
  | [d1, d2] => { results := [.lit (.bool true)], args := [d1, d2] }
  | _ => none }
def fnAtRankNearRthFastestRow : OpenClaim := { program := "qxb6608868a", sum := "2bbf2d097679b3d8aa5468bc7955a1fb9a8f14b1c98d51793d4dece8bfbdfe82", func := "example.com/accrual/accrual/zzlaws_root_b1.FnAtRankNearRthFastest", spec := "fnAtRankNearRthFastest", apart := false }
def FnAtRankNearRthFastestSaid : Prop := fnAtRankNearRthFastestRow.holds Try.pinned (OpenSpec.ofChange fnAtRankNearRthFastestSpec)

/-- ITS FALSE NEIGHBOUR: 'it returns false'. Refute it at one input. -/
def fnAtRankNearRthFastestWrong : ChangeSpec := { name := "fnAtRankNearRthFastest", fn := fun _ => fun
  | [d1, d2] => { results := [.lit (.bool false)], args := [d1, d2] }
  | _ => none }
def FnAtRankNearRthFastestWrongFalsely : Prop := fnAtRankNearRthFastestRow.holds Try.pinned (OpenSpec.ofChange fnAtRankNearRthFastestWrong)

/-- 'zzlaws_root_b1.FnAtRankAfterMerge': WHATEVER THE INPUT: true; the input reads as it did. -/
def fnAtRankAfterMergeSpec : ChangeSpec := { name := "fnAtRankAfterMerge", fn := fun _ => fun
  | [d1, d2, d3] => { results := [.lit (.bool true)], args := [d1, d2, d3] }
  | _ => none }
def fnAtRankAfterMergeRow : OpenClaim := { program := "qxb6608868a", sum := "2bbf2d097679b3d8aa5468bc7955a1fb9a8f14b1c98d51793d4dece8bfbdfe82", func := "example.com/accrual/accrual/zzlaws_root_b1.FnAtRankAfterMerge", spec := "fnAtRankAfterMerge", apart := false }
def FnAtRankAfterMergeSaid : Prop := fnAtRankAfterMergeRow.holds Try.pinned (OpenSpec.ofChange fnAtRankAfterMergeSpec)

/-- ITS FALSE NEIGHBOUR: 'it returns false'. Refute it at one input. -/
def fnAtRankAfterMergeWrong : ChangeSpec := { name := "fnAtRankAfterMerge", fn := fun _ => fun
  | [d1, d2, d3] => { results := [.lit (.bool false)], args := [d1, d2, d3] }
  | _ => none }
def FnAtRankAfterMergeWrongFalsely : Prop := fnAtRankAfterMergeRow.holds Try.pinned (OpenSpec.ofChange fnAtRankAfterMergeWrong)

/-- 'zzlaws_root_b1.FnWindowSumModel': WHATEVER THE INPUT: true; the input reads as it did. -/
def fnWindowSumModelSpec : ChangeSpec := { name := "fnWindowSumModel", fn := fun _ => fun
  | [d1, d2, d3, d4, d5, d6, d7, d8, d9] => { results := [.lit (.bool true)], args := [d1, d2, d3, d4, d5, d6, d7, d8, d9] }
  | _ => none }
def fnWindowSumModelRow : OpenClaim := { program := "qxb6608868a", sum := "2bbf2d097679b3d8aa5468bc7955a1fb9a8f14b1c98d51793d4dece8bfbdfe82", func := "example.com/accrual/accrual/zzlaws_root_b1.FnWindowSumModel", spec := "fnWindowSumModel", apart := false }
def FnWindowSumModelSaid : Prop := fnWindowSumModelRow.holds Try.pinned (OpenSpec.ofChange fnWindowSumModelSpec)

/-- ITS FALSE NEIGHBOUR: 'it returns false'. Refute it at one input. -/
def fnWindowSumModelWrong : ChangeSpec := { name := "fnWindowSumModel", fn := fun _ => fun
  | [d1, d2, d3, d4, d5, d6, d7, d8, d9] => { results := [.lit (.bool false)], args := [d1, d2, d3, d4, d5, d6, d7, d8, d9] }
  | _ => none }
def FnWindowSumModelWrongFalsely : Prop := fnWindowSumModelRow.holds Try.pinned (OpenSpec.ofChange fnWindowSumModelWrong)

/-- 'zzlaws_root_b1.FnWindowSumSlidesBySecond': WHATEVER THE INPUT: true; the input reads as it did. -/
def fnWindowSumSlidesBySecondSpec : ChangeSpec := { name := "fnWindowSumSlidesBySecond", fn := fun _ => fun
  | [d1, d2, d3, d4, d5] => { results := [.lit (.bool true)], args := [d1, d2, d3, d4, d5] }
  | _ => none }
def fnWindowSumSlidesBySecondRow : OpenClaim := { program := "qxb6608868a", sum := "2bbf2d097679b3d8aa5468bc7955a1fb9a8f14b1c98d51793d4dece8bfbdfe82", func := "example.com/accrual/accrual/zzlaws_root_b1.FnWindowSumSlidesBySecond", spec := "fnWindowSumSlidesBySecond", apart := false }
def FnWindowSumSlidesBySecondSaid : Prop := fnWindowSumSlidesBySecondRow.holds Try.pinned (OpenSpec.ofChange fnWindowSumSlidesBySecondSpec)

/-- ITS FALSE NEIGHBOUR: 'it returns false'. Refute it at one input. -/
def fnWindowSumSlidesBySecondWrong : ChangeSpec := { name := "fnWindowSumSlidesBySecond", fn := fun _ => fun
  | [d1, d2, d3, d4, d5] => { results := [.lit (.bool false)], args := [d1, d2, d3, d4, d5] }
  | _ => none }
def FnWindowSumSlidesBySecondWrongFalsely : Prop := fnWindowSumSlidesBySecondRow.holds Try.pinned (OpenSpec.ofChange fnWindowSumSlidesBySecondWrong)

end Rows
end Go.Proofs.Qxb6608868a
