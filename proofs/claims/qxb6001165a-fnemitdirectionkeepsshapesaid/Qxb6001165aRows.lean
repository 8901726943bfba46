/-
  No cell of these rows narrows 'for every input' (looked for: loops, veiled, ifaces, maps, wideKeys, modest, calm, conditions, laid).
  DERIVED. THE GIVEN ROWS OF THIS SEAT. 7 by the template 'for every input the law returns true; each argument reads behind the call as it read before'; 0 by the template 'total and deterministic' (their statements: Qxb6001165aTotals.lean).
  GIVEN WITH THE SEED: the statements are not yours to turn. If you find one false, say at which input.
  Laid BY PROGRAM, IN A SANDBOX (cutbox-rows.mjs): the forced cells as the released guide's own fill.sh prints them over the translation 9e5acab2a25da6c8… (all of the seat's roots in one cut). By AI agents, Wed Nov 11 2026. No macro, syntax, notation, axiom, sorry.
-/
import Derived.Test.Qxb6001165aChecked
import GoSem.Claim
import GoSem.ClaimJoined
import GoSem.ClaimMapViews
import Derived.JoinedTies
import Derived.KernelRfl
namespace Go.Proofs.Qxb6001165a
/- THE CELL 'sum', in the pinned program and in every row, IS THE sha256 OF THE DUMP (.gsa) THAT Qxb6001165aProg.lean LOADS. Nothing in Lean hashes anything: it is a label: what it is worth is what the hold of that sum in a sandbox is worth. -/
noncomputable def Try.pinned : Pinned := { name := "qxb6001165a", sum := "9e5acab2a25da6c82879cb4547dd29231ddf498c60eec62c3ac2c1b131bd99a2", checked := Try.checked }
namespace Rows
def none {H : Type} : Left H := { results := [], args := [] }

/-- 'zzlaws_internal_ecmaregexp_b1.FnAnchoredNeedsCaret': WHATEVER THE INPUT: true; the input reads as it did. -/
def fnAnchoredNeedsCaretSpec : ChangeSpec := { name := "fnAnchoredNeedsCaret", fn := fun _ => fun
  | [d] => { results := [.lit (.bool true)], args := [d] }
  | _ => none }
def fnAnchoredNeedsCaretRow : OpenClaim := { program := "qxb6001165a", sum := "9e5acab2a25da6c82879cb4547dd29231ddf498c60eec62c3ac2c1b131bd99a2", func := "example.com/catalog-to-binding/catalog-to-binding/zzlaws_internal_ecmaregexp_b1.FnAnchoredNeedsCaret", spec := "fnAnchoredNeedsCaret", recurses := true, apart := false }
def FnAnchoredNeedsCaretSaid : Prop := fnAnchoredNeedsCaretRow.holds Try.pinned (OpenSpec.ofChange fnAnchoredNeedsCaretSpec)

/-- ITS FALSE NEIGHBOUR: 'it returns false'. Refute it at one input. -/
def fnAnchoredNeedsCaretWrong : ChangeSpec := { name := "fnAnchoredNeedsCaret", fn := fun _ => fun
  | [d] => { results := [.lit (.bool false)], args := [d] }
  | _ => none }
def FnAnchoredNeedsCaretWrongFalsely : Prop := fnAnchoredNeedsCaretRow.holds Try.pinned (OpenSpec.ofChange fnAnchoredNeedsCaretWrong)

/-- 'zzlaws_internal_ecmaregexp_b1.FnAnchoredAlternationAllOrNone': WHATEVER THE INPUT: true; the input reads as it did. -/
def fnAnchoredAlternationAllOrNoneSpec : ChangeSpec := { name := "fnAnchoredAlternationAllOrNone", fn := fun _ => fun
  | [d1, d2] => { results := [.lit (.bool true)], args := [d1, d2] }
  | _ => none }
def fnAnchoredAlternationAllOrNoneRow : OpenClaim := { program := "qxb6001165a", sum := "9e5acab2a25da6c82879cb4547dd29231ddf498c60eec62c3ac2c1b131bd99a2", func := "example.com/catalog-to-binding/catalog-to-binding/zzlaws_internal_ecmaregexp_b1.FnAnchoredAlternationAllOrNone", spec := "fnAnchoredAlternationAllOrNone", recurses := true, apart := false }
def FnAnchoredAlternationAllOrNoneSaid : Prop := fnAnchoredAlternationAllOrNoneRow.holds Try.pinned (OpenSpec.ofChange fnAnchoredAlternationAllOrNoneSpec)

/-- ITS FALSE NEIGHBOUR: 'it returns false'. Refute it at one input. -/
def fnAnchoredAlternationAllOrNoneWrong : ChangeSpec := { name := "fnAnchoredAlternationAllOrNone", fn := fun _ => fun
  | [d1, d2] => { results := [.lit (.bool false)], args := [d1, d2] }
  | _ => none }
def FnAnchoredAlternationAllOrNoneWrongFalsely : Prop := fnAnchoredAlternationAllOrNoneRow.holds Try.pinned (OpenSpec.ofChange fnAnchoredAlternationAllOrNoneWrong)

/-- 'zzlaws_internal_ecmaregexp_b1.FnAnchoredDecidedByHead': WHATEVER THE INPUT: true; the input reads as it did. -/
def fnAnchoredDecidedByHeadSpec : ChangeSpec := { name := "fnAnchoredDecidedByHead", fn := fun _ => fun
  | [d1, d2, d3] => { results := [.lit (.bool true)], args := [d1, d2, d3] }
  | _ => none }
def fnAnchoredDecidedByHeadRow : OpenClaim := { program := "qxb6001165a", sum := "9e5acab2a25da6c82879cb4547dd29231ddf498c60eec62c3ac2c1b131bd99a2", func := "example.com/catalog-to-binding/catalog-to-binding/zzlaws_internal_ecmaregexp_b1.FnAnchoredDecidedByHead", spec := "fnAnchoredDecidedByHead", recurses := true, apart := false }
def FnAnchoredDecidedByHeadSaid : Prop := fnAnchoredDecidedByHeadRow.holds Try.pinned (OpenSpec.ofChange fnAnchoredDecidedByHeadSpec)

/-- ITS FALSE NEIGHBOUR: 'it returns false'. Refute it at one input. -/
def fnAnchoredDecidedByHeadWrong : ChangeSpec := { name := "fnAnchoredDecidedByHead", fn := fun _ => fun
  | [d1, d2, d3] => { results := [.lit (.bool false)], args := [d1, d2, d3] }
  | _ => none }
def FnAnchoredDecidedByHeadWrongFalsely : Prop := fnAnchoredDecidedByHeadRow.holds Try.pinned (OpenSpec.ofChange fnAnchoredDecidedByHeadWrong)

/-- 'zzlaws_internal_ecmaregexp_b1.FnEmitDirectionKeepsShape': WHATEVER THE INPUT: true; the input reads as it did. -/
def fnEmitDirectionKeepsShapeSpec : ChangeSpec := { name := "fnEmitDirectionKeepsShape", fn := fun _ => fun
  | [d] => { results := [.lit (.bool true)], args := [d] }
  | _ => none }
def fnEmitDirectionKeepsShapeRow : OpenClaim := { program := "qxb6001165a", sum := "9e5acab2a25da6c82879cb4547dd29231ddf498c60eec62c3ac2c1b131bd99a2", func := "example.com/catalog-to-binding/catalog-to-binding/zzlaws_internal_ecmaregexp_b1.FnEmitDirectionKeepsShape", spec := "fnEmitDirectionKeepsShape", recurses := true, apart := false }
def FnEmitDirectionKeepsShapeSaid : Prop := fnEmitDirectionKeepsShapeRow.holds Try.pinned (OpenSpec.ofChange fnEmitDirectionKeepsShapeSpec)

/-- ITS FALSE NEIGHBOUR: 'it returns false'. Refute it at one input. -/
def fnEmitDirectionKeepsShapeWrong : ChangeSpec := { name := "fnEmitDirectionKeepsShape", fn := fun _ => fun
  | [d] => { results := [.lit (.bool false)], args := [d] }
  | _ => none }
def FnEmitDirectionKeepsShapeWrongFalsely : Prop := fnEmitDirectionKeepsShapeRow.holds Try.pinned (OpenSpec.ofChange fnEmitDirectionKeepsShapeWrong)

/-- 'zzlaws_internal_ecmaregexp_b1.FnLoopOffersTheOtherWay': WHATEVER THE INPUT: true; the input reads as it did. -/
def fnLoopOffersTheOtherWaySpec : ChangeSpec := { name := "fnLoopOffersTheOtherWay", fn := fun _ => fun
  | [d1, d2, d3, d4, d5, d6, d7, d8] => { results := [.lit (.bool true)], args := [d1, d2, d3, d4, d5, d6, d7, d8] }
  | _ => none }
def fnLoopOffersTheOtherWayRow : OpenClaim := { program := "qxb6001165a", sum := "9e5acab2a25da6c82879cb4547dd29231ddf498c60eec62c3ac2c1b131bd99a2", func := "example.com/catalog-to-binding/catalog-to-binding/zzlaws_internal_ecmaregexp_b1.FnLoopOffersTheOtherWay", spec := "fnLoopOffersTheOtherWay", apart := false }
def FnLoopOffersTheOtherWaySaid : Prop := fnLoopOffersTheOtherWayRow.holds Try.pinned (OpenSpec.ofChange fnLoopOffersTheOtherWaySpec)

/-- ITS FALSE NEIGHBOUR: 'it returns false'. Refute it at one input. -/
def fnLoopOffersTheOtherWayWrong : ChangeSpec := { name := "fnLoopOffersTheOtherWay", fn := fun _ => fun
  | [d1, d2, d3, d4, d5, d6, d7, d8] => { results := [.lit (.bool false)], args := [d1, d2, d3, d4, d5, d6, d7, d8] }
  | _ => none }
def FnLoopOffersTheOtherWayWrongFalsely : Prop := fnLoopOffersTheOtherWayRow.holds Try.pinned (OpenSpec.ofChange fnLoopOffersTheOtherWayWrong)

/-- 'zzlaws_internal_ecmaregexp_b1.FnLoopGreedyLazyMirror': WHATEVER THE INPUT: true; the input reads as it did. -/
def fnLoopGreedyLazyMirrorSpec : ChangeSpec := { name := "fnLoopGreedyLazyMirror", fn := fun _ => fun
  | [d1, d2, d3, d4, d5, d6, d7] => { results := [.lit (.bool true)], args := [d1, d2, d3, d4, d5, d6, d7] }
  | _ => none }
def fnLoopGreedyLazyMirrorRow : OpenClaim := { program := "qxb6001165a", sum := "9e5acab2a25da6c82879cb4547dd29231ddf498c60eec62c3ac2c1b131bd99a2", func := "example.com/catalog-to-binding/catalog-to-binding/zzlaws_internal_ecmaregexp_b1.FnLoopGreedyLazyMirror", spec := "fnLoopGreedyLazyMirror", apart := false }
def FnLoopGreedyLazyMirrorSaid : Prop := fnLoopGreedyLazyMirrorRow.holds Try.pinned (OpenSpec.ofChange fnLoopGreedyLazyMirrorSpec)

/-- ITS FALSE NEIGHBOUR: 'it returns false'. Refute it at one input. -/
def fnLoopGreedyLazyMirrorWrong : ChangeSpec := { name := "fnLoopGreedyLazyMirror", fn := fun _ => fun
  | [d1, d2, d3, d4, d5, d6, d7] => { results := [.lit (.bool false)], args := [d1, d2, d3, d4, d5, d6, d7] }
  | _ => none }
def FnLoopGreedyLazyMirrorWrongFalsely : Prop := fnLoopGreedyLazyMirrorRow.holds Try.pinned (OpenSpec.ofChange fnLoopGreedyLazyMirrorWrong)

/-- 'zzlaws_internal_ecmaregexp_b1.FnLoopKeepsCounts': WHATEVER THE INPUT: true; the input reads as it did. -/
def fnLoopKeepsCountsSpec : ChangeSpec := { name := "fnLoopKeepsCounts", fn := fun _ => fun
  | [d1, d2, d3, d4, d5, d6, d7, d8] => { results := [.lit (.bool true)], args := [d1, d2, d3, d4, d5, d6, d7, d8] }
  | _ => none }
def fnLoopKeepsCountsRow : OpenClaim := { program := "qxb6001165a", sum := "9e5acab2a25da6c82879cb4547dd29231ddf498c60eec62c3ac2c1b131bd99a2", func := "example.com/catalog-to-binding/catalog-to-binding/zzlaws_internal_ecmaregexp_b1.FnLoopKeepsCounts", spec := "fnLoopKeepsCounts", apart := false }
def FnLoopKeepsCountsSaid : Prop := fnLoopKeepsCountsRow.holds Try.pinned (OpenSpec.ofChange fnLoopKeepsCountsSpec)

/-- ITS FALSE NEIGHBOUR: 'it returns false'. Refute it at one input. -/
def fnLoopKeepsCountsWrong : ChangeSpec := { name := "fnLoopKeepsCounts", fn := fun _ => fun
  | [d1, d2, d3, d4, d5, d6, d7, d8] => { results := [.lit (.bool false)], args := [d1, d2, d3, d4, d5, d6, d7, d8] }
  | _ => none }
def FnLoopKeepsCountsWrongFalsely : Prop := fnLoopKeepsCountsRow.holds Try.pinned (OpenSpec.ofChange fnLoopKeepsCountsWrong)

end Rows
end Go.Proofs.Qxb6001165a
