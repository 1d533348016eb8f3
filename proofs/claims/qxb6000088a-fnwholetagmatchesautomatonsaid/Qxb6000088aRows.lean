/-
  No cell of these rows narrows 'for every input' (looked for: loops, veiled, ifaces, maps, wideKeys, modest, calm, conditions, laid).
  DERIVED. THE GIVEN ROWS OF THIS SEAT. 5 by the template 'for every input the law returns true; each argument reads behind the call as it read before'; 0 by the template 'total and deterministic' (their statements: Qxb6000088aTotals.lean).
  GIVEN WITH THE SEED: the statements are not yours to turn. If you find one false, say at which input.
  Laid BY PROGRAM, IN A SANDBOX (cutbox-rows.mjs): the forced cells as the released guide's own fill.sh prints them over the translation fef78b3eb7053666… (all of the seat's roots in one cut). By AI agents, Wed Nov 11 2026. No macro, syntax, notation, axiom, sorry.
-/
import Derived.Test.Qxb6000088aChecked
import GoSem.Claim
import GoSem.ClaimJoined
import GoSem.ClaimMapViews
import Derived.JoinedTies
import Derived.KernelRfl
namespace Go.Proofs.Qxb6000088a
/- THE CELL 'sum', in the pinned program and in every row, IS THE sha256 OF THE DUMP (.gsa) THAT Qxb6000088aProg.lean LOADS. Nothing in Lean hashes anything: it is a label: what it is worth is what the hold of that sum in a sandbox is worth. -/
noncomputable def Try.pinned : Pinned := { name := "qxb6000088a", sum := "fef78b3eb7053666442e7f6d4b037c50e3007dc2c3bfc75575d2775ff877e513", checked := Try.checked }
namespace Rows
def none {H : Type} : Left H := { results := [], args := [] }

/-- 'zzlaws_internal_markdown_b1.FnWholeTagMatchesAutomaton': WHATEVER THE INPUT: true; the input reads as it did. -/
def fnWholeTagMatchesAutomatonSpec : ChangeSpec := { name := "fnWholeTagMatchesAutomaton", fn := fun _ => fun
  | [d] => { results := [.lit (.bool true)], args := [d] }
  | _ => none }
def fnWholeTagMatchesAutomatonRow : OpenClaim := { program := "qxb6000088a", sum := "fef78b3eb7053666442e7f6d4b037c50e3007dc2c3bfc75575d2775ff877e513", func := "example.com/parlorkeep/parlorkeep/zzlaws_internal_markdown_b1.FnWholeTagMatchesAutomaton", spec := "fnWholeTagMatchesAutomaton", inPlace := ["internal/bytealg.IndexByteString", "internal/bytealg.IndexByte"], apart := false }
def FnWholeTagMatchesAutomatonSaid : Prop := fnWholeTagMatchesAutomatonRow.holds Try.pinned (OpenSpec.ofChange fnWholeTagMatchesAutomatonSpec)

/-- ITS FALSE NEIGHBOUR: 'it returns false'. Refute it at one input. -/
def fnWholeTagMatchesAutomatonWrong : ChangeSpec := { name := "fnWholeTagMatchesAutomaton", fn := fun _ => fun
  | [d] => { results := [.lit (.bool false)], args := [d] }
  | _ => none }
def FnWholeTagMatchesAutomatonWrongFalsely : Prop := fnWholeTagMatchesAutomatonRow.holds Try.pinned (OpenSpec.ofChange fnWholeTagMatchesAutomatonWrong)

/-- 'zzlaws_internal_markdown_b1.FnWholeTagKeepsToItsOwnBytes': WHATEVER THE INPUT: true; the input reads as it did. -/
def fnWholeTagKeepsToItsOwnBytesSpec : ChangeSpec := { name := "fnWholeTagKeepsToItsOwnBytes", fn := fun _ => fun
  | [d1, d2] => { results := [.lit (.bool true)], args := [d1, d2] }
  | _ => none }
def fnWholeTagKeepsToItsOwnBytesRow : OpenClaim := { program := "qxb6000088a", sum := "fef78b3eb7053666442e7f6d4b037c50e3007dc2c3bfc75575d2775ff877e513", func := "example.com/parlorkeep/parlorkeep/zzlaws_internal_markdown_b1.FnWholeTagKeepsToItsOwnBytes", spec := "fnWholeTagKeepsToItsOwnBytes", inPlace := ["internal/bytealg.IndexByteString", "internal/bytealg.IndexByte"], apart := false }
def FnWholeTagKeepsToItsOwnBytesSaid : Prop := fnWholeTagKeepsToItsOwnBytesRow.holds Try.pinned (OpenSpec.ofChange fnWholeTagKeepsToItsOwnBytesSpec)

/-- ITS FALSE NEIGHBOUR: 'it returns false'. Refute it at one input. -/
def fnWholeTagKeepsToItsOwnBytesWrong : ChangeSpec := { name := "fnWholeTagKeepsToItsOwnBytes", fn := fun _ => fun
  | [d1, d2] => { results := [.lit (.bool false)], args := [d1, d2] }
  | _ => none }
def FnWholeTagKeepsToItsOwnBytesWrongFalsely : Prop := fnWholeTagKeepsToItsOwnBytesRow.holds Try.pinned (OpenSpec.ofChange fnWholeTagKeepsToItsOwnBytesWrong)

/-- 'zzlaws_internal_markdown_b1.FnThematicBreakSplitLineAgrees': WHATEVER THE INPUT: true; the input reads as it did. -/
def fnThematicBreakSplitLineAgreesSpec : ChangeSpec := { name := "fnThematicBreakSplitLineAgrees", fn := fun _ => fun
  | [d1, d2, d3] => { results := [.lit (.bool true)], args := [d1, d2, d3] }
  | _ => none }
def fnThematicBreakSplitLineAgreesRow : OpenClaim := { program := "qxb6000088a", sum := "fef78b3eb7053666442e7f6d4b037c50e3007dc2c3bfc75575d2775ff877e513", func := "example.com/parlorkeep/parlorkeep/zzlaws_internal_markdown_b1.FnThematicBreakSplitLineAgrees", spec := "fnThematicBreakSplitLineAgrees", apart := false }
def FnThematicBreakSplitLineAgreesSaid : Prop := fnThematicBreakSplitLineAgreesRow.holds Try.pinned (OpenSpec.ofChange fnThematicBreakSplitLineAgreesSpec)

/-- ITS FALSE NEIGHBOUR: 'it returns false'. Refute it at one input. -/
def fnThematicBreakSplitLineAgreesWrong : ChangeSpec := { name := "fnThematicBreakSplitLineAgrees", fn := fun _ => fun
  | [d1, d2, d3] => { results := [.lit (.bool false)], args := [d1, d2, d3] }
  | _ => none }
def FnThematicBreakSplitLineAgreesWrongFalsely : Prop := fnThematicBreakSplitLineAgreesRow.holds Try.pinned (OpenSpec.ofChange fnThematicBreakSplitLineAgreesWrong)

/-- 'zzlaws_internal_markdown_b1.FnGoesOnMatchesColumnModel': WHATEVER THE INPUT: true; the input reads as it did. -/
def fnGoesOnMatchesColumnModelSpec : ChangeSpec := { name := "fnGoesOnMatchesColumnModel", fn := fun _ => fun
  | [d1, d2, d3, d4, d5, d6, d7, d8] => { results := [.lit (.bool true)], args := [d1, d2, d3, d4, d5, d6, d7, d8] }
  | _ => none }
def fnGoesOnMatchesColumnModelRow : OpenClaim := { program := "qxb6000088a", sum := "fef78b3eb7053666442e7f6d4b037c50e3007dc2c3bfc75575d2775ff877e513", func := "example.com/parlorkeep/parlorkeep/zzlaws_internal_markdown_b1.FnGoesOnMatchesColumnModel", spec := "fnGoesOnMatchesColumnModel", apart := false }
def FnGoesOnMatchesColumnModelSaid : Prop := fnGoesOnMatchesColumnModelRow.holds Try.pinned (OpenSpec.ofChange fnGoesOnMatchesColumnModelSpec)

/-- ITS FALSE NEIGHBOUR: 'it returns false'. Refute it at one input. -/
def fnGoesOnMatchesColumnModelWrong : ChangeSpec := { name := "fnGoesOnMatchesColumnModel", fn := fun _ => fun
  | [d1, d2, d3, d4, d5, d6, d7, d8] => { results := [.lit (.bool false)], args := [d1, d2, d3, d4, d5, d6, d7, d8] }
  | _ => none }
def FnGoesOnMatchesColumnModelWrongFalsely : Prop := fnGoesOnMatchesColumnModelRow.holds Try.pinned (OpenSpec.ofChange fnGoesOnMatchesColumnModelWrong)

/-- 'zzlaws_internal_markdown_b1.FnGoesOnKeepsCursorWellFormed': WHATEVER THE INPUT: true; the input reads as it did. -/
def fnGoesOnKeepsCursorWellFormedSpec : ChangeSpec := { name := "fnGoesOnKeepsCursorWellFormed", fn := fun _ => fun
  | [d1, d2, d3, d4, d5, d6, d7, d8] => { results := [.lit (.bool true)], args := [d1, d2, d3, d4, d5, d6, d7, d8] }
  | _ => none }
def fnGoesOnKeepsCursorWellFormedRow : OpenClaim := { program := "qxb6000088a", sum := "fef78b3eb7053666442e7f6d4b037c50e3007dc2c3bfc75575d2775ff877e513", func := "example.com/parlorkeep/parlorkeep/zzlaws_internal_markdown_b1.FnGoesOnKeepsCursorWellFormed", spec := "fnGoesOnKeepsCursorWellFormed", apart := false }
def FnGoesOnKeepsCursorWellFormedSaid : Prop := fnGoesOnKeepsCursorWellFormedRow.holds Try.pinned (OpenSpec.ofChange fnGoesOnKeepsCursorWellFormedSpec)

/-- ITS FALSE NEIGHBOUR: 'it returns false'. Refute it at one input. -/
def fnGoesOnKeepsCursorWellFormedWrong : ChangeSpec := { name := "fnGoesOnKeepsCursorWellFormed", fn := fun _ => fun
  | [d1, d2, d3, d4, d5, d6, d7, d8] => { results := [.lit (.bool false)], args := [d1, d2, d3, d4, d5, d6, d7, d8] }
  | _ => none }
def FnGoesOnKeepsCursorWellFormedWrongFalsely : Prop := fnGoesOnKeepsCursorWellFormedRow.holds Try.pinned (OpenSpec.ofChange fnGoesOnKeepsCursorWellFormedWrong)

end Rows
end Go.Proofs.Qxb6000088a
