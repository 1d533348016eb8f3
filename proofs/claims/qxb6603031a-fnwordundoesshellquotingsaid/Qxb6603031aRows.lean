/-
  No cell of these rows narrows 'for every input' (looked for: loops, veiled, ifaces, maps, wideKeys, modest, calm, conditions, laid).
  DERIVED. THE GIVEN ROWS OF THIS SEAT. 4 by the template 'for every input the law returns true; each argument reads behind the call as it read before'; 0 by the template 'total and deterministic' (their statements: Qxb6603031aTotals.lean).
  GIVEN WITH THE SEED: the statements are not yours to turn. If you find one false, say at which input.
  Laid BY PROGRAM, IN A SANDBOX (cutbox-rows.mjs): the forced cells as the released guide's own fill.sh prints them over the translation b98e85b61d8e71f6… (all of the seat's roots in one cut). By AI agents, Wed Nov 11 2026. No macro, syntax, notation, axiom, sorry.
-/
import Derived.Test.Qxb6603031aChecked
import GoSem.Claim
import GoSem.ClaimJoined
import GoSem.ClaimMapViews
import Derived.JoinedTies
import Derived.KernelRfl
namespace Go.Proofs.Qxb6603031a
/- THE CELL 'sum', in the pinned program and in every row, IS THE sha256 OF THE DUMP (.gsa) THAT Qxb6603031aProg.lean LOADS. Nothing in Lean hashes anything: it is a label: what it is worth is what the hold of that sum in a sandbox is worth. -/
noncomputable def Try.pinned : Pinned := { name := "qxb6603031a", sum := "b98e85b61d8e71f6d6176eb1acc42c5e835202df621050b3ae700b5c192cc6c8", checked := Try.checked }
namespace Rows
def none {H : Type} : Left H := { results := [], args := [] }

/-- 'zzlaws_internal_facts_b1.FnWordMatchesAutomaton': WHATEVER THE INPUT: true; the input reads as it did. -/
def fnWordMatchesAutomatonSpec : ChangeSpec := { name := "fnWordMatchesAutomaton", fn := fun _ => fun
  | [d] => { results := [.lit (.bool true)], args := [d] }
  | _ => none }
def fnWordMatchesAutomatonRow : OpenClaim := { program := "qxb6603031a", sum := "b98e85b61d8e71f6d6176eb1acc42c5e835202df621050b3ae700b5c192cc6c8", func := "example.com/ladle/ladle/zzlaws_internal_facts_b1.FnWordMatchesAutomaton", spec := "fnWordMatchesAutomaton", inPlace := ["internal/bytealg.IndexByteString", "internal/abi.NoEscape"], apart := false }
def FnWordMatchesAutomatonSaid : Prop := fnWordMatchesAutomatonRow.holds Try.pinned (OpenSpec.ofChange fnWordMatchesAutomatonSpec)

/-- ITS FALSE NEIGHBOUR: 'it returns false'. Refute it at one input. -/
def fnWordMatchesAutomatonWrong : ChangeSpec := { name := "fnWordMatchesAutomaton", fn := fun _ => fun
  | [d] => { results := [.lit (.bool false)], args := [d] }
  | _ => none }
def FnWordMatchesAutomatonWrongFalsely : Prop := fnWordMatchesAutomatonRow.holds Try.pinned (OpenSpec.ofChange fnWordMatchesAutomatonWrong)

/-- 'zzlaws_internal_facts_b1.FnWordRestIsBlankSuffix': WHATEVER THE INPUT: true; the input reads as it did. -/
def fnWordRestIsBlankSuffixSpec : ChangeSpec := { name := "fnWordRestIsBlankSuffix", fn := fun _ => fun
  | [d] => { results := [.lit (.bool true)], args := [d] }
  | _ => none }
def fnWordRestIsBlankSuffixRow : OpenClaim := { program := "qxb6603031a", sum := "b98e85b61d8e71f6d6176eb1acc42c5e835202df621050b3ae700b5c192cc6c8", func := "example.com/ladle/ladle/zzlaws_internal_facts_b1.FnWordRestIsBlankSuffix", spec := "fnWordRestIsBlankSuffix", inPlace := ["internal/bytealg.IndexByteString", "internal/abi.NoEscape"], apart := false }
def FnWordRestIsBlankSuffixSaid : Prop := fnWordRestIsBlankSuffixRow.holds Try.pinned (OpenSpec.ofChange fnWordRestIsBlankSuffixSpec)

/-- ITS FALSE NEIGHBOUR: 'it returns false'. Refute it at one input. -/
def fnWordRestIsBlankSuffixWrong : ChangeSpec := { name := "fnWordRestIsBlankSuffix", fn := fun _ => fun
  | [d] => { results := [.lit (.bool false)], args := [d] }
  | _ => none }
def FnWordRestIsBlankSuffixWrongFalsely : Prop := fnWordRestIsBlankSuffixRow.holds Try.pinned (OpenSpec.ofChange fnWordRestIsBlankSuffixWrong)

/-- 'zzlaws_internal_facts_b1.FnWordUndoesShellQuoting': WHATEVER THE INPUT: true; the input reads as it did. -/
def fnWordUndoesShellQuotingSpec : ChangeSpec := { name := "fnWordUndoesShellQuoting", fn := fun _ => fun
  | [d1, d2] => { results := [.lit (.bool true)], args := [d1, d2] }
  | _ => none }
def fnWordUndoesShellQuotingRow : OpenClaim := { program := "qxb6603031a", sum := "b98e85b61d8e71f6d6176eb1acc42c5e835202df621050b3ae700b5c192cc6c8", func := "example.com/ladle/ladle/zzlaws_internal_facts_b1.FnWordUndoesShellQuoting", spec := "fnWordUndoesShellQuoting", inPlace := ["internal/bytealg.IndexByteString", "internal/abi.NoEscape"], apart := false }
def FnWordUndoesShellQuotingSaid : Prop := fnWordUndoesShellQuotingRow.holds Try.pinned (OpenSpec.ofChange fnWordUndoesShellQuotingSpec)

/-- ITS FALSE NEIGHBOUR: 'it returns false'. Refute it at one input. -/
def fnWordUndoesShellQuotingWrong : ChangeSpec := { name := "fnWordUndoesShellQuoting", fn := fun _ => fun
  | [d1, d2] => { results := [.lit (.bool false)], args := [d1, d2] }
  | _ => none }
def FnWordUndoesShellQuotingWrongFalsely : Prop := fnWordUndoesShellQuotingRow.holds Try.pinned (OpenSpec.ofChange fnWordUndoesShellQuotingWrong)

/-- 'zzlaws_internal_facts_b1.FnIsNameSplitsAtAnyCut': WHATEVER THE INPUT: true; the input reads as it did. -/
def fnIsNameSplitsAtAnyCutSpec : ChangeSpec := { name := "fnIsNameSplitsAtAnyCut", fn := fun _ => fun
  | [d1, d2] => { results := [.lit (.bool true)], args := [d1, d2] }
  | _ => none }
def fnIsNameSplitsAtAnyCutRow : OpenClaim := { program := "qxb6603031a", sum := "b98e85b61d8e71f6d6176eb1acc42c5e835202df621050b3ae700b5c192cc6c8", func := "example.com/ladle/ladle/zzlaws_internal_facts_b1.FnIsNameSplitsAtAnyCut", spec := "fnIsNameSplitsAtAnyCut", apart := false }
def FnIsNameSplitsAtAnyCutSaid : Prop := fnIsNameSplitsAtAnyCutRow.holds Try.pinned (OpenSpec.ofChange fnIsNameSplitsAtAnyCutSpec)

/-- ITS FALSE NEIGHBOUR: 'it returns false'. Refute it at one input. -/
def fnIsNameSplitsAtAnyCutWrong : ChangeSpec := { name := "fnIsNameSplitsAtAnyCut", fn := fun _ => fun
  | [d1, d2] => { results := [.lit (.bool false)], args := [d1, d2] }
  | _ => none }
def FnIsNameSplitsAtAnyCutWrongFalsely : Prop := fnIsNameSplitsAtAnyCutRow.holds Try.pinned (OpenSpec.ofChange fnIsNameSplitsAtAnyCutWrong)

end Rows
end Go.Proofs.Qxb6603031a
