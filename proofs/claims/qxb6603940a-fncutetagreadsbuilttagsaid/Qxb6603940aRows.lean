/-
  No cell of these rows narrows 'for every input' (looked for: loops, veiled, ifaces, maps, wideKeys, modest, calm, conditions, laid).
  DERIVED. THE GIVEN ROWS OF THIS SEAT. 5 by the template 'for every input the law returns true; each argument reads behind the call as it read before'; 0 by the template 'total and deterministic' (their statements: Qxb6603940aTotals.lean).
  GIVEN WITH THE SEED: the statements are not yours to turn. If you find one false, say at which input.
  Laid BY PROGRAM, IN A SANDBOX (cutbox-rows.mjs): the forced cells as the released guide's own fill.sh prints them over the translation 7d4172e65b239515… (all of the seat's roots in one cut). By AI agents, Wed Nov 11 2026. No macro, syntax, notation, axiom, sorry.
-/
import Derived.Test.Qxb6603940aChecked
import GoSem.Claim
import GoSem.ClaimJoined
import GoSem.ClaimMapViews
import Derived.JoinedTies
import Derived.KernelRfl
namespace Go.Proofs.Qxb6603940a
/- THE CELL 'sum', in the pinned program and in every row, IS THE sha256 OF THE DUMP (.gsa) THAT Qxb6603940aProg.lean LOADS. Nothing in Lean hashes anything: it is a label: what it is worth is what the hold of that sum in a sandbox is worth. -/
noncomputable def Try.pinned : Pinned := { name := "qxb6603940a", sum := "7d4172e65b2395158123cdd88ce099da6a19678306b4d18377922e0cbd3008ae", checked := Try.checked }
namespace Rows
def none {H : Type} : Left H := { results := [], args := [] }

/-- 'zzlaws_internal_registry_b1.FnCutETagSplitsExactly': WHATEVER THE INPUT: true; the input reads as it did. -/
def fnCutETagSplitsExactlySpec : ChangeSpec := { name := "fnCutETagSplitsExactly", fn := fun _ => fun
  | [d] => { results := [.lit (.bool true)], args := [d] }
  | _ => none }
def fnCutETagSplitsExactlyRow : OpenClaim := { program := "qxb6603940a", sum := "7d4172e65b2395158123cdd88ce099da6a19678306b4d18377922e0cbd3008ae", func := "example.com/hermod/hermod/zzlaws_internal_registry_b1.FnCutETagSplitsExactly", spec := "fnCutETagSplitsExactly", inPlace := ["internal/bytealg.IndexByteString"], apart := false }
def FnCutETagSplitsExactlySaid : Prop := fnCutETagSplitsExactlyRow.holds Try.pinned (OpenSpec.ofChange fnCutETagSplitsExactlySpec)

/-- ITS FALSE NEIGHBOUR: 'it returns false'. Refute it at one input. -/
def fnCutETagSplitsExactlyWrong : ChangeSpec := { name := "fnCutETagSplitsExactly", fn := fun _ => fun
  | [d] => { results := [.lit (.bool false)], args := [d] }
  | _ => none }
def FnCutETagSplitsExactlyWrongFalsely : Prop := fnCutETagSplitsExactlyRow.holds Try.pinned (OpenSpec.ofChange fnCutETagSplitsExactlyWrong)

/-- 'zzlaws_internal_registry_b1.FnCutETagReadsBuiltTag': WHATEVER THE INPUT: true; the input reads as it did. -/
def fnCutETagReadsBuiltTagSpec : ChangeSpec := { name := "fnCutETagReadsBuiltTag", fn := fun _ => fun
  | [d1, d2, d3] => { results := [.lit (.bool true)], args := [d1, d2, d3] }
  | _ => none }
def fnCutETagReadsBuiltTagRow : OpenClaim := { program := "qxb6603940a", sum := "7d4172e65b2395158123cdd88ce099da6a19678306b4d18377922e0cbd3008ae", func := "example.com/hermod/hermod/zzlaws_internal_registry_b1.FnCutETagReadsBuiltTag", spec := "fnCutETagReadsBuiltTag", inPlace := ["internal/bytealg.IndexByteString"], apart := false }
def FnCutETagReadsBuiltTagSaid : Prop := fnCutETagReadsBuiltTagRow.holds Try.pinned (OpenSpec.ofChange fnCutETagReadsBuiltTagSpec)

/-- ITS FALSE NEIGHBOUR: 'it returns false'. Refute it at one input. -/
def fnCutETagReadsBuiltTagWrong : ChangeSpec := { name := "fnCutETagReadsBuiltTag", fn := fun _ => fun
  | [d1, d2, d3] => { results := [.lit (.bool false)], args := [d1, d2, d3] }
  | _ => none }
def FnCutETagReadsBuiltTagWrongFalsely : Prop := fnCutETagReadsBuiltTagRow.holds Try.pinned (OpenSpec.ofChange fnCutETagReadsBuiltTagWrong)

/-- 'zzlaws_internal_registry_b1.FnFillLayoutExact': WHATEVER THE INPUT: true; the input reads as it did. -/
def fnFillLayoutExactSpec : ChangeSpec := { name := "fnFillLayoutExact", fn := fun _ => fun
  | [d1, d2, d3] => { results := [.lit (.bool true)], args := [d1, d2, d3] }
  | _ => none }
def fnFillLayoutExactRow : OpenClaim := { program := "qxb6603940a", sum := "7d4172e65b2395158123cdd88ce099da6a19678306b4d18377922e0cbd3008ae", func := "example.com/hermod/hermod/zzlaws_internal_registry_b1.FnFillLayoutExact", spec := "fnFillLayoutExact", apart := false }
def FnFillLayoutExactSaid : Prop := fnFillLayoutExactRow.holds Try.pinned (OpenSpec.ofChange fnFillLayoutExactSpec)

/-- ITS FALSE NEIGHBOUR: 'it returns false'. Refute it at one input. -/
def fnFillLayoutExactWrong : ChangeSpec := { name := "fnFillLayoutExact", fn := fun _ => fun
  | [d1, d2, d3] => { results := [.lit (.bool false)], args := [d1, d2, d3] }
  | _ => none }
def FnFillLayoutExactWrongFalsely : Prop := fnFillLayoutExactRow.holds Try.pinned (OpenSpec.ofChange fnFillLayoutExactWrong)

/-- 'zzlaws_internal_registry_b1.FnFillSplitsAtAnyPoint': WHATEVER THE INPUT: true; the input reads as it did. -/
def fnFillSplitsAtAnyPointSpec : ChangeSpec := { name := "fnFillSplitsAtAnyPoint", fn := fun _ => fun
  | [d1, d2, d3, d4] => { results := [.lit (.bool true)], args := [d1, d2, d3, d4] }
  | _ => none }
def fnFillSplitsAtAnyPointRow : OpenClaim := { program := "qxb6603940a", sum := "7d4172e65b2395158123cdd88ce099da6a19678306b4d18377922e0cbd3008ae", func := "example.com/hermod/hermod/zzlaws_internal_registry_b1.FnFillSplitsAtAnyPoint", spec := "fnFillSplitsAtAnyPoint", apart := false }
def FnFillSplitsAtAnyPointSaid : Prop := fnFillSplitsAtAnyPointRow.holds Try.pinned (OpenSpec.ofChange fnFillSplitsAtAnyPointSpec)

/-- ITS FALSE NEIGHBOUR: 'it returns false'. Refute it at one input. -/
def fnFillSplitsAtAnyPointWrong : ChangeSpec := { name := "fnFillSplitsAtAnyPoint", fn := fun _ => fun
  | [d1, d2, d3, d4] => { results := [.lit (.bool false)], args := [d1, d2, d3, d4] }
  | _ => none }
def FnFillSplitsAtAnyPointWrongFalsely : Prop := fnFillSplitsAtAnyPointRow.holds Try.pinned (OpenSpec.ofChange fnFillSplitsAtAnyPointWrong)

/-- 'zzlaws_internal_registry_b1.FnFillReadsBack': WHATEVER THE INPUT: true; the input reads as it did. -/
def fnFillReadsBackSpec : ChangeSpec := { name := "fnFillReadsBack", fn := fun _ => fun
  | [d1, d2, d3] => { results := [.lit (.bool true)], args := [d1, d2, d3] }
  | _ => none }
def fnFillReadsBackRow : OpenClaim := { program := "qxb6603940a", sum := "7d4172e65b2395158123cdd88ce099da6a19678306b4d18377922e0cbd3008ae", func := "example.com/hermod/hermod/zzlaws_internal_registry_b1.FnFillReadsBack", spec := "fnFillReadsBack", apart := false }
def FnFillReadsBackSaid : Prop := fnFillReadsBackRow.holds Try.pinned (OpenSpec.ofChange fnFillReadsBackSpec)

/-- ITS FALSE NEIGHBOUR: 'it returns false'. Refute it at one input. -/
def fnFillReadsBackWrong : ChangeSpec := { name := "fnFillReadsBack", fn := fun _ => fun
  | [d1, d2, d3] => { results := [.lit (.bool false)], args := [d1, d2, d3] }
  | _ => none }
def FnFillReadsBackWrongFalsely : Prop := fnFillReadsBackRow.holds Try.pinned (OpenSpec.ofChange fnFillReadsBackWrong)

end Rows
end Go.Proofs.Qxb6603940a
