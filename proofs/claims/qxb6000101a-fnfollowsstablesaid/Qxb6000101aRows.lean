/-
  No cell of these rows narrows 'for every input' (looked for: loops, veiled, ifaces, maps, wideKeys, modest, calm, conditions, laid).
  DERIVED. THE GIVEN ROWS OF THIS SEAT. 8 by the template 'for every input the law returns true; each argument reads behind the call as it read before'; 0 by the template 'total and deterministic' (their statements: Qxb6000101aTotals.lean).
  GIVEN WITH THE SEED: the statements are not yours to turn. If you find one false, say at which input.
  Laid BY PROGRAM, IN A SANDBOX (cutbox-rows.mjs): the forced cells as the released guide's own fill.sh prints them over the translation 86e6ed7144599651… (all of the seat's roots in one cut). By AI agents, Wed Nov 11 2026. No macro, syntax, notation, axiom, sorry.
-/
import Derived.Test.Qxb6000101aChecked
import GoSem.Claim
import GoSem.ClaimJoined
import GoSem.ClaimMapViews
import Derived.JoinedTies
import Derived.KernelRfl
namespace Go.Proofs.Qxb6000101a
/- THE CELL 'sum', in the pinned program and in every row, IS THE sha256 OF THE DUMP (.gsa) THAT Qxb6000101aProg.lean LOADS. Nothing in Lean hashes anything: it is a label: what it is worth is what the hold of that sum in a sandbox is worth. -/
noncomputable def Try.pinned : Pinned := { name := "qxb6000101a", sum := "86e6ed7144599651643757870c123f372305785a64ab19cfc2fe165e434cf864", checked := Try.checked }
namespace Rows
def none {H : Type} : Left H := { results := [], args := [] }

/-- 'zzlaws_internal_causal_b1.FnJoinExact': WHATEVER THE INPUT: true; the input reads as it did. -/
def fnJoinExactSpec : ChangeSpec := { name := "fnJoinExact", fn := fun _ => fun
  | [d1, d2] => { results := [.lit (.bool true)], args := [d1, d2] }
  | _ => none }
def fnJoinExactRow : OpenClaim := { program := "qxb6000101a", sum := "86e6ed7144599651643757870c123f372305785a64ab19cfc2fe165e434cf864", func := "example.com/causeway/causeway/zzlaws_internal_causal_b1.FnJoinExact", spec := "fnJoinExact", apart := false }
def FnJoinExactSaid : Prop := fnJoinExactRow.holds Try.pinned (OpenSpec.ofChange fnJoinExactSpec)

/-- ITS FALSE NEIGHBOUR: 'it returns false'. Refute it at one input. -/
def fnJoinExactWrong : ChangeSpec := { name := "fnJoinExact", fn := fun _ => fun
  | [d1, d2] => { results := [.lit (.bool false)], args := [d1, d2] }
  | _ => none }
def FnJoinExactWrongFalsely : Prop := fnJoinExactRow.holds Try.pinned (OpenSpec.ofChange fnJoinExactWrong)

/-- 'zzlaws_internal_causal_b1.FnJoinLattice': WHATEVER THE INPUT: true; the input reads as it did. -/
def fnJoinLatticeSpec : ChangeSpec := { name := "fnJoinLattice", fn := fun _ => fun
  | [d1, d2, d3] => { results := [.lit (.bool true)], args := [d1, d2, d3] }
  | _ => none }
def fnJoinLatticeRow : OpenClaim := { program := "qxb6000101a", sum := "86e6ed7144599651643757870c123f372305785a64ab19cfc2fe165e434cf864", func := "example.com/causeway/causeway/zzlaws_internal_causal_b1.FnJoinLattice", spec := "fnJoinLattice", apart := false }
def FnJoinLatticeSaid : Prop := fnJoinLatticeRow.holds Try.pinned (OpenSpec.ofChange fnJoinLatticeSpec)

/-- ITS FALSE NEIGHBOUR: 'it returns false'. Refute it at one input. -/
def fnJoinLatticeWrong : ChangeSpec := { name := "fnJoinLattice", fn := fun _ => fun
  | [d1, d2, d3] => { results := [.lit (.bool false)], args := [d1, d2, d3] }
  | _ => none }
def FnJoinLatticeWrongFalsely : Prop := fnJoinLatticeRow.holds Try.pinned (OpenSpec.ofChange fnJoinLatticeWrong)

/-- 'zzlaws_internal_causal_b1.FnMeetExact': WHATEVER THE INPUT: true; the input reads as it did. -/
def fnMeetExactSpec : ChangeSpec := { name := "fnMeetExact", fn := fun _ => fun
  | [d1, d2] => { results := [.lit (.bool true)], args := [d1, d2] }
  | _ => none }
def fnMeetExactRow : OpenClaim := { program := "qxb6000101a", sum := "86e6ed7144599651643757870c123f372305785a64ab19cfc2fe165e434cf864", func := "example.com/causeway/causeway/zzlaws_internal_causal_b1.FnMeetExact", spec := "fnMeetExact", apart := false }
def FnMeetExactSaid : Prop := fnMeetExactRow.holds Try.pinned (OpenSpec.ofChange fnMeetExactSpec)

/-- ITS FALSE NEIGHBOUR: 'it returns false'. Refute it at one input. -/
def fnMeetExactWrong : ChangeSpec := { name := "fnMeetExact", fn := fun _ => fun
  | [d1, d2] => { results := [.lit (.bool false)], args := [d1, d2] }
  | _ => none }
def FnMeetExactWrongFalsely : Prop := fnMeetExactRow.holds Try.pinned (OpenSpec.ofChange fnMeetExactWrong)

/-- 'zzlaws_internal_causal_b1.FnMeetLattice': WHATEVER THE INPUT: true; the input reads as it did. -/
def fnMeetLatticeSpec : ChangeSpec := { name := "fnMeetLattice", fn := fun _ => fun
  | [d1, d2, d3] => { results := [.lit (.bool true)], args := [d1, d2, d3] }
  | _ => none }
def fnMeetLatticeRow : OpenClaim := { program := "qxb6000101a", sum := "86e6ed7144599651643757870c123f372305785a64ab19cfc2fe165e434cf864", func := "example.com/causeway/causeway/zzlaws_internal_causal_b1.FnMeetLattice", spec := "fnMeetLattice", apart := false }
def FnMeetLatticeSaid : Prop := fnMeetLatticeRow.holds Try.pinned (OpenSpec.ofChange fnMeetLatticeSpec)

/-- ITS FALSE NEIGHBOUR: 'it returns false'. Refute it at one input. -/
def fnMeetLatticeWrong : ChangeSpec := { name := "fnMeetLattice", fn := fun _ => fun
  | [d1, d2, d3] => { results := [.lit (.bool false)], args := [d1, d2, d3] }
  | _ => none }
def FnMeetLatticeWrongFalsely : Prop := fnMeetLatticeRow.holds Try.pinned (OpenSpec.ofChange fnMeetLatticeWrong)

/-- 'zzlaws_internal_causal_b1.FnJoinMeetAbsorb': WHATEVER THE INPUT: true; the input reads as it did. -/
def fnJoinMeetAbsorbSpec : ChangeSpec := { name := "fnJoinMeetAbsorb", fn := fun _ => fun
  | [d1, d2] => { results := [.lit (.bool true)], args := [d1, d2] }
  | _ => none }
def fnJoinMeetAbsorbRow : OpenClaim := { program := "qxb6000101a", sum := "86e6ed7144599651643757870c123f372305785a64ab19cfc2fe165e434cf864", func := "example.com/causeway/causeway/zzlaws_internal_causal_b1.FnJoinMeetAbsorb", spec := "fnJoinMeetAbsorb", apart := false }
def FnJoinMeetAbsorbSaid : Prop := fnJoinMeetAbsorbRow.holds Try.pinned (OpenSpec.ofChange fnJoinMeetAbsorbSpec)

/-- ITS FALSE NEIGHBOUR: 'it returns false'. Refute it at one input. -/
def fnJoinMeetAbsorbWrong : ChangeSpec := { name := "fnJoinMeetAbsorb", fn := fun _ => fun
  | [d1, d2] => { results := [.lit (.bool false)], args := [d1, d2] }
  | _ => none }
def FnJoinMeetAbsorbWrongFalsely : Prop := fnJoinMeetAbsorbRow.holds Try.pinned (OpenSpec.ofChange fnJoinMeetAbsorbWrong)

/-- 'zzlaws_internal_causal_b1.FnFollowsExact': WHATEVER THE INPUT: true; the input reads as it did. -/
def fnFollowsExactSpec : ChangeSpec := { name := "fnFollowsExact", fn := fun _ => fun
  | [d1, d2] => { results := [.lit (.bool true)], args := [d1, d2] }
  | _ => none }
def fnFollowsExactRow : OpenClaim := { program := "qxb6000101a", sum := "86e6ed7144599651643757870c123f372305785a64ab19cfc2fe165e434cf864", func := "example.com/causeway/causeway/zzlaws_internal_causal_b1.FnFollowsExact", spec := "fnFollowsExact", inPlace := ["internal/bytealg.IndexByteString", "internal/bytealg.IndexString"], named := ["internal/bytealg.MaxLen"], apart := false }
def FnFollowsExactSaid : Prop := fnFollowsExactRow.holds Try.pinned (OpenSpec.ofChange fnFollowsExactSpec)

/-- ITS FALSE NEIGHBOUR: 'it returns false'. Refute it at one input. -/
def fnFollowsExactWrong : ChangeSpec := { name := "fnFollowsExact", fn := fun _ => fun
  | [d1, d2] => { results := [.lit (.bool false)], args := [d1, d2] }
  | _ => none }
def FnFollowsExactWrongFalsely : Prop := fnFollowsExactRow.holds Try.pinned (OpenSpec.ofChange fnFollowsExactWrong)

/-- 'zzlaws_internal_causal_b1.FnFollowsHomomorphic': WHATEVER THE INPUT: true; the input reads as it did. -/
def fnFollowsHomomorphicSpec : ChangeSpec := { name := "fnFollowsHomomorphic", fn := fun _ => fun
  | [d1, d2, d3] => { results := [.lit (.bool true)], args := [d1, d2, d3] }
  | _ => none }
def fnFollowsHomomorphicRow : OpenClaim := { program := "qxb6000101a", sum := "86e6ed7144599651643757870c123f372305785a64ab19cfc2fe165e434cf864", func := "example.com/causeway/causeway/zzlaws_internal_causal_b1.FnFollowsHomomorphic", spec := "fnFollowsHomomorphic", inPlace := ["internal/bytealg.IndexByteString", "internal/bytealg.IndexString"], named := ["internal/bytealg.MaxLen"], apart := false }
def FnFollowsHomomorphicSaid : Prop := fnFollowsHomomorphicRow.holds Try.pinned (OpenSpec.ofChange fnFollowsHomomorphicSpec)

/-- ITS FALSE NEIGHBOUR: 'it returns false'. Refute it at one input. -/
def fnFollowsHomomorphicWrong : ChangeSpec := { name := "fnFollowsHomomorphic", fn := fun _ => fun
  | [d1, d2, d3] => { results := [.lit (.bool false)], args := [d1, d2, d3] }
  | _ => none }
def FnFollowsHomomorphicWrongFalsely : Prop := fnFollowsHomomorphicRow.holds Try.pinned (OpenSpec.ofChange fnFollowsHomomorphicWrong)

/-- 'zzlaws_internal_causal_b1.FnFollowsStable': WHATEVER THE INPUT: true; the input reads as it did. -/
def fnFollowsStableSpec : ChangeSpec := { name := "fnFollowsStable", fn := fun _ => fun
  | [d1, d2] => { results := [.lit (.bool true)], args := [d1, d2] }
  | _ => none }
def fnFollowsStableRow : OpenClaim := { program := "qxb6000101a", sum := "86e6ed7144599651643757870c123f372305785a64ab19cfc2fe165e434cf864", func := "example.com/causeway/causeway/zzlaws_internal_causal_b1.FnFollowsStable", spec := "fnFollowsStable", inPlace := ["internal/bytealg.IndexByteString", "internal/bytealg.IndexString"], named := ["internal/bytealg.MaxLen"], apart := false }
def FnFollowsStableSaid : Prop := fnFollowsStableRow.holds Try.pinned (OpenSpec.ofChange fnFollowsStableSpec)

/-- ITS FALSE NEIGHBOUR: 'it returns false'. Refute it at one input. -/
def fnFollowsStableWrong : ChangeSpec := { name := "fnFollowsStable", fn := fun _ => fun
  | [d1, d2] => { results := [.lit (.bool false)], args := [d1, d2] }
  | _ => none }
def FnFollowsStableWrongFalsely : Prop := fnFollowsStableRow.holds Try.pinned (OpenSpec.ofChange fnFollowsStableWrong)

end Rows
end Go.Proofs.Qxb6000101a
