/-
  No cell of these rows narrows 'for every input' (looked for: loops, veiled, ifaces, maps, wideKeys, modest, calm, conditions, laid).
  DERIVED. THE GIVEN ROWS OF THIS SEAT. 4 by the template 'for every input the law returns true; each argument reads behind the call as it read before'; 0 by the template 'total and deterministic' (their statements: Qxb6003725aTotals.lean).
  GIVEN WITH THE SEED: the statements are not yours to turn. If you find one false, say at which input.
  Laid BY PROGRAM, IN A SANDBOX (cutbox-rows.mjs): the forced cells as the released guide's own fill.sh prints them over the translation a78665c5dea8115c… (all of the seat's roots in one cut). By AI agents, Wed Nov 11 2026. No macro, syntax, notation, axiom, sorry.
-/
import Derived.Test.Qxb6003725aChecked
import GoSem.Claim
import GoSem.ClaimJoined
import GoSem.ClaimMapViews
import Derived.JoinedTies
import Derived.KernelRfl
namespace Go.Proofs.Qxb6003725a
/- THE CELL 'sum', in the pinned program and in every row, IS THE sha256 OF THE DUMP (.gsa) THAT Qxb6003725aProg.lean LOADS. Nothing in Lean hashes anything: it is a label: what it is worth is what the hold of that sum in a sandbox is worth. -/
noncomputable def Try.pinned : Pinned := { name := "qxb6003725a", sum := "a78665c5dea8115c76188fc576e9fc77c7c4e524acecfe3c64281d409927fd51", checked := Try.checked }
namespace Rows
def none {H : Type} : Left H := { results := [], args := [] }

/-- 'zzlaws_internal_sim_g2.FnReckoningEndClosesAMistakeOnce': WHATEVER THE INPUT: true; the input reads as it did. -/
def fnReckoningEndClosesAMistakeOnceSpec : ChangeSpec := { name := "fnReckoningEndClosesAMistakeOnce", fn := fun _ => fun
  | [d1, d2, d3, d4, d5, d6] => { results := [.lit (.bool true)], args := [d1, d2, d3, d4, d5, d6] }
  | _ => none }
def fnReckoningEndClosesAMistakeOnceRow : OpenClaim := { program := "qxb6003725a", sum := "a78665c5dea8115c76188fc576e9fc77c7c4e524acecfe3c64281d409927fd51", func := "example.com/riftwatch/riftwatch/zzlaws_internal_sim_g2.FnReckoningEndClosesAMistakeOnce", spec := "fnReckoningEndClosesAMistakeOnce", plainKeys := false, apart := false }
def FnReckoningEndClosesAMistakeOnceSaid : Prop := fnReckoningEndClosesAMistakeOnceRow.holds Try.pinned (OpenSpec.ofChange fnReckoningEndClosesAMistakeOnceSpec)

/-- ITS FALSE NEIGHBOUR: 'it returns false'. Refute it at one input. -/
def fnReckoningEndClosesAMistakeOnceWrong : ChangeSpec := { name := "fnReckoningEndClosesAMistakeOnce", fn := fun _ => fun
  | [d1, d2, d3, d4, d5, d6] => { results := [.lit (.bool false)], args := [d1, d2, d3, d4, d5, d6] }
  | _ => none }
def FnReckoningEndClosesAMistakeOnceWrongFalsely : Prop := fnReckoningEndClosesAMistakeOnceRow.holds Try.pinned (OpenSpec.ofChange fnReckoningEndClosesAMistakeOnceWrong)

/-- 'zzlaws_internal_topology_g1.FnTypeOfNamesTheKindOfRenderedJSON': WHATEVER THE INPUT: true; the input reads as it did. -/
def fnTypeOfNamesTheKindOfRenderedJSONSpec : ChangeSpec := { name := "fnTypeOfNamesTheKindOfRenderedJSON", fn := fun _ => fun
  | [d1, d2, d3, d4, d5, d6] => { results := [.lit (.bool true)], args := [d1, d2, d3, d4, d5, d6] }
  | _ => none }
def fnTypeOfNamesTheKindOfRenderedJSONRow : OpenClaim := { program := "qxb6003725a", sum := "a78665c5dea8115c76188fc576e9fc77c7c4e524acecfe3c64281d409927fd51", func := "example.com/riftwatch/riftwatch/zzlaws_internal_topology_g1.FnTypeOfNamesTheKindOfRenderedJSON", spec := "fnTypeOfNamesTheKindOfRenderedJSON", plainKeys := false, apart := false }
def FnTypeOfNamesTheKindOfRenderedJSONSaid : Prop := fnTypeOfNamesTheKindOfRenderedJSONRow.holds Try.pinned (OpenSpec.ofChange fnTypeOfNamesTheKindOfRenderedJSONSpec)

/-- ITS FALSE NEIGHBOUR: 'it returns false'. Refute it at one input. -/
def fnTypeOfNamesTheKindOfRenderedJSONWrong : ChangeSpec := { name := "fnTypeOfNamesTheKindOfRenderedJSON", fn := fun _ => fun
  | [d1, d2, d3, d4, d5, d6] => { results := [.lit (.bool false)], args := [d1, d2, d3, d4, d5, d6] }
  | _ => none }
def FnTypeOfNamesTheKindOfRenderedJSONWrongFalsely : Prop := fnTypeOfNamesTheKindOfRenderedJSONRow.holds Try.pinned (OpenSpec.ofChange fnTypeOfNamesTheKindOfRenderedJSONWrong)

/-- 'zzlaws_internal_wire_g1.FnAppendEntriesReadsBack': WHATEVER THE INPUT: true; the input reads as it did. -/
def fnAppendEntriesReadsBackSpec : ChangeSpec := { name := "fnAppendEntriesReadsBack", fn := fun _ => fun
  | [d1, d2, d3] => { results := [.lit (.bool true)], args := [d1, d2, d3] }
  | _ => none }
def fnAppendEntriesReadsBackRow : OpenClaim := { program := "qxb6003725a", sum := "a78665c5dea8115c76188fc576e9fc77c7c4e524acecfe3c64281d409927fd51", func := "example.com/riftwatch/riftwatch/zzlaws_internal_wire_g1.FnAppendEntriesReadsBack", spec := "fnAppendEntriesReadsBack", plainKeys := false, apart := false }
def FnAppendEntriesReadsBackSaid : Prop := fnAppendEntriesReadsBackRow.holds Try.pinned (OpenSpec.ofChange fnAppendEntriesReadsBackSpec)

/-- ITS FALSE NEIGHBOUR: 'it returns false'. Refute it at one input. -/
def fnAppendEntriesReadsBackWrong : ChangeSpec := { name := "fnAppendEntriesReadsBack", fn := fun _ => fun
  | [d1, d2, d3] => { results := [.lit (.bool false)], args := [d1, d2, d3] }
  | _ => none }
def FnAppendEntriesReadsBackWrongFalsely : Prop := fnAppendEntriesReadsBackRow.holds Try.pinned (OpenSpec.ofChange fnAppendEntriesReadsBackWrong)

/-- 'zzlaws_internal_wire_g1.FnAppendEntriesAppendsAfterAnyPrefix': WHATEVER THE INPUT: true; the input reads as it did. -/
def fnAppendEntriesAppendsAfterAnyPrefixSpec : ChangeSpec := { name := "fnAppendEntriesAppendsAfterAnyPrefix", fn := fun _ => fun
  | [d1, d2, d3] => { results := [.lit (.bool true)], args := [d1, d2, d3] }
  | _ => none }
def fnAppendEntriesAppendsAfterAnyPrefixRow : OpenClaim := { program := "qxb6003725a", sum := "a78665c5dea8115c76188fc576e9fc77c7c4e524acecfe3c64281d409927fd51", func := "example.com/riftwatch/riftwatch/zzlaws_internal_wire_g1.FnAppendEntriesAppendsAfterAnyPrefix", spec := "fnAppendEntriesAppendsAfterAnyPrefix", plainKeys := false, apart := false }
def FnAppendEntriesAppendsAfterAnyPrefixSaid : Prop := fnAppendEntriesAppendsAfterAnyPrefixRow.holds Try.pinned (OpenSpec.ofChange fnAppendEntriesAppendsAfterAnyPrefixSpec)

/-- ITS FALSE NEIGHBOUR: 'it returns false'. Refute it at one input. -/
def fnAppendEntriesAppendsAfterAnyPrefixWrong : ChangeSpec := { name := "fnAppendEntriesAppendsAfterAnyPrefix", fn := fun _ => fun
  | [d1, d2, d3] => { results := [.lit (.bool false)], args := [d1, d2, d3] }
  | _ => none }
def FnAppendEntriesAppendsAfterAnyPrefixWrongFalsely : Prop := fnAppendEntriesAppendsAfterAnyPrefixRow.holds Try.pinned (OpenSpec.ofChange fnAppendEntriesAppendsAfterAnyPrefixWrong)

end Rows
end Go.Proofs.Qxb6003725a
