/-
  No cell of these rows narrows 'for every input' (looked for: loops, veiled, ifaces, maps, wideKeys, modest, calm, conditions, laid).
  DERIVED. THE GIVEN ROWS OF THIS SEAT. 2 by the template 'for every input the law returns true; each argument reads behind the call as it read before'; 0 by the template 'total and deterministic' (their statements: Qxb6603684aTotals.lean).
  GIVEN WITH THE SEED: the statements are not yours to turn. If you find one false, say at which input.
  Laid BY PROGRAM, IN A SANDBOX (cutbox-rows.mjs): the forced cells as the released guide's own fill.sh prints them over the translation 537fd18740c9e1e6… (all of the seat's roots in one cut). By AI agents, Wed Nov 11 2026. No macro, syntax, notation, axiom, sorry.
-/
import Derived.Test.Qxb6603684aChecked
import GoSem.Claim
import GoSem.ClaimJoined
import GoSem.ClaimMapViews
import Derived.JoinedTies
import Derived.KernelRfl
namespace Go.Proofs.Qxb6603684a
/- THE CELL 'sum', in the pinned program and in every row, IS THE sha256 OF THE DUMP (.gsa) THAT Qxb6603684aProg.lean LOADS. Nothing in Lean hashes anything: it is a label: what it is worth is what the hold of that sum in a sandbox is worth. -/
noncomputable def Try.pinned : Pinned := { name := "qxb6603684a", sum := "537fd18740c9e1e6f7f8b2bc14c3f6b3b0b55424c1bfd54037f4dcaa2131c6d3", checked := Try.checked }
namespace Rows
def none {H : Type} : Left H := { results := [], args := [] }

/-- 'zzlaws_internal_nfa_b1.FnDropShortRegionsMatchesAncestorWalk': WHATEVER THE INPUT: true; the input reads as it did. -/
def fnDropShortRegionsMatchesAncestorWalkSpec : ChangeSpec := { name := "fnDropShortRegionsMatchesAncestorWalk", fn := fun _ => fun
  | [d] => { results := [.lit (.bool true)], args := [d] }
  | _ => none }
def fnDropShortRegionsMatchesAncestorWalkRow : OpenClaim := { program := "qxb6603684a", sum := "537fd18740c9e1e6f7f8b2bc14c3f6b3b0b55424c1bfd54037f4dcaa2131c6d3", func := "example.com/trawl/trawl/zzlaws_internal_nfa_b1.FnDropShortRegionsMatchesAncestorWalk", spec := "fnDropShortRegionsMatchesAncestorWalk", apart := false }
def FnDropShortRegionsMatchesAncestorWalkSaid : Prop := fnDropShortRegionsMatchesAncestorWalkRow.holds Try.pinned (OpenSpec.ofChange fnDropShortRegionsMatchesAncestorWalkSpec)

/-- ITS FALSE NEIGHBOUR: 'it returns false'. Refute it at one input. -/
def fnDropShortRegionsMatchesAncestorWalkWrong : ChangeSpec := { name := "fnDropShortRegionsMatchesAncestorWalk", fn := fun _ => fun
  | [d] => { results := [.lit (.bool false)], args := [d] }
  | _ => none }
def FnDropShortRegionsMatchesAncestorWalkWrongFalsely : Prop := fnDropShortRegionsMatchesAncestorWalkRow.holds Try.pinned (OpenSpec.ofChange fnDropShortRegionsMatchesAncestorWalkWrong)

/-- 'zzlaws_internal_nfa_b1.FnSkip4EqualsSlowestLane': WHATEVER THE INPUT: true; the input reads as it did. -/
def fnSkip4EqualsSlowestLaneSpec : ChangeSpec := { name := "fnSkip4EqualsSlowestLane", fn := fun _ => fun
  | [d1, d2, d3, d4, d5, d6, d7, d8, d9, d10] => { results := [.lit (.bool true)], args := [d1, d2, d3, d4, d5, d6, d7, d8, d9, d10] }
  | _ => none }
def fnSkip4EqualsSlowestLaneRow : OpenClaim := { program := "qxb6603684a", sum := "537fd18740c9e1e6f7f8b2bc14c3f6b3b0b55424c1bfd54037f4dcaa2131c6d3", func := "example.com/trawl/trawl/zzlaws_internal_nfa_b1.FnSkip4EqualsSlowestLane", spec := "fnSkip4EqualsSlowestLane", apart := false }
def FnSkip4EqualsSlowestLaneSaid : Prop := fnSkip4EqualsSlowestLaneRow.holds Try.pinned (OpenSpec.ofChange fnSkip4EqualsSlowestLaneSpec)

/-- ITS FALSE NEIGHBOUR: 'it returns false'. Refute it at one input. -/
def fnSkip4EqualsSlowestLaneWrong : ChangeSpec := { name := "fnSkip4EqualsSlowestLane", fn := fun _ => fun
  | [d1, d2, d3, d4, d5, d6, d7, d8, d9, d10] => { results := [.lit (.bool false)], args := [d1, d2, d3, d4, d5, d6, d7, d8, d9, d10] }
  | _ => none }
def FnSkip4EqualsSlowestLaneWrongFalsely : Prop := fnSkip4EqualsSlowestLaneRow.holds Try.pinned (OpenSpec.ofChange fnSkip4EqualsSlowestLaneWrong)

end Rows
end Go.Proofs.Qxb6603684a
