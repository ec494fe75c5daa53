/-
  No cell of these rows narrows 'for every input' (looked for: loops, veiled, ifaces, maps, wideKeys, modest, calm, conditions, laid).
  DERIVED. THE GIVEN ROWS OF THIS SEAT. 1 by the template 'for every input the law returns true; each argument reads behind the call as it read before'; 0 by the template 'total and deterministic' (their statements: Qxb6604437aTotals.lean).
  GIVEN WITH THE SEED: the statements are not yours to turn. If you find one false, say at which input.
  Laid BY PROGRAM, IN A SANDBOX (cutbox-rows.mjs): the forced cells as the released guide's own fill.sh prints them over the translation f9b6e055b56fcfc3… (all of the seat's roots in one cut). By AI agents, Wed Nov 11 2026. No macro, syntax, notation, axiom, sorry.
-/
import Derived.Test.Qxb6604437aChecked
import GoSem.Claim
import GoSem.ClaimJoined
import GoSem.ClaimMapViews
import Derived.JoinedTies
import Derived.KernelRfl
namespace Go.Proofs.Qxb6604437a
/- THE CELL 'sum', in the pinned program and in every row, IS THE sha256 OF THE DUMP (.gsa) THAT Qxb6604437aProg.lean LOADS. Nothing in Lean hashes anything: it is a label: what it is worth is what the hold of that sum in a sandbox is worth. -/
noncomputable def Try.pinned : Pinned := { name := "qxb6604437a", sum := "f9b6e055b56fcfc3f32a719aa076a69ad268a459c59b7ae429403a09e50b0f00", checked := Try.checked }
namespace Rows
def none {H : Type} : Left H := { results := [], args := [] }

/-- 'zzlaws_root_b1.FnUcsTextRoundTripsCodePoints': WHATEVER THE INPUT: true; the input reads as it did. -/
def fnUcsTextRoundTripsCodePointsSpec : ChangeSpec := { name := "fnUcsTextRoundTripsCodePoints", fn := fun _ => fun
  | [d1, d2] => { results := [.lit (.bool true)], args := [d1, d2] }
  | _ => none }
def fnUcsTextRoundTripsCodePointsRow : OpenClaim := { program := "qxb6604437a", sum := "f9b6e055b56fcfc3f32a719aa076a69ad268a459c59b7ae429403a09e50b0f00", func := "example.com/vouchsafe/vouchsafe/zzlaws_root_b1.FnUcsTextRoundTripsCodePoints", spec := "fnUcsTextRoundTripsCodePoints", inPlace := ["internal/abi.NoEscape"], apart := false }
def FnUcsTextRoundTripsCodePointsSaid : Prop := fnUcsTextRoundTripsCodePointsRow.holds Try.pinned (OpenSpec.ofChange fnUcsTextRoundTripsCodePointsSpec)

/-- ITS FALSE NEIGHBOUR: 'it returns false'. Refute it at one input. -/
def fnUcsTextRoundTripsCodePointsWrong : ChangeSpec := { name := "fnUcsTextRoundTripsCodePoints", fn := fun _ => fun
  | [d1, d2] => { results := [.lit (.bool false)], args := [d1, d2] }
  | _ => none }
def FnUcsTextRoundTripsCodePointsWrongFalsely : Prop := fnUcsTextRoundTripsCodePointsRow.holds Try.pinned (OpenSpec.ofChange fnUcsTextRoundTripsCodePointsWrong)

end Rows
end Go.Proofs.Qxb6604437a
