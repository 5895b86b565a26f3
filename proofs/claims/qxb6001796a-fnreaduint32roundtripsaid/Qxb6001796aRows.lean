/-
  No cell of these rows narrows 'for every input' (looked for: loops, veiled, ifaces, maps, wideKeys, modest, calm, conditions, laid).
  DERIVED. THE GIVEN ROWS OF THIS SEAT. 2 by the template 'for every input the law returns true; each argument reads behind the call as it read before'; 0 by the template 'total and deterministic' (their statements: Qxb6001796aTotals.lean).
  GIVEN WITH THE SEED: the statements are not yours to turn. If you find one false, say at which input.
  Laid BY PROGRAM, IN A SANDBOX (cutbox-rows.mjs): the forced cells as the released guide's own fill.sh prints them over the translation 3674598a89dac6e3… (all of the seat's roots in one cut). By AI agents, Wed Nov 11 2026. No macro, syntax, notation, axiom, sorry.
-/
import Derived.Test.Qxb6001796aChecked
import GoSem.Claim
import GoSem.ClaimJoined
import GoSem.ClaimMapViews
import Derived.JoinedTies
import Derived.KernelRfl
namespace Go.Proofs.Qxb6001796a
/- THE CELL 'sum', in the pinned program and in every row, IS THE sha256 OF THE DUMP (.gsa) THAT Qxb6001796aProg.lean LOADS. Nothing in Lean hashes anything: it is a label: what it is worth is what the hold of that sum in a sandbox is worth. -/
noncomputable def Try.pinned : Pinned := { name := "qxb6001796a", sum := "3674598a89dac6e3c63076a3702002bcbb78513d4b2836c78e6a5448616053a4", checked := Try.checked }
namespace Rows
def none {H : Type} : Left H := { results := [], args := [] }

/-- 'zzlaws_server_b1.FnReadUint32RoundTrip': WHATEVER THE INPUT: true; the input reads as it did. -/
def fnReadUint32RoundTripSpec : ChangeSpec := { name := "fnReadUint32RoundTrip", fn := fun _ => fun
  | [d1, d2] => { results := [.lit (.bool true)], args := [d1, d2] }
  | _ => none }
def fnReadUint32RoundTripRow : OpenClaim := { program := "qxb6001796a", sum := "3674598a89dac6e3c63076a3702002bcbb78513d4b2836c78e6a5448616053a4", func := "example.com/gapwise/gapwise/zzlaws_server_b1.FnReadUint32RoundTrip", spec := "fnReadUint32RoundTrip", apart := false }
def FnReadUint32RoundTripSaid : Prop := fnReadUint32RoundTripRow.holds Try.pinned (OpenSpec.ofChange fnReadUint32RoundTripSpec)

/-- ITS FALSE NEIGHBOUR: 'it returns false'. Refute it at one input. -/
def fnReadUint32RoundTripWrong : ChangeSpec := { name := "fnReadUint32RoundTrip", fn := fun _ => fun
  | [d1, d2] => { results := [.lit (.bool false)], args := [d1, d2] }
  | _ => none }
def FnReadUint32RoundTripWrongFalsely : Prop := fnReadUint32RoundTripRow.holds Try.pinned (OpenSpec.ofChange fnReadUint32RoundTripWrong)

/-- 'zzlaws_server_b1.FnReadUint32Reencodes': WHATEVER THE INPUT: true; the input reads as it did. -/
def fnReadUint32ReencodesSpec : ChangeSpec := { name := "fnReadUint32Reencodes", fn := fun _ => fun
  | [d] => { results := [.lit (.bool true)], args := [d] }
  | _ => none }
def fnReadUint32ReencodesRow : OpenClaim := { program := "qxb6001796a", sum := "3674598a89dac6e3c63076a3702002bcbb78513d4b2836c78e6a5448616053a4", func := "example.com/gapwise/gapwise/zzlaws_server_b1.FnReadUint32Reencodes", spec := "fnReadUint32Reencodes", apart := false }
def FnReadUint32ReencodesSaid : Prop := fnReadUint32ReencodesRow.holds Try.pinned (OpenSpec.ofChange fnReadUint32ReencodesSpec)

/-- ITS FALSE NEIGHBOUR: 'it returns false'. Refute it at one input. -/
def fnReadUint32ReencodesWrong : ChangeSpec := { name := "fnReadUint32Reencodes", fn := fun _ => fun
  | [d] => { results := [.lit (.bool false)], args := [d] }
  | _ => none }
def FnReadUint32ReencodesWrongFalsely : Prop := fnReadUint32ReencodesRow.holds Try.pinned (OpenSpec.ofChange fnReadUint32ReencodesWrong)

end Rows
end Go.Proofs.Qxb6001796a
