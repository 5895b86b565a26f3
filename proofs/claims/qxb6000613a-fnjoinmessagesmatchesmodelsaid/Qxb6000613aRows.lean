/-
  No cell of these rows narrows 'for every input' (looked for: loops, veiled, ifaces, maps, wideKeys, modest, calm, conditions, laid).
  DERIVED. THE GIVEN ROWS OF THIS SEAT. 8 by the template 'for every input the law returns true; each argument reads behind the call as it read before'; 0 by the template 'total and deterministic' (their statements: Qxb6000613aTotals.lean).
  GIVEN WITH THE SEED: the statements are not yours to turn. If you find one false, say at which input.
  Laid BY PROGRAM, IN A SANDBOX (cutbox-rows.mjs): the forced cells as the released guide's own fill.sh prints them over the translation 31fca8bbe4a8c2fc… (all of the seat's roots in one cut). By AI agents, Wed Nov 11 2026. No macro, syntax, notation, axiom, sorry.
-/
import Derived.Test.Qxb6000613aChecked
import GoSem.Claim
import GoSem.ClaimJoined
import GoSem.ClaimMapViews
import Derived.JoinedTies
import Derived.KernelRfl
namespace Go.Proofs.Qxb6000613a
/- THE CELL 'sum', in the pinned program and in every row, IS THE sha256 OF THE DUMP (.gsa) THAT Qxb6000613aProg.lean LOADS. Nothing in Lean hashes anything: it is a label: what it is worth is what the hold of that sum in a sandbox is worth. -/
noncomputable def Try.pinned : Pinned := { name := "qxb6000613a", sum := "31fca8bbe4a8c2fc3038b8c2c1a4991027f444c399f62a53dbd9afeebd59822c", checked := Try.checked }
namespace Rows
def none {H : Type} : Left H := { results := [], args := [] }

/-- 'zzlaws_root_b1.FnHex4RoundTrip': WHATEVER THE INPUT: true; the input reads as it did. -/
def fnHex4RoundTripSpec : ChangeSpec := { name := "fnHex4RoundTrip", fn := fun _ => fun
  | [d1, d2, d3] => { results := [.lit (.bool true)], args := [d1, d2, d3] }
  | _ => none }
def fnHex4RoundTripRow : OpenClaim := { program := "qxb6000613a", sum := "31fca8bbe4a8c2fc3038b8c2c1a4991027f444c399f62a53dbd9afeebd59822c", func := "example.com/attestor/attestor/zzlaws_root_b1.FnHex4RoundTrip", spec := "fnHex4RoundTrip", apart := false }
def FnHex4RoundTripSaid : Prop := fnHex4RoundTripRow.holds Try.pinned (OpenSpec.ofChange fnHex4RoundTripSpec)

/-- ITS FALSE NEIGHBOUR: 'it returns false'. Refute it at one input. -/
def fnHex4RoundTripWrong : ChangeSpec := { name := "fnHex4RoundTrip", fn := fun _ => fun
  | [d1, d2, d3] => { results := [.lit (.bool false)], args := [d1, d2, d3] }
  | _ => none }
def FnHex4RoundTripWrongFalsely : Prop := fnHex4RoundTripRow.holds Try.pinned (OpenSpec.ofChange fnHex4RoundTripWrong)

/-- 'zzlaws_root_b1.FnHex4RefusesExactlyNonHex': WHATEVER THE INPUT: true; the input reads as it did. -/
def fnHex4RefusesExactlyNonHexSpec : ChangeSpec := { name := "fnHex4RefusesExactlyNonHex", fn := fun _ => fun
  | [d] => { results := [.lit (.bool true)], args := [d] }
  | _ => none }
def fnHex4RefusesExactlyNonHexRow : OpenClaim := { program := "qxb6000613a", sum := "31fca8bbe4a8c2fc3038b8c2c1a4991027f444c399f62a53dbd9afeebd59822c", func := "example.com/attestor/attestor/zzlaws_root_b1.FnHex4RefusesExactlyNonHex", spec := "fnHex4RefusesExactlyNonHex", apart := false }
def FnHex4RefusesExactlyNonHexSaid : Prop := fnHex4RefusesExactlyNonHexRow.holds Try.pinned (OpenSpec.ofChange fnHex4RefusesExactlyNonHexSpec)

/-- ITS FALSE NEIGHBOUR: 'it returns false'. Refute it at one input. -/
def fnHex4RefusesExactlyNonHexWrong : ChangeSpec := { name := "fnHex4RefusesExactlyNonHex", fn := fun _ => fun
  | [d] => { results := [.lit (.bool false)], args := [d] }
  | _ => none }
def FnHex4RefusesExactlyNonHexWrongFalsely : Prop := fnHex4RefusesExactlyNonHexRow.holds Try.pinned (OpenSpec.ofChange fnHex4RefusesExactlyNonHexWrong)

/-- 'zzlaws_root_b1.FnHex4CaseBlindAndInjective': WHATEVER THE INPUT: true; the input reads as it did. -/
def fnHex4CaseBlindAndInjectiveSpec : ChangeSpec := { name := "fnHex4CaseBlindAndInjective", fn := fun _ => fun
  | [d1, d2] => { results := [.lit (.bool true)], args := [d1, d2] }
  | _ => none }
def fnHex4CaseBlindAndInjectiveRow : OpenClaim := { program := "qxb6000613a", sum := "31fca8bbe4a8c2fc3038b8c2c1a4991027f444c399f62a53dbd9afeebd59822c", func := "example.com/attestor/attestor/zzlaws_root_b1.FnHex4CaseBlindAndInjective", spec := "fnHex4CaseBlindAndInjective", apart := false }
def FnHex4CaseBlindAndInjectiveSaid : Prop := fnHex4CaseBlindAndInjectiveRow.holds Try.pinned (OpenSpec.ofChange fnHex4CaseBlindAndInjectiveSpec)

/-- ITS FALSE NEIGHBOUR: 'it returns false'. Refute it at one input. -/
def fnHex4CaseBlindAndInjectiveWrong : ChangeSpec := { name := "fnHex4CaseBlindAndInjective", fn := fun _ => fun
  | [d1, d2] => { results := [.lit (.bool false)], args := [d1, d2] }
  | _ => none }
def FnHex4CaseBlindAndInjectiveWrongFalsely : Prop := fnHex4CaseBlindAndInjectiveRow.holds Try.pinned (OpenSpec.ofChange fnHex4CaseBlindAndInjectiveWrong)

/-- 'zzlaws_root_b1.FnNumberIsMaximalMunch': WHATEVER THE INPUT: true; the input reads as it did. -/
def fnNumberIsMaximalMunchSpec : ChangeSpec := { name := "fnNumberIsMaximalMunch", fn := fun _ => fun
  | [d1, d2] => { results := [.lit (.bool true)], args := [d1, d2] }
  | _ => none }
def fnNumberIsMaximalMunchRow : OpenClaim := { program := "qxb6000613a", sum := "31fca8bbe4a8c2fc3038b8c2c1a4991027f444c399f62a53dbd9afeebd59822c", func := "example.com/attestor/attestor/zzlaws_root_b1.FnNumberIsMaximalMunch", spec := "fnNumberIsMaximalMunch", apart := false }
def FnNumberIsMaximalMunchSaid : Prop := fnNumberIsMaximalMunchRow.holds Try.pinned (OpenSpec.ofChange fnNumberIsMaximalMunchSpec)

/-- ITS FALSE NEIGHBOUR: 'it returns false'. Refute it at one input. -/
def fnNumberIsMaximalMunchWrong : ChangeSpec := { name := "fnNumberIsMaximalMunch", fn := fun _ => fun
  | [d1, d2] => { results := [.lit (.bool false)], args := [d1, d2] }
  | _ => none }
def FnNumberIsMaximalMunchWrongFalsely : Prop := fnNumberIsMaximalMunchRow.holds Try.pinned (OpenSpec.ofChange fnNumberIsMaximalMunchWrong)

/-- 'zzlaws_root_b1.FnNumberAcceptsWellFormed': WHATEVER THE INPUT: true; the input reads as it did. -/
def fnNumberAcceptsWellFormedSpec : ChangeSpec := { name := "fnNumberAcceptsWellFormed", fn := fun _ => fun
  | [d1, d2, d3, d4, d5, d6, d7, d8] => { results := [.lit (.bool true)], args := [d1, d2, d3, d4, d5, d6, d7, d8] }
  | _ => none }
def fnNumberAcceptsWellFormedRow : OpenClaim := { program := "qxb6000613a", sum := "31fca8bbe4a8c2fc3038b8c2c1a4991027f444c399f62a53dbd9afeebd59822c", func := "example.com/attestor/attestor/zzlaws_root_b1.FnNumberAcceptsWellFormed", spec := "fnNumberAcceptsWellFormed", apart := false }
def FnNumberAcceptsWellFormedSaid : Prop := fnNumberAcceptsWellFormedRow.holds Try.pinned (OpenSpec.ofChange fnNumberAcceptsWellFormedSpec)

/-- ITS FALSE NEIGHBOUR: 'it returns false'. Refute it at one input. -/
def fnNumberAcceptsWellFormedWrong : ChangeSpec := { name := "fnNumberAcceptsWellFormed", fn := fun _ => fun
  | [d1, d2, d3, d4, d5, d6, d7, d8] => { results := [.lit (.bool false)], args := [d1, d2, d3, d4, d5, d6, d7, d8] }
  | _ => none }
def FnNumberAcceptsWellFormedWrongFalsely : Prop := fnNumberAcceptsWellFormedRow.holds Try.pinned (OpenSpec.ofChange fnNumberAcceptsWellFormedWrong)

/-- 'zzlaws_root_b1.FnNumberReadsNothingBehindPos': WHATEVER THE INPUT: true; the input reads as it did. -/
def fnNumberReadsNothingBehindPosSpec : ChangeSpec := { name := "fnNumberReadsNothingBehindPos", fn := fun _ => fun
  | [d1, d2, d3] => { results := [.lit (.bool true)], args := [d1, d2, d3] }
  | _ => none }
def fnNumberReadsNothingBehindPosRow : OpenClaim := { program := "qxb6000613a", sum := "31fca8bbe4a8c2fc3038b8c2c1a4991027f444c399f62a53dbd9afeebd59822c", func := "example.com/attestor/attestor/zzlaws_root_b1.FnNumberReadsNothingBehindPos", spec := "fnNumberReadsNothingBehindPos", apart := false }
def FnNumberReadsNothingBehindPosSaid : Prop := fnNumberReadsNothingBehindPosRow.holds Try.pinned (OpenSpec.ofChange fnNumberReadsNothingBehindPosSpec)

/-- ITS FALSE NEIGHBOUR: 'it returns false'. Refute it at one input. -/
def fnNumberReadsNothingBehindPosWrong : ChangeSpec := { name := "fnNumberReadsNothingBehindPos", fn := fun _ => fun
  | [d1, d2, d3] => { results := [.lit (.bool false)], args := [d1, d2, d3] }
  | _ => none }
def FnNumberReadsNothingBehindPosWrongFalsely : Prop := fnNumberReadsNothingBehindPosRow.holds Try.pinned (OpenSpec.ofChange fnNumberReadsNothingBehindPosWrong)

/-- 'zzlaws_root_b1.FnJoinMessagesMatchesModel': WHATEVER THE INPUT: true; the input reads as it did. -/
def fnJoinMessagesMatchesModelSpec : ChangeSpec := { name := "fnJoinMessagesMatchesModel", fn := fun _ => fun
  | [d] => { results := [.lit (.bool true)], args := [d] }
  | _ => none }
def fnJoinMessagesMatchesModelRow : OpenClaim := { program := "qxb6000613a", sum := "31fca8bbe4a8c2fc3038b8c2c1a4991027f444c399f62a53dbd9afeebd59822c", func := "example.com/attestor/attestor/zzlaws_root_b1.FnJoinMessagesMatchesModel", spec := "fnJoinMessagesMatchesModel", inPlace := ["internal/abi.NoEscape"], apart := false }
def FnJoinMessagesMatchesModelSaid : Prop := fnJoinMessagesMatchesModelRow.holds Try.pinned (OpenSpec.ofChange fnJoinMessagesMatchesModelSpec)

/-- ITS FALSE NEIGHBOUR: 'it returns false'. Refute it at one input. -/
def fnJoinMessagesMatchesModelWrong : ChangeSpec := { name := "fnJoinMessagesMatchesModel", fn := fun _ => fun
  | [d] => { results := [.lit (.bool false)], args := [d] }
  | _ => none }
def FnJoinMessagesMatchesModelWrongFalsely : Prop := fnJoinMessagesMatchesModelRow.holds Try.pinned (OpenSpec.ofChange fnJoinMessagesMatchesModelWrong)

/-- 'zzlaws_root_b1.FnJoinMessagesIgnoresLaterRepeats': WHATEVER THE INPUT: true; the input reads as it did. -/
def fnJoinMessagesIgnoresLaterRepeatsSpec : ChangeSpec := { name := "fnJoinMessagesIgnoresLaterRepeats", fn := fun _ => fun
  | [d1, d2, d3] => { results := [.lit (.bool true)], args := [d1, d2, d3] }
  | _ => none }
def fnJoinMessagesIgnoresLaterRepeatsRow : OpenClaim := { program := "qxb6000613a", sum := "31fca8bbe4a8c2fc3038b8c2c1a4991027f444c399f62a53dbd9afeebd59822c", func := "example.com/attestor/attestor/zzlaws_root_b1.FnJoinMessagesIgnoresLaterRepeats", spec := "fnJoinMessagesIgnoresLaterRepeats", inPlace := ["internal/abi.NoEscape"], apart := false }
def FnJoinMessagesIgnoresLaterRepeatsSaid : Prop := fnJoinMessagesIgnoresLaterRepeatsRow.holds Try.pinned (OpenSpec.ofChange fnJoinMessagesIgnoresLaterRepeatsSpec)

/-- ITS FALSE NEIGHBOUR: 'it returns false'. Refute it at one input. -/
def fnJoinMessagesIgnoresLaterRepeatsWrong : ChangeSpec := { name := "fnJoinMessagesIgnoresLaterRepeats", fn := fun _ => fun
  | [d1, d2, d3] => { results := [.lit (.bool false)], args := [d1, d2, d3] }
  | _ => none }
def FnJoinMessagesIgnoresLaterRepeatsWrongFalsely : Prop := fnJoinMessagesIgnoresLaterRepeatsRow.holds Try.pinned (OpenSpec.ofChange fnJoinMessagesIgnoresLaterRepeatsWrong)

end Rows
end Go.Proofs.Qxb6000613a
