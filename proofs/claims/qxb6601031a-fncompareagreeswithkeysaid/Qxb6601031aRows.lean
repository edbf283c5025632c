/-
  No cell of these rows narrows 'for every input' (looked for: loops, veiled, ifaces, maps, wideKeys, modest, calm, conditions, laid).
  DERIVED. THE GIVEN ROWS OF THIS SEAT. 8 by the template 'for every input the law returns true; each argument reads behind the call as it read before'; 0 by the template 'total and deterministic' (their statements: Qxb6601031aTotals.lean).
  GIVEN WITH THE SEED: the statements are not yours to turn. If you find one false, say at which input.
  Laid BY PROGRAM, IN A SANDBOX (cutbox-rows.mjs): the forced cells as the released guide's own fill.sh prints them over the translation c84a8406f0e65c8d… (all of the seat's roots in one cut). By AI agents, Wed Nov 11 2026. No macro, syntax, notation, axiom, sorry.
-/
import Derived.Test.Qxb6601031aChecked
import GoSem.Claim
import GoSem.ClaimJoined
import GoSem.ClaimMapViews
import Derived.JoinedTies
import Derived.KernelRfl
namespace Go.Proofs.Qxb6601031a
/- THE CELL 'sum', in the pinned program and in every row, IS THE sha256 OF THE DUMP (.gsa) THAT Qxb6601031aProg.lean LOADS. Nothing in Lean hashes anything: it is a label: what it is worth is what the hold of that sum in a sandbox is worth. -/
noncomputable def Try.pinned : Pinned := { name := "qxb6601031a", sum := "c84a8406f0e65c8d7c84505828536d767545dbc2957d1e2c11902711b43a175e", checked := Try.checked }
namespace Rows
def none {H : Type} : Left H := { results := [], args := [] }

/-- 'zzlaws_pkg_market_b1.FnMatchesItself': WHATEVER THE INPUT: true; the input reads as it did. -/
def fnMatchesItselfSpec : ChangeSpec := { name := "fnMatchesItself", fn := fun _ => fun
  | [d] => { results := [.lit (.bool true)], args := [d] }
  | _ => none }
def fnMatchesItselfRow : OpenClaim := { program := "qxb6601031a", sum := "c84a8406f0e65c8d7c84505828536d767545dbc2957d1e2c11902711b43a175e", func := "example.com/ballast/ballast/zzlaws_pkg_market_b1.FnMatchesItself", spec := "fnMatchesItself", apart := false }
def FnMatchesItselfSaid : Prop := fnMatchesItselfRow.holds Try.pinned (OpenSpec.ofChange fnMatchesItselfSpec)

/-- ITS FALSE NEIGHBOUR: 'it returns false'. Refute it at one input. -/
def fnMatchesItselfWrong : ChangeSpec := { name := "fnMatchesItself", fn := fun _ => fun
  | [d] => { results := [.lit (.bool false)], args := [d] }
  | _ => none }
def FnMatchesItselfWrongFalsely : Prop := fnMatchesItselfRow.holds Try.pinned (OpenSpec.ofChange fnMatchesItselfWrong)

/-- 'zzlaws_pkg_market_b1.FnMatchesSplits': WHATEVER THE INPUT: true; the input reads as it did. -/
def fnMatchesSplitsSpec : ChangeSpec := { name := "fnMatchesSplits", fn := fun _ => fun
  | [d1, d2, d3] => { results := [.lit (.bool true)], args := [d1, d2, d3] }
  | _ => none }
def fnMatchesSplitsRow : OpenClaim := { program := "qxb6601031a", sum := "c84a8406f0e65c8d7c84505828536d767545dbc2957d1e2c11902711b43a175e", func := "example.com/ballast/ballast/zzlaws_pkg_market_b1.FnMatchesSplits", spec := "fnMatchesSplits", apart := false }
def FnMatchesSplitsSaid : Prop := fnMatchesSplitsRow.holds Try.pinned (OpenSpec.ofChange fnMatchesSplitsSpec)

/-- ITS FALSE NEIGHBOUR: 'it returns false'. Refute it at one input. -/
def fnMatchesSplitsWrong : ChangeSpec := { name := "fnMatchesSplits", fn := fun _ => fun
  | [d1, d2, d3] => { results := [.lit (.bool false)], args := [d1, d2, d3] }
  | _ => none }
def FnMatchesSplitsWrongFalsely : Prop := fnMatchesSplitsRow.holds Try.pinned (OpenSpec.ofChange fnMatchesSplitsWrong)

/-- 'zzlaws_pkg_market_b1.FnNumberByPlaceValues': WHATEVER THE INPUT: true; the input reads as it did. -/
def fnNumberByPlaceValuesSpec : ChangeSpec := { name := "fnNumberByPlaceValues", fn := fun _ => fun
  | [d] => { results := [.lit (.bool true)], args := [d] }
  | _ => none }
def fnNumberByPlaceValuesRow : OpenClaim := { program := "qxb6601031a", sum := "c84a8406f0e65c8d7c84505828536d767545dbc2957d1e2c11902711b43a175e", func := "example.com/ballast/ballast/zzlaws_pkg_market_b1.FnNumberByPlaceValues", spec := "fnNumberByPlaceValues", apart := false }
def FnNumberByPlaceValuesSaid : Prop := fnNumberByPlaceValuesRow.holds Try.pinned (OpenSpec.ofChange fnNumberByPlaceValuesSpec)

/-- ITS FALSE NEIGHBOUR: 'it returns false'. Refute it at one input. -/
def fnNumberByPlaceValuesWrong : ChangeSpec := { name := "fnNumberByPlaceValues", fn := fun _ => fun
  | [d] => { results := [.lit (.bool false)], args := [d] }
  | _ => none }
def FnNumberByPlaceValuesWrongFalsely : Prop := fnNumberByPlaceValuesRow.holds Try.pinned (OpenSpec.ofChange fnNumberByPlaceValuesWrong)

/-- 'zzlaws_pkg_market_b1.FnNumberOrderFollowsText': WHATEVER THE INPUT: true; the input reads as it did. -/
def fnNumberOrderFollowsTextSpec : ChangeSpec := { name := "fnNumberOrderFollowsText", fn := fun _ => fun
  | [d1, d2] => { results := [.lit (.bool true)], args := [d1, d2] }
  | _ => none }
def fnNumberOrderFollowsTextRow : OpenClaim := { program := "qxb6601031a", sum := "c84a8406f0e65c8d7c84505828536d767545dbc2957d1e2c11902711b43a175e", func := "example.com/ballast/ballast/zzlaws_pkg_market_b1.FnNumberOrderFollowsText", spec := "fnNumberOrderFollowsText", apart := false }
def FnNumberOrderFollowsTextSaid : Prop := fnNumberOrderFollowsTextRow.holds Try.pinned (OpenSpec.ofChange fnNumberOrderFollowsTextSpec)

/-- ITS FALSE NEIGHBOUR: 'it returns false'. Refute it at one input. -/
def fnNumberOrderFollowsTextWrong : ChangeSpec := { name := "fnNumberOrderFollowsText", fn := fun _ => fun
  | [d1, d2] => { results := [.lit (.bool false)], args := [d1, d2] }
  | _ => none }
def FnNumberOrderFollowsTextWrongFalsely : Prop := fnNumberOrderFollowsTextRow.holds Try.pinned (OpenSpec.ofChange fnNumberOrderFollowsTextWrong)

/-- 'zzlaws_pkg_market_b1.FnNumberReadsDecimal': WHATEVER THE INPUT: true; the input reads as it did. -/
def fnNumberReadsDecimalSpec : ChangeSpec := { name := "fnNumberReadsDecimal", fn := fun _ => fun
  | [d] => { results := [.lit (.bool true)], args := [d] }
  | _ => none }
def fnNumberReadsDecimalRow : OpenClaim := { program := "qxb6601031a", sum := "c84a8406f0e65c8d7c84505828536d767545dbc2957d1e2c11902711b43a175e", func := "example.com/ballast/ballast/zzlaws_pkg_market_b1.FnNumberReadsDecimal", spec := "fnNumberReadsDecimal", apart := false }
def FnNumberReadsDecimalSaid : Prop := fnNumberReadsDecimalRow.holds Try.pinned (OpenSpec.ofChange fnNumberReadsDecimalSpec)

/-- ITS FALSE NEIGHBOUR: 'it returns false'. Refute it at one input. -/
def fnNumberReadsDecimalWrong : ChangeSpec := { name := "fnNumberReadsDecimal", fn := fun _ => fun
  | [d] => { results := [.lit (.bool false)], args := [d] }
  | _ => none }
def FnNumberReadsDecimalWrongFalsely : Prop := fnNumberReadsDecimalRow.holds Try.pinned (OpenSpec.ofChange fnNumberReadsDecimalWrong)

/-- 'zzlaws_pkg_market_b1.FnCompareAgreesWithKey': WHATEVER THE INPUT: true; the input reads as it did. -/
def fnCompareAgreesWithKeySpec : ChangeSpec := { name := "fnCompareAgreesWithKey", fn := fun _ => fun
  | [d1, d2, d3, d4, d5, d6] => { results := [.lit (.bool true)], args := [d1, d2, d3, d4, d5, d6] }
  | _ => none }
def fnCompareAgreesWithKeyRow : OpenClaim := { program := "qxb6601031a", sum := "c84a8406f0e65c8d7c84505828536d767545dbc2957d1e2c11902711b43a175e", func := "example.com/ballast/ballast/zzlaws_pkg_market_b1.FnCompareAgreesWithKey", spec := "fnCompareAgreesWithKey", inPlace := ["internal/bytealg.abigen_runtime_cmpstring"], apart := false }
def FnCompareAgreesWithKeySaid : Prop := fnCompareAgreesWithKeyRow.holds Try.pinned (OpenSpec.ofChange fnCompareAgreesWithKeySpec)

/-- ITS FALSE NEIGHBOUR: 'it returns false'. Refute it at one input. -/
def fnCompareAgreesWithKeyWrong : ChangeSpec := { name := "fnCompareAgreesWithKey", fn := fun _ => fun
  | [d1, d2, d3, d4, d5, d6] => { results := [.lit (.bool false)], args := [d1, d2, d3, d4, d5, d6] }
  | _ => none }
def FnCompareAgreesWithKeyWrongFalsely : Prop := fnCompareAgreesWithKeyRow.holds Try.pinned (OpenSpec.ofChange fnCompareAgreesWithKeyWrong)

/-- 'zzlaws_pkg_market_b1.FnCompareAntisymmetric': WHATEVER THE INPUT: true; the input reads as it did. -/
def fnCompareAntisymmetricSpec : ChangeSpec := { name := "fnCompareAntisymmetric", fn := fun _ => fun
  | [d1, d2, d3, d4, d5, d6] => { results := [.lit (.bool true)], args := [d1, d2, d3, d4, d5, d6] }
  | _ => none }
def fnCompareAntisymmetricRow : OpenClaim := { program := "qxb6601031a", sum := "c84a8406f0e65c8d7c84505828536d767545dbc2957d1e2c11902711b43a175e", func := "example.com/ballast/ballast/zzlaws_pkg_market_b1.FnCompareAntisymmetric", spec := "fnCompareAntisymmetric", inPlace := ["internal/bytealg.abigen_runtime_cmpstring"], apart := false }
def FnCompareAntisymmetricSaid : Prop := fnCompareAntisymmetricRow.holds Try.pinned (OpenSpec.ofChange fnCompareAntisymmetricSpec)

/-- ITS FALSE NEIGHBOUR: 'it returns false'. Refute it at one input. -/
def fnCompareAntisymmetricWrong : ChangeSpec := { name := "fnCompareAntisymmetric", fn := fun _ => fun
  | [d1, d2, d3, d4, d5, d6] => { results := [.lit (.bool false)], args := [d1, d2, d3, d4, d5, d6] }
  | _ => none }
def FnCompareAntisymmetricWrongFalsely : Prop := fnCompareAntisymmetricRow.holds Try.pinned (OpenSpec.ofChange fnCompareAntisymmetricWrong)

/-- 'zzlaws_pkg_market_b1.FnCompareTransitive': WHATEVER THE INPUT: true; the input reads as it did. -/
def fnCompareTransitiveSpec : ChangeSpec := { name := "fnCompareTransitive", fn := fun _ => fun
  | [d1, d2, d3, d4, d5, d6, d7, d8, d9] => { results := [.lit (.bool true)], args := [d1, d2, d3, d4, d5, d6, d7, d8, d9] }
  | _ => none }
def fnCompareTransitiveRow : OpenClaim := { program := "qxb6601031a", sum := "c84a8406f0e65c8d7c84505828536d767545dbc2957d1e2c11902711b43a175e", func := "example.com/ballast/ballast/zzlaws_pkg_market_b1.FnCompareTransitive", spec := "fnCompareTransitive", inPlace := ["internal/bytealg.abigen_runtime_cmpstring"], apart := false }
def FnCompareTransitiveSaid : Prop := fnCompareTransitiveRow.holds Try.pinned (OpenSpec.ofChange fnCompareTransitiveSpec)

/-- ITS FALSE NEIGHBOUR: 'it returns false'. Refute it at one input. -/
def fnCompareTransitiveWrong : ChangeSpec := { name := "fnCompareTransitive", fn := fun _ => fun
  | [d1, d2, d3, d4, d5, d6, d7, d8, d9] => { results := [.lit (.bool false)], args := [d1, d2, d3, d4, d5, d6, d7, d8, d9] }
  | _ => none }
def FnCompareTransitiveWrongFalsely : Prop := fnCompareTransitiveRow.holds Try.pinned (OpenSpec.ofChange fnCompareTransitiveWrong)

end Rows
end Go.Proofs.Qxb6601031a
