/-
  No cell of these rows narrows 'for every input' (looked for: loops, veiled, ifaces, maps, wideKeys, modest, calm, conditions, laid).
  DERIVED. THE GIVEN ROWS OF THIS SEAT. 4 by the template 'for every input the law returns true; each argument reads behind the call as it read before'; 0 by the template 'total and deterministic' (their statements: Qxb6600965aTotals.lean).
  GIVEN WITH THE SEED: the statements are not yours to turn. If you find one false, say at which input.
  Laid BY PROGRAM, IN A SANDBOX (cutbox-rows.mjs): the forced cells as the released guide's own fill.sh prints them over the translation aa7a76c30a71a4d8… (all of the seat's roots in one cut). By AI agents, Wed Nov 11 2026. No macro, syntax, notation, axiom, sorry.
-/
import Derived.Test.Qxb6600965aChecked
import GoSem.Claim
import GoSem.ClaimJoined
import GoSem.ClaimMapViews
import Derived.JoinedTies
import Derived.KernelRfl
namespace Go.Proofs.Qxb6600965a
/- THE CELL 'sum', in the pinned program and in every row, IS THE sha256 OF THE DUMP (.gsa) THAT Qxb6600965aProg.lean LOADS. Nothing in Lean hashes anything: it is a label: what it is worth is what the hold of that sum in a sandbox is worth. -/
noncomputable def Try.pinned : Pinned := { name := "qxb6600965a", sum := "aa7a76c30a71a4d87fcd7e23a53cffdd139db95fb992f5b68dab3e6eeeed3681", checked := Try.checked }
namespace Rows
def none {H : Type} : Left H := { results := [], args := [] }

/-- 'zzlaws_pkg_rfc3339_b1.FnNumberPositionalModel': WHATEVER THE INPUT: true; the input reads as it did. -/
def fnNumberPositionalModelSpec : ChangeSpec := { name := "fnNumberPositionalModel", fn := fun _ => fun
  | [d1, d2, d3] => { results := [.lit (.bool true)], args := [d1, d2, d3] }
  | _ => none }
def fnNumberPositionalModelRow : OpenClaim := { program := "qxb6600965a", sum := "aa7a76c30a71a4d87fcd7e23a53cffdd139db95fb992f5b68dab3e6eeeed3681", func := "example.com/countersign/countersign/zzlaws_pkg_rfc3339_b1.FnNumberPositionalModel", spec := "fnNumberPositionalModel", apart := false }
def FnNumberPositionalModelSaid : Prop := fnNumberPositionalModelRow.holds Try.pinned (OpenSpec.ofChange fnNumberPositionalModelSpec)

/-- ITS FALSE NEIGHBOUR: 'it returns false'. Refute it at one input. -/
def fnNumberPositionalModelWrong : ChangeSpec := { name := "fnNumberPositionalModel", fn := fun _ => fun
  | [d1, d2, d3] => { results := [.lit (.bool false)], args := [d1, d2, d3] }
  | _ => none }
def FnNumberPositionalModelWrongFalsely : Prop := fnNumberPositionalModelRow.holds Try.pinned (OpenSpec.ofChange fnNumberPositionalModelWrong)

/-- 'zzlaws_pkg_rfc3339_b1.FnNumberReadsItsDecimal': WHATEVER THE INPUT: true; the input reads as it did. -/
def fnNumberReadsItsDecimalSpec : ChangeSpec := { name := "fnNumberReadsItsDecimal", fn := fun _ => fun
  | [d1, d2] => { results := [.lit (.bool true)], args := [d1, d2] }
  | _ => none }
def fnNumberReadsItsDecimalRow : OpenClaim := { program := "qxb6600965a", sum := "aa7a76c30a71a4d87fcd7e23a53cffdd139db95fb992f5b68dab3e6eeeed3681", func := "example.com/countersign/countersign/zzlaws_pkg_rfc3339_b1.FnNumberReadsItsDecimal", spec := "fnNumberReadsItsDecimal", apart := false }
def FnNumberReadsItsDecimalSaid : Prop := fnNumberReadsItsDecimalRow.holds Try.pinned (OpenSpec.ofChange fnNumberReadsItsDecimalSpec)

/-- ITS FALSE NEIGHBOUR: 'it returns false'. Refute it at one input. -/
def fnNumberReadsItsDecimalWrong : ChangeSpec := { name := "fnNumberReadsItsDecimal", fn := fun _ => fun
  | [d1, d2] => { results := [.lit (.bool false)], args := [d1, d2] }
  | _ => none }
def FnNumberReadsItsDecimalWrongFalsely : Prop := fnNumberReadsItsDecimalRow.holds Try.pinned (OpenSpec.ofChange fnNumberReadsItsDecimalWrong)

/-- 'zzlaws_pkg_rfc3339_b1.FnReadFractionModel': WHATEVER THE INPUT: true; the input reads as it did. -/
def fnReadFractionModelSpec : ChangeSpec := { name := "fnReadFractionModel", fn := fun _ => fun
  | [d] => { results := [.lit (.bool true)], args := [d] }
  | _ => none }
def fnReadFractionModelRow : OpenClaim := { program := "qxb6600965a", sum := "aa7a76c30a71a4d87fcd7e23a53cffdd139db95fb992f5b68dab3e6eeeed3681", func := "example.com/countersign/countersign/zzlaws_pkg_rfc3339_b1.FnReadFractionModel", spec := "fnReadFractionModel", apart := false }
def FnReadFractionModelSaid : Prop := fnReadFractionModelRow.holds Try.pinned (OpenSpec.ofChange fnReadFractionModelSpec)

/-- ITS FALSE NEIGHBOUR: 'it returns false'. Refute it at one input. -/
def fnReadFractionModelWrong : ChangeSpec := { name := "fnReadFractionModel", fn := fun _ => fun
  | [d] => { results := [.lit (.bool false)], args := [d] }
  | _ => none }
def FnReadFractionModelWrongFalsely : Prop := fnReadFractionModelRow.holds Try.pinned (OpenSpec.ofChange fnReadFractionModelWrong)

/-- 'zzlaws_pkg_rfc3339_b1.FnReadFractionRoundTrip': WHATEVER THE INPUT: true; the input reads as it did. -/
def fnReadFractionRoundTripSpec : ChangeSpec := { name := "fnReadFractionRoundTrip", fn := fun _ => fun
  | [d1, d2, d3] => { results := [.lit (.bool true)], args := [d1, d2, d3] }
  | _ => none }
def fnReadFractionRoundTripRow : OpenClaim := { program := "qxb6600965a", sum := "aa7a76c30a71a4d87fcd7e23a53cffdd139db95fb992f5b68dab3e6eeeed3681", func := "example.com/countersign/countersign/zzlaws_pkg_rfc3339_b1.FnReadFractionRoundTrip", spec := "fnReadFractionRoundTrip", apart := false }
def FnReadFractionRoundTripSaid : Prop := fnReadFractionRoundTripRow.holds Try.pinned (OpenSpec.ofChange fnReadFractionRoundTripSpec)

/-- ITS FALSE NEIGHBOUR: 'it returns false'. Refute it at one input. -/
def fnReadFractionRoundTripWrong : ChangeSpec := { name := "fnReadFractionRoundTrip", fn := fun _ => fun
  | [d1, d2, d3] => { results := [.lit (.bool false)], args := [d1, d2, d3] }
  | _ => none }
def FnReadFractionRoundTripWrongFalsely : Prop := fnReadFractionRoundTripRow.holds Try.pinned (OpenSpec.ofChange fnReadFractionRoundTripWrong)

end Rows
end Go.Proofs.Qxb6600965a
