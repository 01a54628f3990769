/-
  No cell of these rows narrows 'for every input' (looked for: loops, veiled, ifaces, maps, wideKeys, modest, calm, conditions, laid).
  DERIVED. THE GIVEN ROWS OF THIS SEAT. 5 by the template 'for every input the law returns true; each argument reads behind the call as it read before'; 0 by the template 'total and deterministic' (their statements: Qxb6601953aTotals.lean).
  GIVEN WITH THE SEED: the statements are not yours to turn. If you find one false, say at which input.
  Laid BY PROGRAM, IN A SANDBOX (cutbox-rows.mjs): the forced cells as the released guide's own fill.sh prints them over the translation 1c3d1b7c79b1b2c5… (all of the seat's roots in one cut). By AI agents, Wed Nov 11 2026. No macro, syntax, notation, axiom, sorry.
-/
import Derived.Test.Qxb6601953aChecked
import GoSem.Claim
import GoSem.ClaimJoined
import GoSem.ClaimMapViews
import Derived.JoinedTies
import Derived.KernelRfl
namespace Go.Proofs.Qxb6601953a
/- THE CELL 'sum', in the pinned program and in every row, IS THE sha256 OF THE DUMP (.gsa) THAT Qxb6601953aProg.lean LOADS. Nothing in Lean hashes anything: it is a label: what it is worth is what the hold of that sum in a sandbox is worth. -/
noncomputable def Try.pinned : Pinned := { name := "qxb6601953a", sum := "1c3d1b7c79b1b2c56fbe35c38ccc9f7f94f9b5601b5778f1c04bd405cf3b0090", checked := Try.checked }
namespace Rows
def none {H : Type} : Left H := { results := [], args := [] }

/-- 'zzlaws_sgsap_b1.FnTMSIRoundTrip': WHATEVER THE INPUT: true; the input reads as it did. -/
def fnTMSIRoundTripSpec : ChangeSpec := { name := "fnTMSIRoundTrip", fn := fun _ => fun
  | [d1, d2] => { results := [.lit (.bool true)], args := [d1, d2] }
  | _ => none }
def fnTMSIRoundTripRow : OpenClaim := { program := "qxb6601953a", sum := "1c3d1b7c79b1b2c56fbe35c38ccc9f7f94f9b5601b5778f1c04bd405cf3b0090", func := "example.com/stepdown/stepdown/zzlaws_sgsap_b1.FnTMSIRoundTrip", spec := "fnTMSIRoundTrip", apart := false }
def FnTMSIRoundTripSaid : Prop := fnTMSIRoundTripRow.holds Try.pinned (OpenSpec.ofChange fnTMSIRoundTripSpec)

/-- ITS FALSE NEIGHBOUR: 'it returns false'. Refute it at one input. -/
def fnTMSIRoundTripWrong : ChangeSpec := { name := "fnTMSIRoundTrip", fn := fun _ => fun
  | [d1, d2] => { results := [.lit (.bool false)], args := [d1, d2] }
  | _ => none }
def FnTMSIRoundTripWrongFalsely : Prop := fnTMSIRoundTripRow.holds Try.pinned (OpenSpec.ofChange fnTMSIRoundTripWrong)

/-- 'zzlaws_sgsap_b1.FnTMSIShares': WHATEVER THE INPUT: true; the input reads as it did. -/
def fnTMSISharesSpec : ChangeSpec := { name := "fnTMSIShares", fn := fun _ => fun
  | [d1, d2] => { results := [.lit (.bool true)], args := [d1, d2] }
  | _ => none }
def fnTMSISharesRow : OpenClaim := { program := "qxb6601953a", sum := "1c3d1b7c79b1b2c56fbe35c38ccc9f7f94f9b5601b5778f1c04bd405cf3b0090", func := "example.com/stepdown/stepdown/zzlaws_sgsap_b1.FnTMSIShares", spec := "fnTMSIShares", apart := false }
def FnTMSISharesSaid : Prop := fnTMSISharesRow.holds Try.pinned (OpenSpec.ofChange fnTMSISharesSpec)

/-- ITS FALSE NEIGHBOUR: 'it returns false'. Refute it at one input. -/
def fnTMSISharesWrong : ChangeSpec := { name := "fnTMSIShares", fn := fun _ => fun
  | [d1, d2] => { results := [.lit (.bool false)], args := [d1, d2] }
  | _ => none }
def FnTMSISharesWrongFalsely : Prop := fnTMSISharesRow.holds Try.pinned (OpenSpec.ofChange fnTMSISharesWrong)

/-- 'zzlaws_sgsap_b1.FnAppendNameLabels': WHATEVER THE INPUT: true; the input reads as it did. -/
def fnAppendNameLabelsSpec : ChangeSpec := { name := "fnAppendNameLabels", fn := fun _ => fun
  | [d1, d2] => { results := [.lit (.bool true)], args := [d1, d2] }
  | _ => none }
def fnAppendNameLabelsRow : OpenClaim := { program := "qxb6601953a", sum := "1c3d1b7c79b1b2c56fbe35c38ccc9f7f94f9b5601b5778f1c04bd405cf3b0090", func := "example.com/stepdown/stepdown/zzlaws_sgsap_b1.FnAppendNameLabels", spec := "fnAppendNameLabels", apart := false }
def FnAppendNameLabelsSaid : Prop := fnAppendNameLabelsRow.holds Try.pinned (OpenSpec.ofChange fnAppendNameLabelsSpec)

/-- ITS FALSE NEIGHBOUR: 'it returns false'. Refute it at one input. -/
def fnAppendNameLabelsWrong : ChangeSpec := { name := "fnAppendNameLabels", fn := fun _ => fun
  | [d1, d2] => { results := [.lit (.bool false)], args := [d1, d2] }
  | _ => none }
def FnAppendNameLabelsWrongFalsely : Prop := fnAppendNameLabelsRow.holds Try.pinned (OpenSpec.ofChange fnAppendNameLabelsWrong)

/-- 'zzlaws_sgsap_b1.FnIEListIEShift': WHATEVER THE INPUT: true; the input reads as it did. -/
def fnIEListIEShiftSpec : ChangeSpec := { name := "fnIEListIEShift", fn := fun _ => fun
  | [d1, d2] => { results := [.lit (.bool true)], args := [d1, d2] }
  | _ => none }
def fnIEListIEShiftRow : OpenClaim := { program := "qxb6601953a", sum := "1c3d1b7c79b1b2c56fbe35c38ccc9f7f94f9b5601b5778f1c04bd405cf3b0090", func := "example.com/stepdown/stepdown/zzlaws_sgsap_b1.FnIEListIEShift", spec := "fnIEListIEShift", apart := false }
def FnIEListIEShiftSaid : Prop := fnIEListIEShiftRow.holds Try.pinned (OpenSpec.ofChange fnIEListIEShiftSpec)

/-- ITS FALSE NEIGHBOUR: 'it returns false'. Refute it at one input. -/
def fnIEListIEShiftWrong : ChangeSpec := { name := "fnIEListIEShift", fn := fun _ => fun
  | [d1, d2] => { results := [.lit (.bool false)], args := [d1, d2] }
  | _ => none }
def FnIEListIEShiftWrongFalsely : Prop := fnIEListIEShiftRow.holds Try.pinned (OpenSpec.ofChange fnIEListIEShiftWrong)

/-- 'zzlaws_sgsap_b1.FnIEListIEWindow': WHATEVER THE INPUT: true; the input reads as it did. -/
def fnIEListIEWindowSpec : ChangeSpec := { name := "fnIEListIEWindow", fn := fun _ => fun
  | [d1, d2] => { results := [.lit (.bool true)], args := [d1, d2] }
  | _ => none }
def fnIEListIEWindowRow : OpenClaim := { program := "qxb6601953a", sum := "1c3d1b7c79b1b2c56fbe35c38ccc9f7f94f9b5601b5778f1c04bd405cf3b0090", func := "example.com/stepdown/stepdown/zzlaws_sgsap_b1.FnIEListIEWindow", spec := "fnIEListIEWindow", apart := false }
def FnIEListIEWindowSaid : Prop := fnIEListIEWindowRow.holds Try.pinned (OpenSpec.ofChange fnIEListIEWindowSpec)

/-- ITS FALSE NEIGHBOUR: 'it returns false'. Refute it at one input. -/
def fnIEListIEWindowWrong : ChangeSpec := { name := "fnIEListIEWindow", fn := fun _ => fun
  | [d1, d2] => { results := [.lit (.bool false)], args := [d1, d2] }
  | _ => none }
def FnIEListIEWindowWrongFalsely : Prop := fnIEListIEWindowRow.holds Try.pinned (OpenSpec.ofChange fnIEListIEWindowWrong)

end Rows
end Go.Proofs.Qxb6601953a
