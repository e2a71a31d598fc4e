/-
  No cell of these rows narrows 'for every input' (looked for: loops, veiled, ifaces, maps, wideKeys, modest, calm, conditions, laid).
  DERIVED. THE GIVEN ROWS OF THIS SEAT. 3 by the template 'for every input the law returns true; each argument reads behind the call as it read before'; 0 by the template 'total and deterministic' (their statements: Qxb6003309aTotals.lean).
  GIVEN WITH THE SEED: the statements are not yours to turn. If you find one false, say at which input.
  Laid BY PROGRAM, IN A SANDBOX (cutbox-rows.mjs): the forced cells as the released guide's own fill.sh prints them over the translation 84d5944a55e3917d… (all of the seat's roots in one cut). By AI agents, Wed Nov 11 2026. No macro, syntax, notation, axiom, sorry.
-/
import Derived.Test.Qxb6003309aChecked
import GoSem.Claim
import GoSem.ClaimJoined
import GoSem.ClaimMapViews
import Derived.JoinedTies
import Derived.KernelRfl
namespace Go.Proofs.Qxb6003309a
/- THE CELL 'sum', in the pinned program and in every row, IS THE sha256 OF THE DUMP (.gsa) THAT Qxb6003309aProg.lean LOADS. Nothing in Lean hashes anything: it is a label: what it is worth is what the hold of that sum in a sandbox is worth. -/
noncomputable def Try.pinned : Pinned := { name := "qxb6003309a", sum := "84d5944a55e3917d6840910f55592bd27ab4919aef0b61ed1c71248080069201", checked := Try.checked }
namespace Rows
def none {H : Type} : Left H := { results := [], args := [] }

/-- 'zzlaws_gtp_g2.FnUint8ElementRoundTrip': WHATEVER THE INPUT: true; the input reads as it did. -/
def fnUint8ElementRoundTripSpec : ChangeSpec := { name := "fnUint8ElementRoundTrip", fn := fun _ => fun
  | [d1, d2, d3] => { results := [.lit (.bool true)], args := [d1, d2, d3] }
  | _ => none }
def fnUint8ElementRoundTripRow : OpenClaim := { program := "qxb6003309a", sum := "84d5944a55e3917d6840910f55592bd27ab4919aef0b61ed1c71248080069201", func := "example.com/tunnelwright/tunnelwright/zzlaws_gtp_g2.FnUint8ElementRoundTrip", spec := "fnUint8ElementRoundTrip", apart := false }
def FnUint8ElementRoundTripSaid : Prop := fnUint8ElementRoundTripRow.holds Try.pinned (OpenSpec.ofChange fnUint8ElementRoundTripSpec)

/-- ITS FALSE NEIGHBOUR: 'it returns false'. Refute it at one input. -/
def fnUint8ElementRoundTripWrong : ChangeSpec := { name := "fnUint8ElementRoundTrip", fn := fun _ => fun
  | [d1, d2, d3] => { results := [.lit (.bool false)], args := [d1, d2, d3] }
  | _ => none }
def FnUint8ElementRoundTripWrongFalsely : Prop := fnUint8ElementRoundTripRow.holds Try.pinned (OpenSpec.ofChange fnUint8ElementRoundTripWrong)

/-- 'zzlaws_gtp_g2.FnNSAPIAgreesWithUint8': WHATEVER THE INPUT: true; the input reads as it did. -/
def fnNSAPIAgreesWithUint8Spec : ChangeSpec := { name := "fnNSAPIAgreesWithUint8", fn := fun _ => fun
  | [d1, d2] => { results := [.lit (.bool true)], args := [d1, d2] }
  | _ => none }
def fnNSAPIAgreesWithUint8Row : OpenClaim := { program := "qxb6003309a", sum := "84d5944a55e3917d6840910f55592bd27ab4919aef0b61ed1c71248080069201", func := "example.com/tunnelwright/tunnelwright/zzlaws_gtp_g2.FnNSAPIAgreesWithUint8", spec := "fnNSAPIAgreesWithUint8", apart := false }
def FnNSAPIAgreesWithUint8Said : Prop := fnNSAPIAgreesWithUint8Row.holds Try.pinned (OpenSpec.ofChange fnNSAPIAgreesWithUint8Spec)

/-- ITS FALSE NEIGHBOUR: 'it returns false'. Refute it at one input. -/
def fnNSAPIAgreesWithUint8Wrong : ChangeSpec := { name := "fnNSAPIAgreesWithUint8", fn := fun _ => fun
  | [d1, d2] => { results := [.lit (.bool false)], args := [d1, d2] }
  | _ => none }
def FnNSAPIAgreesWithUint8WrongFalsely : Prop := fnNSAPIAgreesWithUint8Row.holds Try.pinned (OpenSpec.ofChange fnNSAPIAgreesWithUint8Wrong)

/-- 'zzlaws_gtp_g2.FnVersionAndTypeReadOnlyTheirOctets': WHATEVER THE INPUT: true; the input reads as it did. -/
def fnVersionAndTypeReadOnlyTheirOctetsSpec : ChangeSpec := { name := "fnVersionAndTypeReadOnlyTheirOctets", fn := fun _ => fun
  | [d1, d2, d3] => { results := [.lit (.bool true)], args := [d1, d2, d3] }
  | _ => none }
def fnVersionAndTypeReadOnlyTheirOctetsRow : OpenClaim := { program := "qxb6003309a", sum := "84d5944a55e3917d6840910f55592bd27ab4919aef0b61ed1c71248080069201", func := "example.com/tunnelwright/tunnelwright/zzlaws_gtp_g2.FnVersionAndTypeReadOnlyTheirOctets", spec := "fnVersionAndTypeReadOnlyTheirOctets", apart := false }
def FnVersionAndTypeReadOnlyTheirOctetsSaid : Prop := fnVersionAndTypeReadOnlyTheirOctetsRow.holds Try.pinned (OpenSpec.ofChange fnVersionAndTypeReadOnlyTheirOctetsSpec)

/-- ITS FALSE NEIGHBOUR: 'it returns false'. Refute it at one input. -/
def fnVersionAndTypeReadOnlyTheirOctetsWrong : ChangeSpec := { name := "fnVersionAndTypeReadOnlyTheirOctets", fn := fun _ => fun
  | [d1, d2, d3] => { results := [.lit (.bool false)], args := [d1, d2, d3] }
  | _ => none }
def FnVersionAndTypeReadOnlyTheirOctetsWrongFalsely : Prop := fnVersionAndTypeReadOnlyTheirOctetsRow.holds Try.pinned (OpenSpec.ofChange fnVersionAndTypeReadOnlyTheirOctetsWrong)

end Rows
end Go.Proofs.Qxb6003309a
