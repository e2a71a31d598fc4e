/-
  No cell of these rows narrows 'for every input' (looked for: loops, veiled, ifaces, maps, wideKeys, modest, calm, conditions, laid).
  DERIVED. THE GIVEN ROWS OF THIS SEAT. 2 by the template 'for every input the law returns true; each argument reads behind the call as it read before'; 0 by the template 'total and deterministic' (their statements: Qxb6604643aTotals.lean).
  GIVEN WITH THE SEED: the statements are not yours to turn. If you find one false, say at which input.
  Laid BY PROGRAM, IN A SANDBOX (cutbox-rows.mjs): the forced cells as the released guide's own fill.sh prints them over the translation 01d82569de93d1da… (all of the seat's roots in one cut). By AI agents, Wed Nov 11 2026. No macro, syntax, notation, axiom, sorry.
-/
import Derived.Test.Qxb6604643aChecked
import GoSem.Claim
import GoSem.ClaimJoined
import GoSem.ClaimMapViews
import Derived.JoinedTies
import Derived.KernelRfl
namespace Go.Proofs.Qxb6604643a
/- THE CELL 'sum', in the pinned program and in every row, IS THE sha256 OF THE DUMP (.gsa) THAT Qxb6604643aProg.lean LOADS. Nothing in Lean hashes anything: it is a label: what it is worth is what the hold of that sum in a sandbox is worth. -/
noncomputable def Try.pinned : Pinned := { name := "qxb6604643a", sum := "01d82569de93d1da041b7882e8433f9ed205fc90bb8226804efe79f69c6d093a", checked := Try.checked }
namespace Rows
def none {H : Type} : Left H := { results := [], args := [] }

/-- 'zzlaws_root_b1.FnRecordTypeIndexFindsFirstField': WHATEVER THE INPUT: true; the input reads as it did. -/
def fnRecordTypeIndexFindsFirstFieldSpec : ChangeSpec := { name := "fnRecordTypeIndexFindsFirstField", fn := fun _ => fun
  | [d1, d2, d3] => { results := [.lit (.bool true)], args := [d1, d2, d3] }
  | _ => none }
def fnRecordTypeIndexFindsFirstFieldRow : OpenClaim := { program := "qxb6604643a", sum := "01d82569de93d1da041b7882e8433f9ed205fc90bb8226804efe79f69c6d093a", func := "example.com/typewire/typewire/zzlaws_root_b1.FnRecordTypeIndexFindsFirstField", spec := "fnRecordTypeIndexFindsFirstField", apart := false }
def FnRecordTypeIndexFindsFirstFieldSaid : Prop := fnRecordTypeIndexFindsFirstFieldRow.holds Try.pinned (OpenSpec.ofChange fnRecordTypeIndexFindsFirstFieldSpec)

/-- ITS FALSE NEIGHBOUR: 'it returns false'. Refute it at one input. -/
def fnRecordTypeIndexFindsFirstFieldWrong : ChangeSpec := { name := "fnRecordTypeIndexFindsFirstField", fn := fun _ => fun
  | [d1, d2, d3] => { results := [.lit (.bool false)], args := [d1, d2, d3] }
  | _ => none }
def FnRecordTypeIndexFindsFirstFieldWrongFalsely : Prop := fnRecordTypeIndexFindsFirstFieldRow.holds Try.pinned (OpenSpec.ofChange fnRecordTypeIndexFindsFirstFieldWrong)

/-- 'zzlaws_root_b1.FnRecordTypeIndexAfterAddingField': WHATEVER THE INPUT: true; the input reads as it did. -/
def fnRecordTypeIndexAfterAddingFieldSpec : ChangeSpec := { name := "fnRecordTypeIndexAfterAddingField", fn := fun _ => fun
  | [d1, d2, d3] => { results := [.lit (.bool true)], args := [d1, d2, d3] }
  | _ => none }
def fnRecordTypeIndexAfterAddingFieldRow : OpenClaim := { program := "qxb6604643a", sum := "01d82569de93d1da041b7882e8433f9ed205fc90bb8226804efe79f69c6d093a", func := "example.com/typewire/typewire/zzlaws_root_b1.FnRecordTypeIndexAfterAddingField", spec := "fnRecordTypeIndexAfterAddingField", apart := false }
def FnRecordTypeIndexAfterAddingFieldSaid : Prop := fnRecordTypeIndexAfterAddingFieldRow.holds Try.pinned (OpenSpec.ofChange fnRecordTypeIndexAfterAddingFieldSpec)

/-- ITS FALSE NEIGHBOUR: 'it returns false'. Refute it at one input. -/
def fnRecordTypeIndexAfterAddingFieldWrong : ChangeSpec := { name := "fnRecordTypeIndexAfterAddingField", fn := fun _ => fun
  | [d1, d2, d3] => { results := [.lit (.bool false)], args := [d1, d2, d3] }
  | _ => none }
def FnRecordTypeIndexAfterAddingFieldWrongFalsely : Prop := fnRecordTypeIndexAfterAddingFieldRow.holds Try.pinned (OpenSpec.ofChange fnRecordTypeIndexAfterAddingFieldWrong)

end Rows
end Go.Proofs.Qxb6604643a
