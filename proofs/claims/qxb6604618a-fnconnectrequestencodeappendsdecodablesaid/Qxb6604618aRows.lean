/-
  No cell of these rows narrows 'for every input' (looked for: loops, veiled, ifaces, maps, wideKeys, modest, calm, conditions, laid).
  DERIVED. THE GIVEN ROWS OF THIS SEAT. 3 by the template 'for every input the law returns true; each argument reads behind the call as it read before'; 0 by the template 'total and deterministic' (their statements: Qxb6604618aTotals.lean).
  GIVEN WITH THE SEED: the statements are not yours to turn. If you find one false, say at which input.
  Laid BY PROGRAM, IN A SANDBOX (cutbox-rows.mjs): the forced cells as the released guide's own fill.sh prints them over the translation 6d9fcb8836777ec9… (all of the seat's roots in one cut). By AI agents, Wed Nov 11 2026. No macro, syntax, notation, axiom, sorry.
-/
import Derived.Test.Qxb6604618aChecked
import GoSem.Claim
import GoSem.ClaimJoined
import GoSem.ClaimMapViews
import Derived.JoinedTies
import Derived.KernelRfl
namespace Go.Proofs.Qxb6604618a
/- THE CELL 'sum', in the pinned program and in every row, IS THE sha256 OF THE DUMP (.gsa) THAT Qxb6604618aProg.lean LOADS. Nothing in Lean hashes anything: it is a label: what it is worth is what the hold of that sum in a sandbox is worth. -/
noncomputable def Try.pinned : Pinned := { name := "qxb6604618a", sum := "6d9fcb8836777ec9ec70698fe0dbc5ee6b4cd0e7c95b34dfa7cc994575a0deef", checked := Try.checked }
namespace Rows
def none {H : Type} : Left H := { results := [], args := [] }

/-- 'zzlaws_internal_proto_b1.FnParseDigitsModel': WHATEVER THE INPUT: true; the input reads as it did. -/
def fnParseDigitsModelSpec : ChangeSpec := { name := "fnParseDigitsModel", fn := fun _ => fun
  | [d] => { results := [.lit (.bool true)], args := [d] }
  | _ => none }
def fnParseDigitsModelRow : OpenClaim := { program := "qxb6604618a", sum := "6d9fcb8836777ec9ec70698fe0dbc5ee6b4cd0e7c95b34dfa7cc994575a0deef", func := "example.com/latchwork/latchwork/zzlaws_internal_proto_b1.FnParseDigitsModel", spec := "fnParseDigitsModel", apart := false }
def FnParseDigitsModelSaid : Prop := fnParseDigitsModelRow.holds Try.pinned (OpenSpec.ofChange fnParseDigitsModelSpec)

/-- ITS FALSE NEIGHBOUR: 'it returns false'. Refute it at one input. -/
def fnParseDigitsModelWrong : ChangeSpec := { name := "fnParseDigitsModel", fn := fun _ => fun
  | [d] => { results := [.lit (.bool false)], args := [d] }
  | _ => none }
def FnParseDigitsModelWrongFalsely : Prop := fnParseDigitsModelRow.holds Try.pinned (OpenSpec.ofChange fnParseDigitsModelWrong)

/-- 'zzlaws_internal_proto_b1.FnParseDigitsReadsItoa': WHATEVER THE INPUT: true; the input reads as it did. -/
def fnParseDigitsReadsItoaSpec : ChangeSpec := { name := "fnParseDigitsReadsItoa", fn := fun _ => fun
  | [d1, d2] => { results := [.lit (.bool true)], args := [d1, d2] }
  | _ => none }
def fnParseDigitsReadsItoaRow : OpenClaim := { program := "qxb6604618a", sum := "6d9fcb8836777ec9ec70698fe0dbc5ee6b4cd0e7c95b34dfa7cc994575a0deef", func := "example.com/latchwork/latchwork/zzlaws_internal_proto_b1.FnParseDigitsReadsItoa", spec := "fnParseDigitsReadsItoa", apart := false }
def FnParseDigitsReadsItoaSaid : Prop := fnParseDigitsReadsItoaRow.holds Try.pinned (OpenSpec.ofChange fnParseDigitsReadsItoaSpec)

/-- ITS FALSE NEIGHBOUR: 'it returns false'. Refute it at one input. -/
def fnParseDigitsReadsItoaWrong : ChangeSpec := { name := "fnParseDigitsReadsItoa", fn := fun _ => fun
  | [d1, d2] => { results := [.lit (.bool false)], args := [d1, d2] }
  | _ => none }
def FnParseDigitsReadsItoaWrongFalsely : Prop := fnParseDigitsReadsItoaRow.holds Try.pinned (OpenSpec.ofChange fnParseDigitsReadsItoaWrong)

/-- 'zzlaws_internal_proto_b1.FnConnectRequestEncodeAppendsDecodable': WHATEVER THE INPUT: true; the input reads as it did. -/
def fnConnectRequestEncodeAppendsDecodableSpec : ChangeSpec := { name := "fnConnectRequestEncodeAppendsDecodable", fn := fun _ => fun
  | [d1, d2, d3, d4, d5, d6, d7] => { results := [.lit (.bool true)], args := [d1, d2, d3, d4, d5, d6, d7] }
  | _ => none }
def fnConnectRequestEncodeAppendsDecodableRow : OpenClaim := { program := "qxb6604618a", sum := "6d9fcb8836777ec9ec70698fe0dbc5ee6b4cd0e7c95b34dfa7cc994575a0deef", func := "example.com/latchwork/latchwork/zzlaws_internal_proto_b1.FnConnectRequestEncodeAppendsDecodable", spec := "fnConnectRequestEncodeAppendsDecodable", named := ["encoding/binary.BigEndian"], apart := false }
def FnConnectRequestEncodeAppendsDecodableSaid : Prop := fnConnectRequestEncodeAppendsDecodableRow.holds Try.pinned (OpenSpec.ofChange fnConnectRequestEncodeAppendsDecodableSpec)

/-- ITS FALSE NEIGHBOUR: 'it returns false'. Refute it at one input. -/
def fnConnectRequestEncodeAppendsDecodableWrong : ChangeSpec := { name := "fnConnectRequestEncodeAppendsDecodable", fn := fun _ => fun
  | [d1, d2, d3, d4, d5, d6, d7] => { results := [.lit (.bool false)], args := [d1, d2, d3, d4, d5, d6, d7] }
  | _ => none }
def FnConnectRequestEncodeAppendsDecodableWrongFalsely : Prop := fnConnectRequestEncodeAppendsDecodableRow.holds Try.pinned (OpenSpec.ofChange fnConnectRequestEncodeAppendsDecodableWrong)

end Rows
end Go.Proofs.Qxb6604618a
