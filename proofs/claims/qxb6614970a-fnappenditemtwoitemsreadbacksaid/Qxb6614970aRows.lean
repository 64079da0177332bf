/-
  No cell of these rows narrows 'for every input' (looked for: loops, veiled, ifaces, maps, wideKeys, modest, calm, conditions, laid).
  DERIVED. THE GIVEN ROWS OF THIS SEAT. 4 by the template 'for every input the law returns true; each argument reads behind the call as it read before'; 0 by the template 'total and deterministic' (their statements: Qxb6614970aTotals.lean).
  GIVEN WITH THE SEED: the statements are not yours to turn. If you find one false, say at which input.
  Laid BY PROGRAM, IN A SANDBOX (cutbox-rows.mjs): the forced cells as the released guide's own fill.sh prints them over the translation d8c586585bd1ca6a… (all of the seat's roots in one cut). By AI agents, Wed Nov 11 2026. No macro, syntax, notation, axiom, sorry.
-/
import Derived.Test.Qxb6614970aChecked
import GoSem.Claim
import GoSem.ClaimJoined
import GoSem.ClaimMapViews
import Derived.JoinedTies
import Derived.KernelRfl
namespace Go.Proofs.Qxb6614970a
/- THE CELL 'sum', in the pinned program and in every row, IS THE sha256 OF THE DUMP (.gsa) THAT Qxb6614970aProg.lean LOADS. Nothing in Lean hashes anything: it is a label: what it is worth is what the hold of that sum in a sandbox is worth. -/
noncomputable def Try.pinned : Pinned := { name := "qxb6614970a", sum := "d8c586585bd1ca6ac6e30567a384034096e00f4b3f3095c7dd699884c6b1d178", checked := Try.checked }
namespace Rows
def none {H : Type} : Left H := { results := [], args := [] }

/-- 'zzlaws_pkg_wire_b1.FnAppendItemHeaderAppendsThreeBytes': WHATEVER THE INPUT: true; the input reads as it did. -/
def fnAppendItemHeaderAppendsThreeBytesSpec : ChangeSpec := { name := "fnAppendItemHeaderAppendsThreeBytes", fn := fun _ => fun
  | [d1, d2, d3] => { results := [.lit (.bool true)], args := [d1, d2, d3] }
  | _ => none }
def fnAppendItemHeaderAppendsThreeBytesRow : OpenClaim := { program := "qxb6614970a", sum := "d8c586585bd1ca6ac6e30567a384034096e00f4b3f3095c7dd699884c6b1d178", func := "example.com/keywarden/keywarden/zzlaws_pkg_wire_b1.FnAppendItemHeaderAppendsThreeBytes", spec := "fnAppendItemHeaderAppendsThreeBytes", named := ["encoding/binary.BigEndian"], apart := false }
def FnAppendItemHeaderAppendsThreeBytesSaid : Prop := fnAppendItemHeaderAppendsThreeBytesRow.holds Try.pinned (OpenSpec.ofChange fnAppendItemHeaderAppendsThreeBytesSpec)

/-- ITS FALSE NEIGHBOUR: 'it returns false'. Refute it at one input. -/
def fnAppendItemHeaderAppendsThreeBytesWrong : ChangeSpec := { name := "fnAppendItemHeaderAppendsThreeBytes", fn := fun _ => fun
  | [d1, d2, d3] => { results := [.lit (.bool false)], args := [d1, d2, d3] }
  | _ => none }
def FnAppendItemHeaderAppendsThreeBytesWrongFalsely : Prop := fnAppendItemHeaderAppendsThreeBytesRow.holds Try.pinned (OpenSpec.ofChange fnAppendItemHeaderAppendsThreeBytesWrong)

/-- 'zzlaws_pkg_wire_b1.FnAppendItemHeaderOrdersAsPair': WHATEVER THE INPUT: true; the input reads as it did. -/
def fnAppendItemHeaderOrdersAsPairSpec : ChangeSpec := { name := "fnAppendItemHeaderOrdersAsPair", fn := fun _ => fun
  | [d1, d2, d3, d4] => { results := [.lit (.bool true)], args := [d1, d2, d3, d4] }
  | _ => none }
def fnAppendItemHeaderOrdersAsPairRow : OpenClaim := { program := "qxb6614970a", sum := "d8c586585bd1ca6ac6e30567a384034096e00f4b3f3095c7dd699884c6b1d178", func := "example.com/keywarden/keywarden/zzlaws_pkg_wire_b1.FnAppendItemHeaderOrdersAsPair", spec := "fnAppendItemHeaderOrdersAsPair", named := ["encoding/binary.BigEndian"], apart := false }
def FnAppendItemHeaderOrdersAsPairSaid : Prop := fnAppendItemHeaderOrdersAsPairRow.holds Try.pinned (OpenSpec.ofChange fnAppendItemHeaderOrdersAsPairSpec)

/-- ITS FALSE NEIGHBOUR: 'it returns false'. Refute it at one input. -/
def fnAppendItemHeaderOrdersAsPairWrong : ChangeSpec := { name := "fnAppendItemHeaderOrdersAsPair", fn := fun _ => fun
  | [d1, d2, d3, d4] => { results := [.lit (.bool false)], args := [d1, d2, d3, d4] }
  | _ => none }
def FnAppendItemHeaderOrdersAsPairWrongFalsely : Prop := fnAppendItemHeaderOrdersAsPairRow.holds Try.pinned (OpenSpec.ofChange fnAppendItemHeaderOrdersAsPairWrong)

/-- 'zzlaws_pkg_wire_b1.FnAppendItemTwoItemsReadBack': WHATEVER THE INPUT: true; the input reads as it did. -/
def fnAppendItemTwoItemsReadBackSpec : ChangeSpec := { name := "fnAppendItemTwoItemsReadBack", fn := fun _ => fun
  | [d1, d2, d3, d4, d5] => { results := [.lit (.bool true)], args := [d1, d2, d3, d4, d5] }
  | _ => none }
def fnAppendItemTwoItemsReadBackRow : OpenClaim := { program := "qxb6614970a", sum := "d8c586585bd1ca6ac6e30567a384034096e00f4b3f3095c7dd699884c6b1d178", func := "example.com/keywarden/keywarden/zzlaws_pkg_wire_b1.FnAppendItemTwoItemsReadBack", spec := "fnAppendItemTwoItemsReadBack", named := ["encoding/binary.BigEndian"], apart := false }
def FnAppendItemTwoItemsReadBackSaid : Prop := fnAppendItemTwoItemsReadBackRow.holds Try.pinned (OpenSpec.ofChange fnAppendItemTwoItemsReadBackSpec)

/-- ITS FALSE NEIGHBOUR: 'it returns false'. Refute it at one input. -/
def fnAppendItemTwoItemsReadBackWrong : ChangeSpec := { name := "fnAppendItemTwoItemsReadBack", fn := fun _ => fun
  | [d1, d2, d3, d4, d5] => { results := [.lit (.bool false)], args := [d1, d2, d3, d4, d5] }
  | _ => none }
def FnAppendItemTwoItemsReadBackWrongFalsely : Prop := fnAppendItemTwoItemsReadBackRow.holds Try.pinned (OpenSpec.ofChange fnAppendItemTwoItemsReadBackWrong)

/-- 'zzlaws_pkg_wire_b1.FnAppendItemSelfDelimiting': WHATEVER THE INPUT: true; the input reads as it did. -/
def fnAppendItemSelfDelimitingSpec : ChangeSpec := { name := "fnAppendItemSelfDelimiting", fn := fun _ => fun
  | [d1, d2, d3, d4] => { results := [.lit (.bool true)], args := [d1, d2, d3, d4] }
  | _ => none }
def fnAppendItemSelfDelimitingRow : OpenClaim := { program := "qxb6614970a", sum := "d8c586585bd1ca6ac6e30567a384034096e00f4b3f3095c7dd699884c6b1d178", func := "example.com/keywarden/keywarden/zzlaws_pkg_wire_b1.FnAppendItemSelfDelimiting", spec := "fnAppendItemSelfDelimiting", named := ["encoding/binary.BigEndian"], apart := false }
def FnAppendItemSelfDelimitingSaid : Prop := fnAppendItemSelfDelimitingRow.holds Try.pinned (OpenSpec.ofChange fnAppendItemSelfDelimitingSpec)

/-- ITS FALSE NEIGHBOUR: 'it returns false'. Refute it at one input. -/
def fnAppendItemSelfDelimitingWrong : ChangeSpec := { name := "fnAppendItemSelfDelimiting", fn := fun _ => fun
  | [d1, d2, d3, d4] => { results := [.lit (.bool false)], args := [d1, d2, d3, d4] }
  | _ => none }
def FnAppendItemSelfDelimitingWrongFalsely : Prop := fnAppendItemSelfDelimitingRow.holds Try.pinned (OpenSpec.ofChange fnAppendItemSelfDelimitingWrong)

end Rows
end Go.Proofs.Qxb6614970a
