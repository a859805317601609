/-
  No cell of these rows narrows 'for every input' (looked for: loops, veiled, ifaces, maps, wideKeys, modest, calm, conditions, laid).
  DERIVED. THE GIVEN ROWS OF THIS SEAT. 2 by the template 'for every input the law returns true; each argument reads behind the call as it read before'; 0 by the template 'total and deterministic' (their statements: Qxb6619418aTotals.lean).
  GIVEN WITH THE SEED: the statements are not yours to turn. If you find one false, say at which input.
  Laid BY PROGRAM, IN A SANDBOX (cutbox-rows.mjs): the forced cells as the released guide's own fill.sh prints them over the translation e60df9c8d165f98e… (all of the seat's roots in one cut). By AI agents, Wed Nov 11 2026. No macro, syntax, notation, axiom, sorry.
-/
import Derived.Test.Qxb6619418aChecked
import GoSem.Claim
import GoSem.ClaimJoined
import GoSem.ClaimMapViews
import Derived.JoinedTies
import Derived.KernelRfl
namespace Go.Proofs.Qxb6619418a
/- THE CELL 'sum', in the pinned program and in every row, IS THE sha256 OF THE DUMP (.gsa) THAT Qxb6619418aProg.lean LOADS. Nothing in Lean hashes anything: it is a label: what it is worth is what the hold of that sum in a sandbox is worth. -/
noncomputable def Try.pinned : Pinned := { name := "qxb6619418a", sum := "e60df9c8d165f98eaf534cc2a7a2de8cfffccc13f52ce71eb3134f6dbed0b99f", checked := Try.checked }
namespace Rows
def none {H : Type} : Left H := { results := [], args := [] }

/-- 'zzlaws_root_b1.FnHuffmanSubTablesDecodeAsFlat': WHATEVER THE INPUT: true; the input reads as it did. -/
def fnHuffmanSubTablesDecodeAsFlatSpec : ChangeSpec := { name := "fnHuffmanSubTablesDecodeAsFlat", fn := fun _ => fun
  | [d1, d2, d3, d4] => { results := [.lit (.bool true)], args := [d1, d2, d3, d4] }
  | _ => none }
def fnHuffmanSubTablesDecodeAsFlatRow : OpenClaim := { program := "qxb6619418a", sum := "e60df9c8d165f98eaf534cc2a7a2de8cfffccc13f52ce71eb3134f6dbed0b99f", func := "example.com/treestack/treestack/zzlaws_root_b1.FnHuffmanSubTablesDecodeAsFlat", spec := "fnHuffmanSubTablesDecodeAsFlat", apart := false }
def FnHuffmanSubTablesDecodeAsFlatSaid : Prop := fnHuffmanSubTablesDecodeAsFlatRow.holds Try.pinned (OpenSpec.ofChange fnHuffmanSubTablesDecodeAsFlatSpec)

/-- ITS FALSE NEIGHBOUR: 'it returns false'. Refute it at one input. -/
def fnHuffmanSubTablesDecodeAsFlatWrong : ChangeSpec := { name := "fnHuffmanSubTablesDecodeAsFlat", fn := fun _ => fun
  | [d1, d2, d3, d4] => { results := [.lit (.bool false)], args := [d1, d2, d3, d4] }
  | _ => none }
def FnHuffmanSubTablesDecodeAsFlatWrongFalsely : Prop := fnHuffmanSubTablesDecodeAsFlatRow.holds Try.pinned (OpenSpec.ofChange fnHuffmanSubTablesDecodeAsFlatWrong)

/-- 'zzlaws_root_b1.FnPlatformStringSplitsBackIntoFields': WHATEVER THE INPUT: true; the input reads as it did. -/
def fnPlatformStringSplitsBackIntoFieldsSpec : ChangeSpec := { name := "fnPlatformStringSplitsBackIntoFields", fn := fun _ => fun
  | [d1, d2, d3] => { results := [.lit (.bool true)], args := [d1, d2, d3] }
  | _ => none }
def fnPlatformStringSplitsBackIntoFieldsRow : OpenClaim := { program := "qxb6619418a", sum := "e60df9c8d165f98eaf534cc2a7a2de8cfffccc13f52ce71eb3134f6dbed0b99f", func := "example.com/treestack/treestack/zzlaws_root_b1.FnPlatformStringSplitsBackIntoFields", spec := "fnPlatformStringSplitsBackIntoFields", apart := false }
def FnPlatformStringSplitsBackIntoFieldsSaid : Prop := fnPlatformStringSplitsBackIntoFieldsRow.holds Try.pinned (OpenSpec.ofChange fnPlatformStringSplitsBackIntoFieldsSpec)

/-- ITS FALSE NEIGHBOUR: 'it returns false'. Refute it at one input. -/
def fnPlatformStringSplitsBackIntoFieldsWrong : ChangeSpec := { name := "fnPlatformStringSplitsBackIntoFields", fn := fun _ => fun
  | [d1, d2, d3] => { results := [.lit (.bool false)], args := [d1, d2, d3] }
  | _ => none }
def FnPlatformStringSplitsBackIntoFieldsWrongFalsely : Prop := fnPlatformStringSplitsBackIntoFieldsRow.holds Try.pinned (OpenSpec.ofChange fnPlatformStringSplitsBackIntoFieldsWrong)

end Rows
end Go.Proofs.Qxb6619418a
