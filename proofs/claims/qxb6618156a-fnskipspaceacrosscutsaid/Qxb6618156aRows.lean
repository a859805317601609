/-
  No cell of these rows narrows 'for every input' (looked for: loops, veiled, ifaces, maps, wideKeys, modest, calm, conditions, laid).
  DERIVED. THE GIVEN ROWS OF THIS SEAT. 2 by the template 'for every input the law returns true; each argument reads behind the call as it read before'; 0 by the template 'total and deterministic' (their statements: Qxb6618156aTotals.lean).
  GIVEN WITH THE SEED: the statements are not yours to turn. If you find one false, say at which input.
  Laid BY PROGRAM, IN A SANDBOX (cutbox-rows.mjs): the forced cells as the released guide's own fill.sh prints them over the translation 77776b97efd41bc5… (all of the seat's roots in one cut). By AI agents, Wed Nov 11 2026. No macro, syntax, notation, axiom, sorry.
-/
import Derived.Test.Qxb6618156aChecked
import GoSem.Claim
import GoSem.ClaimJoined
import GoSem.ClaimMapViews
import Derived.JoinedTies
import Derived.KernelRfl
namespace Go.Proofs.Qxb6618156a
/- THE CELL 'sum', in the pinned program and in every row, IS THE sha256 OF THE DUMP (.gsa) THAT Qxb6618156aProg.lean LOADS. Nothing in Lean hashes anything: it is a label: what it is worth is what the hold of that sum in a sandbox is worth. -/
noncomputable def Try.pinned : Pinned := { name := "qxb6618156a", sum := "77776b97efd41bc594aaf93fb430f436285ea6252663e486120d6378d0d5d9c7", checked := Try.checked }
namespace Rows
def none {H : Type} : Left H := { results := [], args := [] }

/-- 'zzlaws_internal_jsontext_b1.FnSkipSpaceLeastAndIdempotent': WHATEVER THE INPUT: true; the input reads as it did. -/
def fnSkipSpaceLeastAndIdempotentSpec : ChangeSpec := { name := "fnSkipSpaceLeastAndIdempotent", fn := fun _ => fun
  | [d1, d2, d3, d4] => { results := [.lit (.bool true)], args := [d1, d2, d3, d4] }
  | _ => none }
def fnSkipSpaceLeastAndIdempotentRow : OpenClaim := { program := "qxb6618156a", sum := "77776b97efd41bc594aaf93fb430f436285ea6252663e486120d6378d0d5d9c7", func := "example.com/sysherald/sysherald/zzlaws_internal_jsontext_b1.FnSkipSpaceLeastAndIdempotent", spec := "fnSkipSpaceLeastAndIdempotent", apart := false }
def FnSkipSpaceLeastAndIdempotentSaid : Prop := fnSkipSpaceLeastAndIdempotentRow.holds Try.pinned (OpenSpec.ofChange fnSkipSpaceLeastAndIdempotentSpec)

/-- ITS FALSE NEIGHBOUR: 'it returns false'. Refute it at one input. -/
def fnSkipSpaceLeastAndIdempotentWrong : ChangeSpec := { name := "fnSkipSpaceLeastAndIdempotent", fn := fun _ => fun
  | [d1, d2, d3, d4] => { results := [.lit (.bool false)], args := [d1, d2, d3, d4] }
  | _ => none }
def FnSkipSpaceLeastAndIdempotentWrongFalsely : Prop := fnSkipSpaceLeastAndIdempotentRow.holds Try.pinned (OpenSpec.ofChange fnSkipSpaceLeastAndIdempotentWrong)

/-- 'zzlaws_internal_jsontext_b1.FnSkipSpaceAcrossCut': WHATEVER THE INPUT: true; the input reads as it did. -/
def fnSkipSpaceAcrossCutSpec : ChangeSpec := { name := "fnSkipSpaceAcrossCut", fn := fun _ => fun
  | [d1, d2, d3, d4, d5] => { results := [.lit (.bool true)], args := [d1, d2, d3, d4, d5] }
  | _ => none }
def fnSkipSpaceAcrossCutRow : OpenClaim := { program := "qxb6618156a", sum := "77776b97efd41bc594aaf93fb430f436285ea6252663e486120d6378d0d5d9c7", func := "example.com/sysherald/sysherald/zzlaws_internal_jsontext_b1.FnSkipSpaceAcrossCut", spec := "fnSkipSpaceAcrossCut", apart := false }
def FnSkipSpaceAcrossCutSaid : Prop := fnSkipSpaceAcrossCutRow.holds Try.pinned (OpenSpec.ofChange fnSkipSpaceAcrossCutSpec)

/-- ITS FALSE NEIGHBOUR: 'it returns false'. Refute it at one input. -/
def fnSkipSpaceAcrossCutWrong : ChangeSpec := { name := "fnSkipSpaceAcrossCut", fn := fun _ => fun
  | [d1, d2, d3, d4, d5] => { results := [.lit (.bool false)], args := [d1, d2, d3, d4, d5] }
  | _ => none }
def FnSkipSpaceAcrossCutWrongFalsely : Prop := fnSkipSpaceAcrossCutRow.holds Try.pinned (OpenSpec.ofChange fnSkipSpaceAcrossCutWrong)

end Rows
end Go.Proofs.Qxb6618156a
