/-
  No cell of these rows narrows 'for every input' (looked for: loops, veiled, ifaces, maps, wideKeys, modest, calm, conditions, laid).
  DERIVED. THE GIVEN ROWS OF THIS SEAT. 2 by the template 'for every input the law returns true; each argument reads behind the call as it read before'; 0 by the template 'total and deterministic' (their statements: Qxb6619583aTotals.lean).
  GIVEN WITH THE SEED: the statements are not yours to turn. If you find one false, say at which input.
  Laid BY PROGRAM, IN A SANDBOX (cutbox-rows.mjs): the forced cells as the released guide's own fill.sh prints them over the translation d9ae890ceb2034f4… (all of the seat's roots in one cut). By AI agents, Wed Nov 11 2026. No macro, syntax, notation, axiom, sorry.
-/
import Derived.Test.Qxb6619583aChecked
import GoSem.Claim
import GoSem.ClaimJoined
import GoSem.ClaimMapViews
import Derived.JoinedTies
import Derived.KernelRfl
namespace Go.Proofs.Qxb6619583a
/- THE CELL 'sum', in the pinned program and in every row, IS THE sha256 OF THE DUMP (.gsa) THAT Qxb6619583aProg.lean LOADS. Nothing in Lean hashes anything: it is a label: what it is worth is what the hold of that sum in a sandbox is worth. -/
noncomputable def Try.pinned : Pinned := { name := "qxb6619583a", sum := "d9ae890ceb2034f4c8728fac9299d4ea8db267f8f4473fe3366f82f47e55c53d", checked := Try.checked }
namespace Rows
def none {H : Type} : Left H := { results := [], args := [] }

/-- 'zzlaws_diameter_b1.FnFlagLettersSpec': WHATEVER THE INPUT: true; the input reads as it did. -/
def fnFlagLettersSpecSpec : ChangeSpec := { name := "fnFlagLettersSpec", fn := fun _ => fun
  | [d] => { results := [.lit (.bool true)], args := [d] }
  | _ => none }
def fnFlagLettersSpecRow : OpenClaim := { program := "qxb6619583a", sum := "d9ae890ceb2034f4c8728fac9299d4ea8db267f8f4473fe3366f82f47e55c53d", func := "example.com/chordal/chordal/zzlaws_diameter_b1.FnFlagLettersSpec", spec := "fnFlagLettersSpec", apart := false }
def FnFlagLettersSpecSaid : Prop := fnFlagLettersSpecRow.holds Try.pinned (OpenSpec.ofChange fnFlagLettersSpecSpec)

/-- ITS FALSE NEIGHBOUR: 'it returns false'. Refute it at one input. -/
def fnFlagLettersSpecWrong : ChangeSpec := { name := "fnFlagLettersSpec", fn := fun _ => fun
  | [d] => { results := [.lit (.bool false)], args := [d] }
  | _ => none }
def FnFlagLettersSpecWrongFalsely : Prop := fnFlagLettersSpecRow.holds Try.pinned (OpenSpec.ofChange fnFlagLettersSpecWrong)

/-- 'zzlaws_diameter_b1.FnGrammarIndexInsert': WHATEVER THE INPUT: true; the input reads as it did. -/
def fnGrammarIndexInsertSpec : ChangeSpec := { name := "fnGrammarIndexInsert", fn := fun _ => fun
  | [d1, d2, d3, d4] => { results := [.lit (.bool true)], args := [d1, d2, d3, d4] }
  | _ => none }
def fnGrammarIndexInsertRow : OpenClaim := { program := "qxb6619583a", sum := "d9ae890ceb2034f4c8728fac9299d4ea8db267f8f4473fe3366f82f47e55c53d", func := "example.com/chordal/chordal/zzlaws_diameter_b1.FnGrammarIndexInsert", spec := "fnGrammarIndexInsert", apart := false }
def FnGrammarIndexInsertSaid : Prop := fnGrammarIndexInsertRow.holds Try.pinned (OpenSpec.ofChange fnGrammarIndexInsertSpec)

/-- ITS FALSE NEIGHBOUR: 'it returns false'. Refute it at one input. -/
def fnGrammarIndexInsertWrong : ChangeSpec := { name := "fnGrammarIndexInsert", fn := fun _ => fun
  | [d1, d2, d3, d4] => { results := [.lit (.bool false)], args := [d1, d2, d3, d4] }
  | _ => none }
def FnGrammarIndexInsertWrongFalsely : Prop := fnGrammarIndexInsertRow.holds Try.pinned (OpenSpec.ofChange fnGrammarIndexInsertWrong)

end Rows
end Go.Proofs.Qxb6619583a
