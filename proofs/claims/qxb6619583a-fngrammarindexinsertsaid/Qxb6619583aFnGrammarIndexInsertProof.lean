/-
  THE PROOF OF 'Rows.FnGrammarIndexInsertSaid'. No shell was given: the frame is typed after the shells over slices (the guide's own way), the slice of structs opened by 'open_slice', the struct by value by 'open_agg3'.
-/
import Derived.Test.Qxb6619583aRows
import Derived.Test.Qxb6619583aInsert
import Derived.WalkKit
import Derived.ProofKit
import Derived.OpenShut
import Derived.ShutString
import Derived.ChangeOld
import Derived.Below
import Derived.Lib.SmallJoins
import Derived.Deep.Slices
import Derived.Deep.Strs
namespace Go.Proofs.Qxb6619583a.fnGrammarIndexInsert
open Go.ChangeShapes Go.WideShapes Go.ChangeAt Go.RowKit Go.Joins Go.Deep
set_option linter.unusedVariables false

theorem own : ownKnob Try.prog.godebug = none := by kernel_rfl
theorem laidOut : laidOutB Try.prog = true := by kernel_rfl
theorem cells29 : Try.prog.cellsOf 29 = 3 := by kernel_rfl
theorem cells27 : Try.prog.cellsOf 27 = 1 := by kernel_rfl
theorem cells3 : Try.prog.cellsOf 3 = 1 := by kernel_rfl

section
variable {H : Type} {enc : TypeId × Value → H} {w : World} {base : Nat} {spare : Nat → Bool} {held : Bool}

/-- One line, out of its three cells. -/
theorem line_cells {fuel : Nat} {cs : List Value} {x : DataW H × List MemPlace} (h : DataW.trod enc Try.prog w base spare held fuel 29 cs = some x) : ∃ c m M : Int, cs = [.int .u32 c, .int .i64 m, .int .i64 M] := by
  obtain ⟨y0, y1, y2, n, _, hl, h0, h1, h2⟩ := trod_struct3 Try.underlying29 h
  rw [cells29] at hl
  obtain ⟨v0, v1, v2, rfl⟩ : ∃ v0 v1 v2, cs = [v0, v1, v2] := by
    match cs, hl with
    | [v0, v1, v2], _ => exact ⟨v0, v1, v2, rfl⟩
  simp only [cells27, cells3] at h0 h1 h2
  obtain ⟨c, e0, _, _⟩ := DataW.trod_int Try.underlying27 h0
  obtain ⟨m, e1, _, _⟩ := DataW.trod_int Try.underlying3 h1
  obtain ⟨M, e2, _, _⟩ := DataW.trod_int Try.underlying3 h2
  simp at e0 e1 e2
  exact ⟨c, m, M, by rw [e0, e1, e2]⟩

/-- The grammar as a list of lines. -/
theorem view {fuel : Nat} {a : Option Addr} {len cap : Nat} {x : DataW H × List MemPlace} (h : DataW.trod enc Try.prog w base spare held fuel 26 [.slice a len cap] = some x) :
    ∃ gs : List (Int × Int × Int), gs.length = len ∧ ((a = none ∧ gs = []) ∨ ∃ y, a = some y ∧ (gs ≠ [] → y.spot = none) ∧
      ∀ i (h : i < gs.length), w.cell? ⟨y.block, y.off + i * 3, none⟩ = some (.int .u32 gs[i].1) ∧ w.cell? ⟨y.block, y.off + i * 3 + 1, none⟩ = some (.int .i64 gs[i].2.1) ∧ w.cell? ⟨y.block, y.off + i * 3 + 2, none⟩ = some (.int .i64 gs[i].2.2)) := by
  rcases open_slice Try.underlying26 h with ⟨hcs, _⟩ | ⟨y, l, c, m, n, D, Pl, hcs, _, hl, _, hm, _, hx⟩
  · simp at hcs
    obtain ⟨rfl, rfl, rfl⟩ := hcs
    exact ⟨[], rfl, .inl ⟨rfl, rfl⟩⟩
  · simp at hcs
    obtain ⟨rfl, rfl, rfl⟩ := hcs
    have hlm : len ≤ m := by rw [hm]; split <;> omega
    rw [cells29] at hx
    have each : ∀ i, i < len → ∃ q : Int × Int × Int, w.cell? ((y.add (i * 3)).add 0) = some (.int .u32 q.1) ∧ w.cell? ((y.add (i * 3)).add 1) = some (.int .i64 q.2.1) ∧ w.cell? ((y.add (i * 3)).add 2) = some (.int .i64 q.2.2) := by
      intro i hi
      obtain ⟨cs', h1, h2⟩ := hx i (by omega)
      obtain ⟨_, _, hcell⟩ := World.cells?_some h1
      obtain ⟨c, m', M, rfl⟩ := line_cells h2
      exact ⟨(c, m', M), hcell 0 (by omega), hcell 1 (by omega), hcell 2 (by omega)⟩
    obtain ⟨f, hf⟩ := choose_lt each
    refine ⟨(List.range len).map f, by simp, .inr ⟨y, rfl, ?_, ?_⟩⟩
    · intro hne
      have hlen : 0 < len := by
        rcases Nat.eq_zero_or_pos len with h0 | h0
        · subst h0; simp at hne
        · exact h0
      have h0 := (hf 0 hlen).1
      have h1 : ((y.add (0 * 3)).add 0).spot = none := World.cell?_spot h0
      obtain ⟨b, o, sp⟩ := y
      simpa [Addr.add] using h1
    · intro i hi
      have hi2 : i < len := by simpa using hi
      have hsp : y.spot = none := by
        have h0 := (hf 0 (by omega)).1
        have h1 : ((y.add (0 * 3)).add 0).spot = none := World.cell?_spot h0
        obtain ⟨b, o, sp⟩ := y
        simpa [Addr.add] using h1
      obtain ⟨b, o, sp⟩ := y
      obtain rfl : sp = none := hsp
      obtain ⟨h0, h1, h2⟩ := hf i hi2
      rw [Addr.add_lit, Addr.add_lit] at h0 h1 h2
      simp only [List.getElem_map, List.getElem_range]
      exact ⟨h0, h1, h2⟩
end

set_option maxRecDepth 100000 in
theorem lifted (os : Os) (started : os.Started) (H : Type) (enc : TypeId × Value → H) :
    ReturnsInHanded {} Try.checked os 4 .any (Rows.fnGrammarIndexInsertSpec.pre6 enc Try.prog Try.f4 Rows.fnGrammarIndexInsertRow.domain false) (Rows.fnGrammarIndexInsertSpec.post enc Try.prog Try.f4 false true false false) := by
  refine returnsInHanded_of_change (C := Try.checked) own started (by kernel_rfl) Try.func4
    (ChangeSpec.witness6 (enc := enc) (C := Try.checked) false ⟨#[], #[.slice none 0 0, .int .u32 0, .int .i64 0, .agg #[.int .u32 0, .int .i64 0, .int .i64 0]], []⟩ 8 (by kernel_rfl) (by kernel_rfl) (by kernel_rfl) (by kernel_rfl)) ?_
  intro W base args ds gs before hval0 hW hcnd _
  have hval : ∀ (j : Nat) t v, Try.f4.params[j]? = some t → args[j]? = some v → Value.okWide Try.prog W .any base t v := hval0
  have hW' := hW
  obtain ⟨p, q, hA0, hV, rfl, hfz, hnd⟩ := hW
  have hA : DataW.TrodAll enc Try.prog W 0 (fun _ => true) true Try.f4.params.toList args.toList ds p := hA0
  rw [Try.params4] at hA hval
  obtain ⟨v0, vs0, d0, ds0, p0, q0, hargs, rfl, rfl, h0, r0⟩ := trodAll_cons hA
  obtain ⟨v1, vs1, d1, ds1, p1, q1, rfl, rfl, rfl, h1, r1⟩ := trodAll_cons r0
  obtain ⟨v2, vs2, d2, ds2, p2, q2, rfl, rfl, rfl, h2, r2⟩ := trodAll_cons r1
  obtain ⟨v3, vs3, d3, ds3, p3, q3, rfl, rfl, rfl, h3, r3⟩ := trodAll_cons r2
  obtain ⟨rfl, rfl, rfl⟩ := trodAll_nil r3
  obtain rfl : args = #[v0, v1, v2, v3] := by cases args; simp_all
  obtain ⟨rfl, rfl⟩ := trodVars_none hV
  obtain ⟨a0, len0, cap0, rfl⟩ := okWide_slice Try.underlying26 (hval 0 26 v0 rfl rfl)
  have k0 := h0
  have lt0 : ∀ x ∈ p0, x.block < W.heap.size := by obtain ⟨m, hm⟩ := k0; exact DataW.trod_lt m _ _ _ hm
  obtain ⟨ls, hll, hrow⟩ : ∃ gs : List (Int × Int × Int), gs.length = len0 ∧ ((a0 = none ∧ gs = []) ∨ ∃ y, a0 = some y ∧ (gs ≠ [] → y.spot = none) ∧
      ∀ i (h : i < gs.length), W.cell? ⟨y.block, y.off + i * 3, none⟩ = some (.int .u32 gs[i].1) ∧ W.cell? ⟨y.block, y.off + i * 3 + 1, none⟩ = some (.int .i64 gs[i].2.1) ∧ W.cell? ⟨y.block, y.off + i * 3 + 2, none⟩ = some (.int .i64 gs[i].2.2)) := by
    obtain ⟨fuel, hf⟩ := h0
    exact view (by simpa [Value.cells] using hf)
  obtain ⟨a1, rfl, rfl, rfl, w1⟩ := open_int Try.underlying27 (hval 1 27 v1 rfl rfl) h1
  obtain ⟨a2, rfl, rfl, rfl, w2⟩ := open_int Try.underlying3 (hval 2 3 v2 rfl rfl) h2
  have k3 := h3
  have lt3 : ∀ x ∈ p3, x.block < W.heap.size := by obtain ⟨m, hm⟩ := k3; exact DataW.trod_lt m _ _ _ hm
  obtain ⟨u0, u1, u2, y0, y1, y2, n, rfl, rfl, rfl, t0, t1, t2⟩ := open_agg3 Try.underlying29 (by kernel_rfl) cells29 (hval 3 29 v3 rfl rfl) h3
  obtain ⟨o0, e0, _, _⟩ := DataW.trod_int Try.underlying27 t0
  obtain ⟨o1, e1, _, _⟩ := DataW.trod_int Try.underlying3 t1
  obtain ⟨o2, e2, _, _⟩ := DataW.trod_int Try.underlying3 t2
  simp at e0 e1 e2
  subst e0 e1 e2
  subst hll
  clear hA0 hval0
  refine (Gram.insert_walk a0 cap0 a1 a2 o0 o1 o2 ls W hrow).mono fun e W' ⟨he, bel⟩ => ?_
  subst he
  exact ⟨_, rfl, _, _, _, [], _, [], hW', trodAll_mk1 (shut_bool Try.underlying4 _), (trodAll_cons_mk (Below.trod laidOut (by kernel_rfl) (of_decide_eq_true (by kernel_rfl)) k0 bel lt0) (trodAll_cons_mk (shut_int Try.underlying27 w1) (trodAll_cons_mk (shut_int Try.underlying3 w2) (trodAll_cons_mk (Below.trod laidOut (by kernel_rfl) (of_decide_eq_true (by kernel_rfl)) k3 bel lt3) trodAll_mk0)))), rfl, bel.frame _, fun h => by cases h⟩

theorem over : Rows.fnGrammarIndexInsertRow.holds Try.pinned (OpenSpec.ofChange Rows.fnGrammarIndexInsertSpec) :=
  OpenClaim.holds_of_wide 4 Try.f4 rfl rfl rfl rfl rfl rfl rfl ⟨rfl, rfl, rfl, rfl, rfl⟩ rfl rfl rfl rfl rfl (by kernel_rfl) Try.func4 (by kernel_rfl)
    (of_decide_eq_true (by kernel_rfl)) (by unfold Func.isWrapper; first | (rw [if_pos (by decide +kernel)]; kernel_rfl) | (rw [if_neg (by decide +kernel)]; exact ⟨rfl, rfl⟩))
    (fun os started H enc _ => lifted os started H enc)

/-- THE STATEMENT -/
theorem proved : Rows.FnGrammarIndexInsertSaid := over
#print axioms proved
end Go.Proofs.Qxb6619583a.fnGrammarIndexInsert
