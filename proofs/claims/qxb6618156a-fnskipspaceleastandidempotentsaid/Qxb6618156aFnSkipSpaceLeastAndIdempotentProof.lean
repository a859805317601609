/-
  THE PROOF OF 'Rows.FnSkipSpaceLeastAndIdempotentSaid'. The frame is the given shell's (written by program off the guide's own print); the walk is ours: the callees by their contracts (Walks, Calls), the plain law (Plain).
-/
import Derived.Test.Qxb6618156aRows
import Derived.Test.Qxb6618156aCalls
import Derived.WalkKit
import Derived.ProofKit
import Derived.OpenShut
import Derived.ShutString
namespace Go.Proofs.Qxb6618156a.fnSkipSpaceLeastAndIdempotent
open Go.ChangeShapes Go.WideShapes Go.ChangeAt Go.RowKit
open Go.ChangeMaps (open_string shut_string)
set_option linter.unusedVariables false      -- a walk need not use every 'w<i>' (that an integer argument fits its kind)

theorem own : ownKnob Try.prog.godebug = none := by kernel_rfl

/-! ### STEP 1: THE WALK: the Go text returns true. 'Grown w w'': the world has at most new blocks (Derived/RowKit3.lean). Part the cases AHEAD of 'go_enter' where a test parts the walk; take each callee by a contract of your own. -/
theorem walk (a0 : ByteArray) (a1 : Int) (a2 : Int) (a3 : Bool) (w0 : a0.size ≤ maxLen) (w1 : (Lit.int .i64 a1).wf = true) (w2 : (Lit.int .i64 a2).wf = true) (w : World) :
    Calls Try.prog 3 #[.string a0, .int .i64 a1, .int .i64 a2, .bool a3] w fun e w' => e = .returned (.bool true) ∧ Grown w w' := by
  by_cases hs : a0.size ≤ 1048576
  · by_cases ho : 0 ≤ a1 ∧ a1 ≤ a0.size
    · obtain ⟨ho1, ho2⟩ := ho
      obtain ⟨off, rfl⟩ := Int.eq_ofNat_of_zero_le ho1
      have ho3 : off ≤ a0.size := by omega
      go_enter Try.func3, Try.ntmps3
      go_wp2_with (go_at_call 5; go_in)
      refine (new_any _ _ _ _ _).mono ?_
      rintro e w1 ⟨rfl, rfl⟩
      have hd1 := Dec.born w a0 off a2 a3
      have g1 := (G.refl w).alloc #[.string a0, .int .i64 off, .int .i64 a2, .bool a3] 30
      have hb1 : w.heap.size ≤ w.heap.size := Nat.le_refl _
      obtain ⟨W1, hW1⟩ : ∃ W1, W1 = w.alloc (.cells #[.string a0, .int .i64 off, .int .i64 a2, .bool a3] 30) := ⟨_, rfl⟩
      rw [← hW1] at hd1 g1 ⊢
      clear hW1
      go_wp2_with fail
      refine (zzskip_any a0 off a2 a3 _ _ hs ho3 hd1).mono ?_
      rintro e w2 ⟨o, hl, rfl, hd2, hk2⟩
      have g2 := g1.kept hb1 hd1 hd2 hk2
      clear hd1 g1 hk2
      go_wp2_with fail
      refine (fields_any a0 o a2 a3 _ _ hd2).mono ?_
      rintro e w3 ⟨rfl, n3, rfl⟩
      have e1 : (a0.toList == a0.toList) = true := by simp
      go_wp2_with fail
      refine (fixed_any a0 off o _ hs hl).mono ?_
      rintro e w4 ⟨rfl, rfl⟩
      have g3 := g2.drewN n3
      have hd3 := hd2.drewN n3
      go_wp2_with fail
      refine (zzskip_any a0 o a2 a3 _ _ hs hl.hi hd3).mono ?_
      rintro e w5 ⟨o', hl', rfl, hd5, hk5⟩
      obtain rfl := hl.again hl'
      have g5 := g3.kept hb1 hd3 hd5 hk5
      clear hd2 g2 hd3 g3 hk5
      go_wp2_with fail
      refine (fields_any a0 o' a2 a3 _ _ hd5).mono ?_
      rintro e w6 ⟨rfl, n6, rfl⟩
      go_wp2
      go_ret
      exact ⟨by simp, (g5.drewN n6).grown⟩
    · by_cases hn : a1 < 0
      · go_enter Try.func3, Try.ntmps3
        go_wp2
        go_ret
        exact ⟨rfl, Grown.refl _⟩
      · have hn2 : (a0.size : Int) < a1 := by omega
        go_enter Try.func3, Try.ntmps3
        go_wp2
        go_ret
        exact ⟨rfl, Grown.refl _⟩
  · go_enter Try.func3, Try.ntmps3
    go_wp2
    go_ret
    exact ⟨rfl, Grown.refl _⟩

/-! ### THE ROW's STEP: WRITTEN OUT: LEAVE IT -/
set_option maxRecDepth 100000 in
theorem lifted (os : Os) (started : os.Started) (H : Type) (enc : TypeId × Value → H) :
    ReturnsInHanded {} Try.checked os 3 .any (Rows.fnSkipSpaceLeastAndIdempotentSpec.pre6 enc Try.prog Try.f3 Rows.fnSkipSpaceLeastAndIdempotentRow.domain false) (Rows.fnSkipSpaceLeastAndIdempotentSpec.post enc Try.prog Try.f3 false true false false) := by
  refine returnsInHanded_of_change (C := Try.checked) own started (by kernel_rfl) Try.func3
    (ChangeSpec.witness6 (enc := enc) (C := Try.checked) false ⟨#[], #[.string ByteArray.empty, .int .i64 0, .int .i64 0, .bool false], []⟩ 8 (by kernel_rfl) (by kernel_rfl) (by kernel_rfl) (by kernel_rfl)) ?_
  intro W base args ds gs before hval0 hW hcnd _
  have hval : ∀ (j : Nat) t v, Try.f3.params[j]? = some t → args[j]? = some v → Value.okWide Try.prog W .any base t v := hval0
  have hW' := hW
  obtain ⟨p, q, hA0, hV, rfl, hfz, hnd⟩ := hW
  have hA : DataW.TrodAll enc Try.prog W 0 (fun _ => true) true Try.f3.params.toList args.toList ds p := hA0
  rw [Try.params3] at hA hval
  obtain ⟨v0, vs0, d0, ds0, p0, q0, hargs, rfl, rfl, h0, r0⟩ := trodAll_cons hA
  obtain ⟨v1, vs1, d1, ds1, p1, q1, rfl, rfl, rfl, h1, r1⟩ := trodAll_cons r0
  obtain ⟨v2, vs2, d2, ds2, p2, q2, rfl, rfl, rfl, h2, r2⟩ := trodAll_cons r1
  obtain ⟨v3, vs3, d3, ds3, p3, q3, rfl, rfl, rfl, h3, r3⟩ := trodAll_cons r2
  obtain ⟨rfl, rfl, rfl⟩ := trodAll_nil r3
  obtain rfl : args = #[v0, v1, v2, v3] := by cases args; simp_all
  obtain ⟨rfl, rfl⟩ := trodVars_none hV
  obtain ⟨a0, rfl, rfl, rfl, w0⟩ := open_string Try.underlying9 (hval 0 9 v0 rfl rfl) h0
  obtain ⟨a1, rfl, rfl, rfl, w1⟩ := open_int Try.underlying3 (hval 1 3 v1 rfl rfl) h1
  obtain ⟨a2, rfl, rfl, rfl, w2⟩ := open_int Try.underlying3 (hval 2 3 v2 rfl rfl) h2
  obtain ⟨a3, rfl, rfl, rfl⟩ := open_bool Try.underlying4 (hval 3 4 v3 rfl rfl) h3
  clear hA0 hval0
  simp only [List.append_nil] at hW'
  refine (walk a0 a1 a2 a3 w0 w1 w2 W).mono fun e W' ⟨he, hg⟩ => ?_
  subst he
  exact ⟨_, rfl, post_of_same (pa := []) (pv := []) hW' (fun _ _ _ => (trodAll_cons_mk (shut_bool Try.underlying4 _) trodAll_mk0)) (fun sp _ => (trodAll_cons_mk (shut_string Try.underlying9 w0) (trodAll_cons_mk (shut_int Try.underlying3 w1) (trodAll_cons_mk (shut_int Try.underlying3 w2) (trodAll_cons_mk (shut_bool Try.underlying4 _) trodAll_mk0))))) (fun _ _ => rfl) rfl
    (hg.frame _) hg.2.1 (ok_one (by kernel_rfl) rfl (okWide_bool_mk Try.underlying4 _))⟩

theorem over : Rows.fnSkipSpaceLeastAndIdempotentRow.holds Try.pinned (OpenSpec.ofChange Rows.fnSkipSpaceLeastAndIdempotentSpec) :=
  OpenClaim.holds_of_wide 3 Try.f3 rfl rfl rfl rfl rfl rfl rfl ⟨rfl, rfl, rfl, rfl, rfl⟩ rfl rfl rfl rfl rfl (by kernel_rfl) Try.func3 (by kernel_rfl)
    (of_decide_eq_true (by kernel_rfl)) (by unfold Func.isWrapper; first | (rw [if_pos (by decide +kernel)]; kernel_rfl) | (rw [if_neg (by decide +kernel)]; exact ⟨rfl, rfl⟩))
    (fun os started H enc _ => lifted os started H enc)

/-- ████ THE STATEMENT ████ -/
theorem proved : Rows.FnSkipSpaceLeastAndIdempotentSaid :=
  over
#print axioms proved
end Go.Proofs.Qxb6618156a.fnSkipSpaceLeastAndIdempotent
