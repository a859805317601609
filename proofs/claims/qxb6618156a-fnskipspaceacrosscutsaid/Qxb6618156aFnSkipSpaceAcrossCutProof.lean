/-
  THE PROOF OF 'Rows.FnSkipSpaceAcrossCutSaid'. The frame is the given shell's (written by program off the guide's own print); the walk is ours: the callees by their contracts (Walks, Calls), the plain law (Plain).
-/
import Derived.Test.Qxb6618156aRows
import Derived.Test.Qxb6618156aCalls
import Derived.WalkKit
import Derived.ProofKit
import Derived.OpenShut
import Derived.ShutString
namespace Go.Proofs.Qxb6618156a.fnSkipSpaceAcrossCut
open Go.ChangeShapes Go.WideShapes Go.ChangeAt Go.RowKit
open Go.ChangeMaps (open_string shut_string)
set_option linter.unusedVariables false      -- a walk need not use every 'w<i>' (that an integer argument fits its kind)

theorem own : ownKnob Try.prog.godebug = none := by kernel_rfl

/-! ### STEP 1: THE WALK: the Go text returns true. 'Grown w w'': the world has at most new blocks (Derived/RowKit3.lean). Part the cases AHEAD of 'go_enter' where a test parts the walk; take each callee by a contract of your own. -/
set_option maxHeartbeats 1000000 in
theorem walk (a0 : ByteArray) (a1 : ByteArray) (a2 : Int) (a3 : Int) (a4 : Bool) (w0 : a0.size ≤ maxLen) (w1 : a1.size ≤ maxLen) (w2 : (Lit.int .i64 a2).wf = true) (w3 : (Lit.int .i64 a3).wf = true) (w : World) :
    Calls Try.prog 4 #[.string a0, .string a1, .int .i64 a2, .int .i64 a3, .bool a4] w fun e w' => e = .returned (.bool true) ∧ Grown w w' := by
  by_cases hs : a0.size + a1.size ≤ 1048576
  · by_cases ho : 0 ≤ a2 ∧ a2 ≤ a0.size
    · obtain ⟨ho1, ho2⟩ := ho
      obtain ⟨off, rfl⟩ := Int.eq_ofNat_of_zero_le ho1
      have ho3 : off ≤ a0.size := by omega
      go_enter Try.func4, Try.ntmps4
      go_wp2_with (go_at_call 10; go_in)
      obtain ⟨D, hD⟩ : ∃ D, D = a0 ++ a1 := ⟨_, rfl⟩
      have hDs : D.size = a0.size + a1.size := by rw [hD]; exact app_size _ _
      have hD1 : D.size ≤ 1048576 := by omega
      have hD2 : off ≤ D.size := by omega
      have hD3 : a0.size ≤ D.size := by omega
      have hp1 : a0.size ≤ 1048576 := by omega
      clear hDs
      rw [← hD]
      have HD := hide hD
      clear hD
      refine (new_any _ _ _ _ _).mono ?_
      rintro e w1 ⟨rfl, rfl⟩
      have hd1 := Dec.born w D off a3 a4
      have g1 := (G.refl w).alloc #[.string D, .int .i64 off, .int .i64 a3, .bool a4] 30
      have hb1 : w.heap.size ≤ w.heap.size := Nat.le_refl _
      obtain ⟨W1, hW1⟩ : ∃ W1, W1 = w.alloc (.cells #[.string D, .int .i64 off, .int .i64 a3, .bool a4] 30) := ⟨_, rfl⟩
      rw [← hW1] at hd1 g1 ⊢
      clear hW1
      go_wp2_with fail
      refine (zzskip_any D off a3 a4 _ _ hD1 hD2 hd1).mono ?_
      rintro e w2 ⟨oj, hlj, rfl, hd2, hk2⟩
      have g2 := g1.kept hb1 hd1 hd2 hk2
      clear hd1 g1 hk2
      go_wp2_with fail
      refine (fields_any D oj a3 a4 _ _ hd2).mono ?_
      rintro e w3 ⟨rfl, n3, rfl⟩
      have g3 := g2.drewN n3
      clear hd2 g2
      obtain ⟨W3, hW3⟩ : ∃ W3, W3 = w2.drewN n3 := ⟨_, rfl⟩
      rw [← hW3] at g3 ⊢
      clear hW3
      go_wp2_with fail
      refine (new_any _ _ _ _ _).mono ?_
      rintro e w4 ⟨rfl, rfl⟩
      have hd4 := Dec.born W3 a0 off a3 a4
      have g4 := g3.alloc #[.string a0, .int .i64 off, .int .i64 a3, .bool a4] 30
      have hb4 : w.heap.size ≤ W3.heap.size := g3.1.size
      obtain ⟨W4, hW4⟩ : ∃ W4, W4 = W3.alloc (.cells #[.string a0, .int .i64 off, .int .i64 a3, .bool a4] 30) := ⟨_, rfl⟩
      rw [← hW4] at hd4 g4 ⊢
      clear hW4 g3
      go_wp2_with fail
      refine (zzskip_any a0 off a3 a4 _ _ hp1 ho3 hd4).mono ?_
      rintro e w5 ⟨op, hlp, rfl, hd5, hk5⟩
      have g5 := g4.kept hb4 hd4 hd5 hk5
      clear hd4 g4 hk5
      go_wp2_with fail
      refine (fields_any a0 op a3 a4 _ _ hd5).mono ?_
      rintro e w6 ⟨rfl, n6, rfl⟩
      have g6 := g5.drewN n6
      clear hd5 g5
      obtain ⟨W6, hW6⟩ : ∃ W6, W6 = w5.drewN n6 := ⟨_, rfl⟩
      rw [← hW6] at g6 ⊢
      clear hW6
      go_wp2_with fail
      refine (fixed_any D off oj _ hD1 hlj).mono ?_
      rintro e w7 ⟨rfl, rfl⟩
      by_cases hin : op < a0.size
      · have hjp : oj = op := by have hj := hlj; rw [HD.out] at hj; exact hlp.cut_in hin hj
        have hjD : op < D.size := by omega
        subst hjp
        go_wp2
        go_ret
        exact ⟨by simp, g6.grown⟩
      · have hop : op = a0.size := by have := hlp.hi; omega
        subst hop
        go_wp2_with fail
        refine (new_any _ _ _ _ _).mono ?_
        rintro e w8 ⟨rfl, rfl⟩
        have hd8 := Dec.born w7 D a0.size a3 a4
        have g8 := g6.alloc #[.string D, .int .i64 a0.size, .int .i64 a3, .bool a4] 30
        have hb8 : w.heap.size ≤ w7.heap.size := g6.1.size
        obtain ⟨W8, hW8⟩ : ∃ W8, W8 = w7.alloc (.cells #[.string D, .int .i64 a0.size, .int .i64 a3, .bool a4] 30) := ⟨_, rfl⟩
        rw [← hW8] at hd8 g8 ⊢
        clear hW8 g6
        go_wp2_with fail
        refine (zzskip_any D a0.size a3 a4 _ _ hD1 hD3 hd8).mono ?_
        rintro e w9 ⟨oq, hlq, rfl, hd9, hk9⟩
        have g9 := g8.kept hb8 hd8 hd9 hk9
        have hjq : oj = oq := by have hj := hlj; have hq := hlq; rw [HD.out] at hj hq; exact hlp.cut_out hj hq
        subst hjq
        clear hd8 g8 hk9
        go_wp2_with fail
        refine (fields_any D oj a3 a4 _ _ hd9).mono ?_
        rintro e w10 ⟨rfl, n10, rfl⟩
        go_wp2
        go_ret
        exact ⟨by simp, (g9.drewN n10).grown⟩
    · by_cases hn : a2 < 0
      · go_enter Try.func4, Try.ntmps4
        go_wp2
        go_ret
        exact ⟨rfl, Grown.refl _⟩
      · have hn2 : (a0.size : Int) < a2 := by omega
        go_enter Try.func4, Try.ntmps4
        go_wp2
        go_ret
        exact ⟨rfl, Grown.refl _⟩
  · by_cases hp : a0.size ≤ 1048576
    · by_cases hq : a1.size ≤ 1048576
      · go_enter Try.func4, Try.ntmps4
        go_wp2
        go_ret
        exact ⟨rfl, Grown.refl _⟩
      · go_enter Try.func4, Try.ntmps4
        go_wp2
        go_ret
        exact ⟨rfl, Grown.refl _⟩
    · go_enter Try.func4, Try.ntmps4
      go_wp2
      go_ret
      exact ⟨rfl, Grown.refl _⟩

/-! ### THE ROW's STEP: WRITTEN OUT: LEAVE IT -/
set_option maxRecDepth 100000 in
theorem lifted (os : Os) (started : os.Started) (H : Type) (enc : TypeId × Value → H) :
    ReturnsInHanded {} Try.checked os 4 .any (Rows.fnSkipSpaceAcrossCutSpec.pre6 enc Try.prog Try.f4 Rows.fnSkipSpaceAcrossCutRow.domain false) (Rows.fnSkipSpaceAcrossCutSpec.post enc Try.prog Try.f4 false true false false) := by
  refine returnsInHanded_of_change (C := Try.checked) own started (by kernel_rfl) Try.func4
    (ChangeSpec.witness6 (enc := enc) (C := Try.checked) false ⟨#[], #[.string ByteArray.empty, .string ByteArray.empty, .int .i64 0, .int .i64 0, .bool false], []⟩ 8 (by kernel_rfl) (by kernel_rfl) (by kernel_rfl) (by kernel_rfl)) ?_
  intro W base args ds gs before hval0 hW hcnd _
  have hval : ∀ (j : Nat) t v, Try.f4.params[j]? = some t → args[j]? = some v → Value.okWide Try.prog W .any base t v := hval0
  have hW' := hW
  obtain ⟨p, q, hA0, hV, rfl, hfz, hnd⟩ := hW
  have hA : DataW.TrodAll enc Try.prog W 0 (fun _ => true) true Try.f4.params.toList args.toList ds p := hA0
  rw [Try.params4] at hA hval
  obtain ⟨v0, vs0, d0, ds0, p0, q0, hargs, rfl, rfl, h0, r0⟩ := trodAll_cons hA
  obtain ⟨v1, vs1, d1, ds1, p1, q1, rfl, rfl, rfl, h1, r1⟩ := trodAll_cons r0
  obtain ⟨v2, vs2, d2, ds2, p2, q2, rfl, rfl, rfl, h2, r2⟩ := trodAll_cons r1
  obtain ⟨v3, vs3, d3, ds3, p3, q3, rfl, rfl, rfl, h3, r3⟩ := trodAll_cons r2
  obtain ⟨v4, vs4, d4, ds4, p4, q4, rfl, rfl, rfl, h4, r4⟩ := trodAll_cons r3
  obtain ⟨rfl, rfl, rfl⟩ := trodAll_nil r4
  obtain rfl : args = #[v0, v1, v2, v3, v4] := by cases args; simp_all
  obtain ⟨rfl, rfl⟩ := trodVars_none hV
  obtain ⟨a0, rfl, rfl, rfl, w0⟩ := open_string Try.underlying9 (hval 0 9 v0 rfl rfl) h0
  obtain ⟨a1, rfl, rfl, rfl, w1⟩ := open_string Try.underlying9 (hval 1 9 v1 rfl rfl) h1
  obtain ⟨a2, rfl, rfl, rfl, w2⟩ := open_int Try.underlying3 (hval 2 3 v2 rfl rfl) h2
  obtain ⟨a3, rfl, rfl, rfl, w3⟩ := open_int Try.underlying3 (hval 3 3 v3 rfl rfl) h3
  obtain ⟨a4, rfl, rfl, rfl⟩ := open_bool Try.underlying4 (hval 4 4 v4 rfl rfl) h4
  clear hA0 hval0
  simp only [List.append_nil] at hW'
  refine (walk a0 a1 a2 a3 a4 w0 w1 w2 w3 W).mono fun e W' ⟨he, hg⟩ => ?_
  subst he
  exact ⟨_, rfl, post_of_same (pa := []) (pv := []) hW' (fun _ _ _ => (trodAll_cons_mk (shut_bool Try.underlying4 _) trodAll_mk0)) (fun sp _ => (trodAll_cons_mk (shut_string Try.underlying9 w0) (trodAll_cons_mk (shut_string Try.underlying9 w1) (trodAll_cons_mk (shut_int Try.underlying3 w2) (trodAll_cons_mk (shut_int Try.underlying3 w3) (trodAll_cons_mk (shut_bool Try.underlying4 _) trodAll_mk0)))))) (fun _ _ => rfl) rfl
    (hg.frame _) hg.2.1 (ok_one (by kernel_rfl) rfl (okWide_bool_mk Try.underlying4 _))⟩

theorem over : Rows.fnSkipSpaceAcrossCutRow.holds Try.pinned (OpenSpec.ofChange Rows.fnSkipSpaceAcrossCutSpec) :=
  OpenClaim.holds_of_wide 4 Try.f4 rfl rfl rfl rfl rfl rfl rfl ⟨rfl, rfl, rfl, rfl, rfl⟩ rfl rfl rfl rfl rfl (by kernel_rfl) Try.func4 (by kernel_rfl)
    (of_decide_eq_true (by kernel_rfl)) (by unfold Func.isWrapper; first | (rw [if_pos (by decide +kernel)]; kernel_rfl) | (rw [if_neg (by decide +kernel)]; exact ⟨rfl, rfl⟩))
    (fun os started H enc _ => lifted os started H enc)

/-- ████ THE STATEMENT ████ -/
theorem proved : Rows.FnSkipSpaceAcrossCutSaid :=
  over
#print axioms proved
end Go.Proofs.Qxb6618156a.fnSkipSpaceAcrossCut
