/-
  THE WALK OF FnGrammarIndexInsert.
-/
import Derived.Test.Qxb6619583aGram
namespace Go.Proofs.Qxb6619583a.Gram
open Go.ChangeShapes Go.WideShapes Go.ChangeAt Go.RowKit

theorem bytes8_yes (a : Option Addr) (n c : Nat) (cd p o0 o1 o2 : Int) (w : World) (h : n ≤ 1048576) :
    Calls Try.prog 8 #[.slice a n c, .int .u32 cd, .int .i64 p, .agg #[.int .u32 o0, .int .i64 o1, .int .i64 o2]] w fun e w' => e = .returned (.bool true) ∧ Below w.heap.size w w' := by
  go_enter Try.func8, Try.ntmps8
  go_wp2
  go_ret
  exact ⟨rfl, (Below.refl _ _).alloc (Nat.le_refl _) _⟩
theorem bytes8_no (a : Option Addr) (n c : Nat) (cd p o0 o1 o2 : Int) (w : World) (h : ¬ n ≤ 1048576) :
    Calls Try.prog 8 #[.slice a n c, .int .u32 cd, .int .i64 p, .agg #[.int .u32 o0, .int .i64 o1, .int .i64 o2]] w fun e w' => e = .returned (.bool false) ∧ Below w.heap.size w w' := by
  go_enter Try.func8, Try.ntmps8
  go_wp2
  go_ret
  exact ⟨rfl, (Below.refl _ _).alloc (Nat.le_refl _) _⟩

/-- Out of the bounds: true at once. -/
theorem insert_out (a : Option Addr) (n c : Nat) (cd p o0 o1 o2 : Int) (w : World) (h : ¬ n ≤ 32768 ∨ (n ≤ 32768 ∧ p < 0) ∨ (n ≤ 32768 ∧ 0 ≤ p ∧ (n : Int) < p)) :
    Calls Try.prog 4 #[.slice a n c, .int .u32 cd, .int .i64 p, .agg #[.int .u32 o0, .int .i64 o1, .int .i64 o2]] w fun e w' => e = .returned (.bool true) ∧ Below w.heap.size w w' := by
  have hb0 := (Below.refl w.heap.size w).alloc (Nat.le_refl _) (.cells #[.int .u32 o0, .int .i64 o1, .int .i64 o2] 29)
  rcases h with h | ⟨h1, h2⟩ | ⟨h1, h2, h3⟩
  · by_cases hb : n ≤ 1048576
    · go_enter Try.func4, Try.ntmps4
      go_wp2_with fail
      refine (bytes8_yes _ _ _ _ _ _ _ _ _ hb).mono ?_
      rintro e w' ⟨rfl, hb1⟩
      go_wp2
      go_ret
      exact ⟨rfl, hb0.trans (hb1.mono (by simp))⟩
    · go_enter Try.func4, Try.ntmps4
      go_wp2_with fail
      refine (bytes8_no _ _ _ _ _ _ _ _ _ hb).mono ?_
      rintro e w' ⟨rfl, hb1⟩
      go_wp2
      go_ret
      exact ⟨rfl, hb0.trans (hb1.mono (by simp))⟩
  · go_enter Try.func4, Try.ntmps4
    go_wp2_with fail
    refine (bytes8_yes _ _ _ _ _ _ _ _ _ (by omega)).mono ?_
    rintro e w' ⟨rfl, hb1⟩
    go_wp2
    go_ret
    exact ⟨rfl, hb0.trans (hb1.mono (by simp))⟩
  · go_enter Try.func4, Try.ntmps4
    go_wp2_with fail
    refine (bytes8_yes _ _ _ _ _ _ _ _ _ (by omega)).mono ?_
    rintro e w' ⟨rfl, hb1⟩
    go_wp2
    go_ret
    exact ⟨rfl, hb0.trans (hb1.mono (by simp))⟩

theorem make_runs (n : Nat) (hn : n ≤ 32768) (w : World) :
    (Instr.makeSlice 32 (.int .i64 0) (.int .i64 ((n : Int) + 1))).run Try.prog w = .ok (.slice (some ⟨w.heap.size, 0, none⟩) 0 (n + 1)) (w.alloc (.cells (madeCells #[.int .u32 0, .int .i64 0, .int .i64 0] ((n + 1) * 3)) 36)) := by
  obtain ⟨i0, hi, hz0, hz1, hz2⟩ := info_parts info36
  have h := run_make (P := Try.prog) w 32 36 i0 (.agg #[.int .u32 0, .int .i64 0, .int .i64 0]) Try.underlying32 hi hz0 .i64 .i64 0 ((n : Int) + 1) (by omega) (by omega) (by rw [hz2]; omega) (by omega)
  have e1 : ((n : Int) + 1).toNat = n + 1 := by omega
  rw [e1, hz1] at h
  exact h

theorem born (w : World) (B n : Nat) (hB : B ≤ w.heap.size) (hn : n ≤ 32768) :
    (w.alloc (.cells (madeCells #[.int .u32 0, .int .i64 0, .int .i64 0] ((n + 1) * 3)) 36)).ownsRow B 36 3 (.slice (some ⟨w.heap.size, 0, none⟩) 0 (n + 1)) 0 [] :=
  ⟨rfl, .inr ⟨w.heap.size, n + 1, _, rfl, hB, heap_alloc_new _ _, by omega, by unfold maxLen; omega, by simp [size_madeCells], by simp⟩⟩

theorem box_cells {w W : World} {o0 o1 o2 : Int} (hb : Below (w.heap.size + 1) (w.alloc (.cells #[.int .u32 o0, .int .i64 o1, .int .i64 o2] 29)) W) :
    W.cell? ⟨w.heap.size, 0, none⟩ = some (.int .u32 o0) ∧ W.cell? ⟨w.heap.size, 1, none⟩ = some (.int .i64 o1) ∧ W.cell? ⟨w.heap.size, 2, none⟩ = some (.int .i64 o2) := by
  have h := hb.block w.heap.size (by omega)
  rw [heap_alloc_new] at h
  refine ⟨?_, ?_, ?_⟩ <;> simp [World.cell?, h]

theorem fl_oneCell (gs : List (Int × Int × Int)) : ∀ v ∈ fl gs, v.oneCell' = true := by
  intro v hv
  unfold fl at hv
  obtain ⟨x, _, h⟩ := List.mem_flatMap.1 hv
  simp at h
  rcases h with rfl | rfl | rfl <;> rfl

theorem zindex_len (a : Option Addr) (g cp n : Nat) (c : Int) (gs : List (Int × Int × Int)) (w : World) (hl : gs.length = n) (hn : gs.length ≤ 1048576) (hr : gs ≠ [] → a = some ⟨g, 0, none⟩ ∧ Rd w g gs) :
    Calls Try.prog 10 #[.slice a n cp, .int .u32 c] w fun e w' => ∃ r, e = .returned (.int .i64 r) ∧ IsIdx (codes gs) c r ∧ Below w.heap.size w w' := by
  subst hl
  exact zindex_any a g cp c gs w hn hr
theorem sane_len (a : Option Addr) (g cp n : Nat) (c r : Int) (gs : List (Int × Int × Int)) (w : World) (hl : gs.length = n) (hn : gs.length ≤ 1048576) (hr : gs ≠ [] → a = some ⟨g, 0, none⟩ ∧ Rd w g gs) (hi : IsIdx (codes gs) c r) :
    Calls Try.prog 11 #[.slice a n cp, .int .u32 c, .int .i64 r] w fun e w' => e = .returned (.bool true) ∧ w = w' := by
  subst hl
  exact sane_any a g cp c r gs w hn hr hi
theorem codes_ins (gs : List (Int × Int × Int)) (p : Nat) (o : Int × Int × Int) : codes ((gs.take p ++ [o]) ++ gs.drop p) = ins (codes gs) p o.1 := by
  unfold codes ins
  rw [List.map_append, List.map_append, List.map_take, List.map_drop, List.append_assoc]
  rfl
theorem idx_bounds {cs : List Int} {c r : Int} (h : IsIdx cs c r) : -1 ≤ r ∧ r ≤ cs.length := by
  rcases h with ⟨rfl, _⟩ | ⟨k, rfl, h2, _⟩
  · omega
  · omega
theorem own_rd {w : World} {B g n cap : Nat} {gs : List (Int × Int × Int)} (hl : gs.length = n) (h : w.ownsRow B 36 3 (.slice (some ⟨g, 0, none⟩) n cap) n (fl gs)) : Rd w g gs := by
  intro i hi
  obtain ⟨h0, h1, h2⟩ := fl_get gs i hi
  exact ⟨(h.cellAt _ (by omega)).trans h0, (h.cellAt _ (by omega)).trans h1, (h.cellAt _ (by omega)).trans h2⟩
theorem ret_bool {b : Bool} (h : b = true) : Ending.returned (.bool b) = .returned (.bool true) := by rw [h]

theorem three_cells (w : World) (u0 u1 u2 : Value) (t : TypeId) : ∀ j u, [u0, u1, u2][j]? = some u → (w.alloc (.cells #[u0, u1, u2] t)).cell? ((⟨w.heap.size, 0, none⟩ : Addr).add j) = some u := by
  intro j u hj
  have hh := heap_alloc_new w (.cells #[u0, u1, u2] t)
  rw [Addr.add_lit, Nat.zero_add]
  unfold World.cell?
  rw [hh]
  show (#[u0, u1, u2] : Array Value)[j]? = some u
  rw [← hj]
  match j with
  | 0 => rfl
  | 1 => rfl
  | 2 => rfl
  | n + 3 => rfl
theorem src_take {w : World} {g : Nat} {gs : List (Int × Int × Int)} (h : Row w g (fl gs)) (p : Nat) : ∀ j u, (fl (gs.take p))[j]? = some u → w.cell? ((⟨g, 0, none⟩ : Addr).add j) = some u := by
  intro j u hj
  rw [Addr.add_lit, Nat.zero_add, h.get]
  rw [← fl_take] at hj
  rw [List.getElem?_take] at hj
  split at hj
  · exact hj
  · simp at hj
theorem src_drop {w : World} {g : Nat} {gs : List (Int × Int × Int)} (h : Row w g (fl gs)) (p : Nat) : ∀ j u, (fl (gs.drop p))[j]? = some u → w.cell? ((⟨g, p * 3, none⟩ : Addr).add j) = some u := by
  intro j u hj
  rw [Addr.add_lit, h.get]
  rw [← fl_drop, List.getElem?_drop] at hj
  exact hj
theorem Row.alloc {w : World} {b : Nat} {xs : List Value} (h : Row w b xs) (o : Obj) : Row (w.alloc o) b xs := by
  have := h.lt
  unfold Row at *; rw [Below.heap_alloc _ _ _ this]; exact h
theorem Row.grown {w w' : World} {b k : Nat} {xs : List Value} (h : Row w b xs) (hg : w.grownBy w' (some k)) (hne : b ≠ k) : Row w' b xs := by
  have := h.lt
  unfold Row at *
  rw [hg.block b this (by intro e; exact hne (Option.some.inj e))]; exact h

set_option maxRecDepth 100000 in
set_option maxHeartbeats 2000000 in
theorem insert_in (x : Addr) (cp p : Nat) (cd o0 o1 o2 : Int) (gs : List (Int × Int × Int)) (w : World) (hn : gs.length ≤ 32768) (hp : p ≤ gs.length) (hx : gs ≠ [] → x.spot = none)
    (hc : ∀ i (h : i < gs.length), w.cell? ⟨x.block, x.off + i * 3, none⟩ = some (.int .u32 gs[i].1) ∧ w.cell? ⟨x.block, x.off + i * 3 + 1, none⟩ = some (.int .i64 gs[i].2.1) ∧ w.cell? ⟨x.block, x.off + i * 3 + 2, none⟩ = some (.int .i64 gs[i].2.2)) :
    Calls Try.prog 4 #[.slice (some x) gs.length cp, .int .u32 cd, .int .i64 p, .agg #[.int .u32 o0, .int .i64 o1, .int .i64 o2]] w fun e w' => e = .returned (.bool true) ∧ Below w.heap.size w w' := by
  have hb0 := (Below.refl w.heap.size w).alloc (Nat.le_refl _) (.cells #[.int .u32 o0, .int .i64 o1, .int .i64 o2] 29)
  have hmk := make_runs gs.length hn
  have HC := hide hc; have HX := hide hx; have HMK := hide hmk
  clear hc hx hmk
  go_enter Try.func4, Try.ntmps4
  go_wp2_with fail
  refine (bytes8_yes _ _ _ _ _ _ _ _ _ (by omega)).mono ?_
  rintro e w2 ⟨rfl, hb2⟩
  have hB2 : Below (w.heap.size + 1) (w.alloc (.cells #[.int .u32 o0, .int .i64 o1, .int .i64 o2] 29)) w2 := hb2.mono (by simp)
  have hW2 : Below w.heap.size w w2 := hb0.trans (hB2.mono (by omega))
  have hz2 : w.heap.size + 1 ≤ w2.heap.size := by have := hb2.size; simpa using this
  clear hb2 hb0
  have hnb : decide ((32768 : Int) < (gs.length : Int)) = false := by simp; omega
  have hp1 : decide ((p : Int) < 0) = false := by simp
  have hp2 : decide (gs.length < p) = false := by simp; omega
  go_wp2_with fail
  refine (togram_row x cp gs w2 (by omega) HX.out (fun i h => ?_)).mono ?_
  · obtain ⟨e0, e1, e2⟩ := HC.out i h
    have hg := lt_of_cell e0
    exact ⟨(hW2.cell (by exact hg)).trans e0, (hW2.cell (by exact hg)).trans e1, (hW2.cell (by exact hg)).trans e2⟩
  rintro e w3 ⟨rfl, hrow3, hb3⟩
  have hB3 := hB2.trans (hb3.mono hz2)
  have hW3 := hW2.trans (hb3.mono hW2.size)
  have hz3 : w2.heap.size < w3.heap.size := hrow3.lt
  obtain ⟨g, hg⟩ : ∃ g, g = w2.heap.size := ⟨_, rfl⟩
  rw [← hg] at hrow3 hz2 hz3 ⊢
  have hrd3 := hrow3.rd
  clear hB2 hW2 hb3 HX HC hg
  have HRD := hide hrd3
  clear hrd3
  go_wp2_with fail
  refine (zindex_any (some ⟨g, 0, none⟩) g gs.length cd gs w3 (by omega) (fun _ => ⟨rfl, HRD.out⟩)).mono ?_
  rintro e w4 ⟨r, rfl, hir, hb4⟩
  have hB4 := hB3.trans (hb4.mono (by omega))
  have hW4 := hW3.trans (hb4.mono hW3.size)
  have hz4 := hb4.size
  have hrow4 : Row w4 g (fl gs) := by unfold Row at *; rw [hb4.block g hz3]; exact hrow3
  have HIR := hide hir
  clear hB3 hW3 hb4 hrow3 hir HRD
  have hrd4 := hrow4.rd
  have HRD := hide hrd4
  clear hrd4
  go_wp2_with fail
  refine (sane_any (some ⟨g, 0, none⟩) g gs.length cd r gs w4 (by omega) (fun _ => ⟨rfl, HRD.out⟩) HIR.out).mono ?_
  rintro e w4' ⟨rfl, rfl⟩
  obtain ⟨c0, c1, c2⟩ := box_cells hB4
  have hmk := HMK.out
  obtain ⟨i0, hi0, hz0, hzs, hzb⟩ := info_parts info36
  have hwz := hW4.size
  have hown0 : ((w4.alloc (.cells #[.int .u32 o0, .int .i64 o1, .int .i64 o2] 36)).alloc (.cells (madeCells #[.int .u32 0, .int .i64 0, .int .i64 0] ((gs.length + 1) * 3)) 36)).ownsRow w.heap.size 36 3 (.slice (some ⟨w4.heap.size + 1, 0, none⟩) 0 (gs.length + 1)) 0 [] := by
    have h := born (w4.alloc (.cells #[.int .u32 o0, .int .i64 o1, .int .i64 o2] 36)) w.heap.size gs.length (by simp; omega) hn
    simpa using h
  have hrow6 := (hrow4.alloc (.cells #[.int .u32 o0, .int .i64 o1, .int .i64 o2] 36)).alloc (.cells (madeCells #[.int .u32 0, .int .i64 0, .int .i64 0] ((gs.length + 1) * 3)) 36)
  have hB6 := (hB4.alloc (by omega) (.cells #[.int .u32 o0, .int .i64 o1, .int .i64 o2] 36)).alloc (by simp; omega) (.cells (madeCells #[.int .u32 0, .int .i64 0, .int .i64 0] ((gs.length + 1) * 3)) 36)
  have hW6 := (hW4.alloc hwz (.cells #[.int .u32 o0, .int .i64 o1, .int .i64 o2] 36)).alloc (by simp; omega) (.cells (madeCells #[.int .u32 0, .int .i64 0, .int .i64 0] ((gs.length + 1) * 3)) 36)
  have hoo : ((w4.alloc (.cells #[.int .u32 o0, .int .i64 o1, .int .i64 o2] 36)).alloc (.cells (madeCells #[.int .u32 0, .int .i64 0, .int .i64 0] ((gs.length + 1) * 3)) 36)).heap[w4.heap.size]? = some (.cells #[.int .u32 o0, .int .i64 o1, .int .i64 o2] 36) := by
    rw [Below.heap_alloc _ _ _ (by simp)]; exact heap_alloc_new _ _
  have HOWN := hide hown0; have HROW := hide hrow6; have HB6 := hide hB6; have HW6 := hide hW6; have HOO := hide hoo
  clear hown0 hrow6 hB6 hW6 hoo hrow4 hB4 hW4 HRD
  go_wp2_with (at_builtin; refine wpList_append_fits _ rfl _ _ 32 rfl w.heap.size 36 i0 3 Try.underlying32 hi0 hzs (w4.heap.size + 1) 0 (gs.length + 1) [] rfl HOWN.out ⟨g, 0, none⟩ p gs.length (fl (gs.take p)) rfl ?a1 (src_take HROW.out p) (fl_oneCell _) ?a2 ?_)
  case a1 => rw [fl_length, List.length_take]; omega
  case a2 => omega
  intro w7 hown7 hg7
  have hrow7 := HROW.out.grown hg7 (by omega)
  have hB7 := HB6.out.grown hg7 (by simp; omega) (by intro k hk; have := Option.some.inj hk; omega)
  have hW7 := HW6.out.grown hg7 (by simp; omega) (by intro k hk; have := Option.some.inj hk; omega)
  have hoo7 : w7.heap[w4.heap.size]? = some (.cells #[.int .u32 o0, .int .i64 o1, .int .i64 o2] 36) := by
    rw [hg7.block _ (by simp; omega) (by intro e; have := Option.some.inj e; omega)]; exact HOO.out
  have hz7 : w4.heap.size + 2 ≤ w7.heap.size := by have := hg7.size; simpa using this
  clear hg7 HOWN HROW HB6 HW6 HOO c0 c1 c2 hmk HMK
  have q0 : w7.cell? ⟨w4.heap.size, 0, none⟩ = some (.int .u32 o0) := by simp [World.cell?, hoo7]
  have q1 : w7.cell? ⟨w4.heap.size, 1, none⟩ = some (.int .i64 o1) := by simp [World.cell?, hoo7]
  have q2 : w7.cell? ⟨w4.heap.size, 2, none⟩ = some (.int .i64 o2) := by simp [World.cell?, hoo7]
  have HOO := hide hoo7; have HROW := hide hrow7; have HB := hide hB7; have HW := hide hW7; have HOWN := hide hown7
  clear hoo7 hrow7 hB7 hW7 hown7
  have hownA := HOWN.out.alloc (.cells #[.int .u32 o0, .int .i64 o1, .int .i64 o2] 36)
  have HOWNA := hide hownA
  clear hownA
  go_wp2_with (at_builtin; refine wpList_append_fits _ rfl _ _ 32 rfl w.heap.size 36 i0 3 Try.underlying32 hi0 hzs (w4.heap.size + 1) p (gs.length + 1) (fl (gs.take p)) rfl HOWNA.out ⟨w7.heap.size, 0, none⟩ 1 1 [.int .u32 o0, .int .i64 o1, .int .i64 o2] rfl rfl ?b1 ?b2 ?b3 ?_)
  case b1 => exact three_cells w7 _ _ _ 36
  case b2 => intro u hu; simp at hu; rcases hu with rfl | rfl | rfl <;> rfl
  case b3 => omega
  intro w8 hown8 hg8
  have hrow8 := (HROW.out.alloc (.cells #[.int .u32 o0, .int .i64 o1, .int .i64 o2] 36)).grown hg8 (by omega)
  have hB8 := (HB.out.alloc (by omega) (.cells #[.int .u32 o0, .int .i64 o1, .int .i64 o2] 36)).grown hg8 (by simp; omega) (by intro k hk; have := Option.some.inj hk; omega)
  have hW8 := (HW.out.alloc (by omega) (.cells #[.int .u32 o0, .int .i64 o1, .int .i64 o2] 36)).grown hg8 (by simp; omega) (by intro k hk; have := Option.some.inj hk; omega)
  have hz8 : w7.heap.size + 1 ≤ w8.heap.size := by have := hg8.size; simpa using this
  have e8 : fl (gs.take p) ++ [.int .u32 o0, .int .i64 o1, .int .i64 o2] = fl (gs.take p ++ [(o0, o1, o2)]) := by rw [fl_append]; rfl
  rw [e8] at hown8
  clear hg8 HOWN HOWNA HROW HB HW HOO q0 q1 q2 e8
  have HOWN := hide hown8; have HROW := hide hrow8; have HB := hide hB8; have HW := hide hW8
  clear hown8 hrow8 hB8 hW8
  go_wp2_with (at_builtin; refine wpList_append_fits_any _ rfl _ _ 32 rfl w.heap.size 36 i0 3 Try.underlying32 hi0 hzs (w4.heap.size + 1) (p + 1) (gs.length + 1) (fl (gs.take p ++ [(o0, o1, o2)])) rfl HOWN.out _ (gs.length - p) (gs.length - p) (fl (gs.drop p)) rfl ?d1 ?d2 ?d3 (fl_oneCell _) ?d4 ?_)
  case d1 => rw [fl_length, List.length_drop]
  case d4 => omega
  case d3.inl =>
    intro j u hj
    have hh : gs.length = p := by assumption
    rw [List.drop_eq_nil_of_le (by omega)] at hj
    exact absurd hj (by simp [fl])
  case d3.inr =>
    intro j u hj
    have h1 := src_drop HROW.out p j u hj
    rw [Addr.add_lit] at h1
    exact h1
  case inl =>
    intro w9 hown9 hg9
    have hlen' : ((gs.take p ++ [(o0, o1, o2)]) ++ gs.drop p).length = p + 1 := by simp; omega
    have hl2 : ((gs.take p ++ [(o0, o1, o2)]) ++ gs.drop p).length ≤ 1048576 := by simp; omega
    rw [← fl_append] at hown9
    have hrd9 := own_rd hlen' hown9
    have hB9 := HB.out.grown hg9 (by omega) (by intro k hk; have := Option.some.inj hk; omega)
    have hW9 := HW.out.grown hg9 (by omega) (by intro k hk; have := Option.some.inj hk; omega)
    have hz9 : w8.heap.size ≤ w9.heap.size := hg9.size
    have hci := codes_ins gs p (o0, o1, o2)
    obtain ⟨gs', hgs'⟩ : ∃ gs', gs' = (gs.take p ++ [(o0, o1, o2)]) ++ gs.drop p := ⟨_, rfl⟩
    rw [← hgs'] at hlen' hl2 hrd9 hci
    have HLN := hide hlen'; have HRD9 := hide hrd9; have HCI := hide hci
    clear hlen' hrd9 hci hgs' hown9 hg9 HOWN HROW HB HW
    go_wp2_with fail
    refine (zindex_len _ (w4.heap.size + 1) _ _ cd gs' w9 HLN.out hl2 (fun _ => ⟨rfl, HRD9.out⟩)).mono ?_
    rintro e w10 ⟨r2, rfl, hir2, hb10⟩
    have hB10 := hB9.trans (hb10.mono (by omega))
    have hW10 := hW9.trans (hb10.mono hW9.size)
    have hrd10 := HRD9.out.below hb10
    have HRD10 := hide hrd10; have HIR2 := hide hir2
    clear hB9 hW9 hb10 HRD9 hrd10 hir2
    go_wp2_with fail
    refine (sane_len _ (w4.heap.size + 1) _ _ cd r2 gs' w10 HLN.out hl2 (fun _ => ⟨rfl, HRD10.out⟩) HIR2.out).mono ?_
    rintro e w11 ⟨rfl, rfl⟩
    obtain ⟨c0, c1, c2⟩ := box_cells hB10
    have hr2 : r2 = want r p (decide (o0 = cd)) := by
      have h2 := HIR2.out
      rw [HCI.out] at h2
      exact idx_insert (codes gs) p o0 cd r r2 (by unfold codes; simpa using hp) HIR.out h2
    obtain ⟨hr0, hr1⟩ := idx_bounds HIR.out
    have hr1' : r ≤ 32768 := by
      have : (codes gs).length = gs.length := by unfold codes; simp
      omega
    clear hr1 HRD10 HIR2 HLN hl2 HCI hB10 c1 c2
    by_cases hoc : o0 = cd
    · have hob : (o0 == cd) = true := by simp [hoc]
      unfold want at hr2
      rw [decide_eq_true hoc, if_pos rfl] at hr2
      clear hoc
      by_cases h1 : r = -1
      · rw [if_pos (.inl h1)] at hr2
        subst hr2
        have h1b : (r == -1) = true := by simp [h1]
        clear h1
        go_wp2
        go_ret
        exact ⟨ret_bool (by simp), hW10⟩
      · have h1b : (r == -1) = false := by simp [h1]
        by_cases h2 : (p : Int) ≤ r
        · rw [if_pos (.inr h2)] at hr2
          subst hr2
          clear h1
          go_wp2
          go_ret
          exact ⟨ret_bool (by simp), hW10⟩
        · rw [if_neg (by intro h; rcases h with h | h; exact h1 h; exact h2 h)] at hr2
          subst hr2
          clear h1
          go_wp2
          go_ret
          exact ⟨ret_bool (by simp), hW10⟩
    · have hob : (o0 == cd) = false := by simp [hoc]
      unfold want at hr2
      rw [decide_eq_false hoc, if_neg (by decide)] at hr2
      clear hoc
      by_cases h2 : (p : Int) ≤ r
      · rw [if_pos h2] at hr2
        subst hr2
        go_wp2
        go_ret
        exact ⟨ret_bool (by simp), hW10⟩
      · rw [if_neg h2] at hr2
        subst hr2
        go_wp2
        go_ret
        exact ⟨ret_bool (by simp), hW10⟩
  case inr =>
    intro w9 hown9 hg9
    have hlen' : ((gs.take p ++ [(o0, o1, o2)]) ++ gs.drop p).length = p + 1 + (gs.length - p) := by simp; omega
    have hl2 : ((gs.take p ++ [(o0, o1, o2)]) ++ gs.drop p).length ≤ 1048576 := by simp; omega
    rw [← fl_append] at hown9
    have hrd9 := own_rd hlen' hown9
    have hB9 := HB.out.grown hg9 (by omega) (by intro k hk; have := Option.some.inj hk; omega)
    have hW9 := HW.out.grown hg9 (by omega) (by intro k hk; have := Option.some.inj hk; omega)
    have hz9 : w8.heap.size ≤ w9.heap.size := hg9.size
    have hci := codes_ins gs p (o0, o1, o2)
    obtain ⟨gs', hgs'⟩ : ∃ gs', gs' = (gs.take p ++ [(o0, o1, o2)]) ++ gs.drop p := ⟨_, rfl⟩
    rw [← hgs'] at hlen' hl2 hrd9 hci
    have HLN := hide hlen'; have HRD9 := hide hrd9; have HCI := hide hci
    clear hlen' hrd9 hci hgs' hown9 hg9 HOWN HROW HB HW
    go_wp2_with fail
    refine (zindex_len _ (w4.heap.size + 1) _ _ cd gs' w9 HLN.out hl2 (fun _ => ⟨rfl, HRD9.out⟩)).mono ?_
    rintro e w10 ⟨r2, rfl, hir2, hb10⟩
    have hB10 := hB9.trans (hb10.mono (by omega))
    have hW10 := hW9.trans (hb10.mono hW9.size)
    have hrd10 := HRD9.out.below hb10
    have HRD10 := hide hrd10; have HIR2 := hide hir2
    clear hB9 hW9 hb10 HRD9 hrd10 hir2
    go_wp2_with fail
    refine (sane_len _ (w4.heap.size + 1) _ _ cd r2 gs' w10 HLN.out hl2 (fun _ => ⟨rfl, HRD10.out⟩) HIR2.out).mono ?_
    rintro e w11 ⟨rfl, rfl⟩
    obtain ⟨c0, c1, c2⟩ := box_cells hB10
    have hr2 : r2 = want r p (decide (o0 = cd)) := by
      have h2 := HIR2.out
      rw [HCI.out] at h2
      exact idx_insert (codes gs) p o0 cd r r2 (by unfold codes; simpa using hp) HIR.out h2
    obtain ⟨hr0, hr1⟩ := idx_bounds HIR.out
    have hr1' : r ≤ 32768 := by
      have : (codes gs).length = gs.length := by unfold codes; simp
      omega
    clear hr1 HRD10 HIR2 HLN hl2 HCI hB10 c1 c2
    by_cases hoc : o0 = cd
    · have hob : (o0 == cd) = true := by simp [hoc]
      unfold want at hr2
      rw [decide_eq_true hoc, if_pos rfl] at hr2
      clear hoc
      by_cases h1 : r = -1
      · rw [if_pos (.inl h1)] at hr2
        subst hr2
        have h1b : (r == -1) = true := by simp [h1]
        clear h1
        go_wp2
        go_ret
        exact ⟨ret_bool (by simp), hW10⟩
      · have h1b : (r == -1) = false := by simp [h1]
        by_cases h2 : (p : Int) ≤ r
        · rw [if_pos (.inr h2)] at hr2
          subst hr2
          clear h1
          go_wp2
          go_ret
          exact ⟨ret_bool (by simp), hW10⟩
        · rw [if_neg (by intro h; rcases h with h | h; exact h1 h; exact h2 h)] at hr2
          subst hr2
          clear h1
          go_wp2
          go_ret
          exact ⟨ret_bool (by simp), hW10⟩
    · have hob : (o0 == cd) = false := by simp [hoc]
      unfold want at hr2
      rw [decide_eq_false hoc, if_neg (by decide)] at hr2
      clear hoc
      by_cases h2 : (p : Int) ≤ r
      · rw [if_pos h2] at hr2
        subst hr2
        go_wp2
        go_ret
        exact ⟨ret_bool (by simp), hW10⟩
      · rw [if_neg h2] at hr2
        subst hr2
        go_wp2
        go_ret
        exact ⟨ret_bool (by simp), hW10⟩

set_option maxRecDepth 100000 in
set_option maxHeartbeats 2000000 in
theorem insert_nil (cp : Nat) (cd o0 o1 o2 : Int) (w : World) :
    Calls Try.prog 4 #[.slice none 0 cp, .int .u32 cd, .int .i64 0, .agg #[.int .u32 o0, .int .i64 o1, .int .i64 o2]] w fun e w' => e = .returned (.bool true) ∧ Below w.heap.size w w' := by
  have hb0 := (Below.refl w.heap.size w).alloc (Nat.le_refl _) (.cells #[.int .u32 o0, .int .i64 o1, .int .i64 o2] 29)
  have hmk : ∀ wx, (Instr.makeSlice 32 (.int .i64 0) (.int .i64 1)).run Try.prog wx = .ok (.slice (some ⟨wx.heap.size, 0, none⟩) 0 1) (wx.alloc (.cells (madeCells #[.int .u32 0, .int .i64 0, .int .i64 0] ((0 + 1) * 3)) 36)) := fun wx => make_runs 0 (by omega) wx
  obtain ⟨M, hM⟩ : ∃ M, M = Obj.cells (madeCells #[.int .u32 0, .int .i64 0, .int .i64 0] ((0 + 1) * 3)) 36 := ⟨_, rfl⟩
  have hborn := fun wx hB => born wx w.heap.size 0 hB (by omega)
  rw [← hM] at hmk hborn
  have HMK := hide hmk; have HBORN := hide hborn
  clear hmk hM hborn
  go_enter Try.func4, Try.ntmps4
  go_wp2_with fail
  refine (bytes8_yes _ _ _ _ _ _ _ _ _ (by omega)).mono ?_
  rintro e w2 ⟨rfl, hb2⟩
  have hB2 : Below (w.heap.size + 1) (w.alloc (.cells #[.int .u32 o0, .int .i64 o1, .int .i64 o2] 29)) w2 := hb2.mono (by simp)
  have hW2 : Below w.heap.size w w2 := hb0.trans (hB2.mono (by omega))
  have hz2 : w.heap.size + 1 ≤ w2.heap.size := by have := hb2.size; simpa using this
  clear hb2 hb0
  go_wp2_with fail
  refine (togram_nil cp w2).mono ?_
  rintro e w3 ⟨rfl, hw3⟩
  subst hw3
  go_wp2_with fail
  refine (zindex_len none 0 0 0 cd [] _ rfl (by simp) (fun h => absurd rfl h)).mono ?_
  rintro e w4 ⟨r, rfl, hir, hb4⟩
  have hB4 := hB2.trans (hb4.mono (by omega))
  have hW4 := hW2.trans (hb4.mono hW2.size)
  have hz4 := hb4.size
  have HIR := hide hir
  clear hB2 hW2 hb4 hir
  go_wp2_with fail
  refine (sane_len none 0 0 0 cd r [] w4 rfl (by simp) (fun h => absurd rfl h) HIR.out).mono ?_
  rintro e w4' ⟨rfl, rfl⟩
  obtain ⟨c0, c1, c2⟩ := box_cells hB4
  have hmk := HMK.out
  obtain ⟨i0, hi0, hz0, hzs, hzb⟩ := info_parts info36
  have hwz := hW4.size
  have hown0 : ((w4.alloc (.cells #[.int .u32 o0, .int .i64 o1, .int .i64 o2] 36)).alloc M).ownsRow w.heap.size 36 3 (.slice (some ⟨w4.heap.size + 1, 0, none⟩) 0 1) 0 [] := by
    have h := HBORN.out (w4.alloc (.cells #[.int .u32 o0, .int .i64 o1, .int .i64 o2] 36)) (by simp; omega)
    simpa using h
  have hB6 := (hB4.alloc (by omega) (.cells #[.int .u32 o0, .int .i64 o1, .int .i64 o2] 36)).alloc (by simp; omega) M
  have hW6 := (hW4.alloc hwz (.cells #[.int .u32 o0, .int .i64 o1, .int .i64 o2] 36)).alloc (by simp; omega) M
  have hoo : ((w4.alloc (.cells #[.int .u32 o0, .int .i64 o1, .int .i64 o2] 36)).alloc M).heap[w4.heap.size]? = some (.cells #[.int .u32 o0, .int .i64 o1, .int .i64 o2] 36) := by
    rw [Below.heap_alloc _ _ _ (by simp)]; exact heap_alloc_new _ _
  have HOWN := hide hown0; have HB6 := hide hB6; have HW6 := hide hW6; have HOO := hide hoo
  clear hown0 hB6 hW6 hoo hB4 hW4
  go_wp2_with (at_builtin; refine wpList_append_fits_any _ rfl _ _ 32 rfl w.heap.size 36 i0 3 Try.underlying32 hi0 hzs (w4.heap.size + 1) 0 1 [] rfl HOWN.out none 0 0 [] rfl rfl (fun _ => ⟨rfl, rfl⟩) ?a1 ?a2 ?a3 ?_)
  case a1 => intro ad h; exact absurd h (by simp)
  case a2 => intro u hu; simp at hu
  case a3 => omega
  intro w7 hown7 hg7
  have hB7 := HB6.out.grown hg7 (by simp; omega) (by intro k hk; have := Option.some.inj hk; omega)
  have hW7 := HW6.out.grown hg7 (by simp; omega) (by intro k hk; have := Option.some.inj hk; omega)
  have hoo7 : w7.heap[w4.heap.size]? = some (.cells #[.int .u32 o0, .int .i64 o1, .int .i64 o2] 36) := by
    rw [hg7.block _ (by simp; omega) (by intro e; have := Option.some.inj e; omega)]; exact HOO.out
  have hz7 : w4.heap.size + 2 ≤ w7.heap.size := by have := hg7.size; simpa using this
  clear hg7 HOWN HB6 HW6 HOO c0 c1 c2 hmk HMK HBORN
  have q0 : w7.cell? ⟨w4.heap.size, 0, none⟩ = some (.int .u32 o0) := by simp [World.cell?, hoo7]
  have q1 : w7.cell? ⟨w4.heap.size, 1, none⟩ = some (.int .i64 o1) := by simp [World.cell?, hoo7]
  have q2 : w7.cell? ⟨w4.heap.size, 2, none⟩ = some (.int .i64 o2) := by simp [World.cell?, hoo7]
  have hownA := hown7.alloc (.cells #[.int .u32 o0, .int .i64 o1, .int .i64 o2] 36)
  have HOWNA := hide hownA; have HB := hide hB7; have HW := hide hW7
  clear hoo7 hB7 hW7 hown7 hownA
  go_wp2_with (at_builtin; refine wpList_append_fits _ rfl _ _ 32 rfl w.heap.size 36 i0 3 Try.underlying32 hi0 hzs (w4.heap.size + 1) 0 1 [] rfl HOWNA.out ⟨w7.heap.size, 0, none⟩ 1 1 [.int .u32 o0, .int .i64 o1, .int .i64 o2] rfl rfl ?b1 ?b2 ?b3 ?_)
  case b1 => exact three_cells w7 _ _ _ 36
  case b2 => intro u hu; simp at hu; rcases hu with rfl | rfl | rfl <;> rfl
  case b3 => omega
  intro w8 hown8 hg8
  have hB8 := (HB.out.alloc (by omega) (.cells #[.int .u32 o0, .int .i64 o1, .int .i64 o2] 36)).grown hg8 (by simp; omega) (by intro k hk; have := Option.some.inj hk; omega)
  have hW8 := (HW.out.alloc (by omega) (.cells #[.int .u32 o0, .int .i64 o1, .int .i64 o2] 36)).grown hg8 (by simp; omega) (by intro k hk; have := Option.some.inj hk; omega)
  have hz8 : w7.heap.size + 1 ≤ w8.heap.size := by have := hg8.size; simpa using this
  clear hg8 HOWNA HB HW q0 q1 q2
  have HOWN := hide hown8; have HB := hide hB8; have HW := hide hW8
  clear hown8 hB8 hW8
  go_wp2_with (at_builtin; refine wpList_append_fits_any _ rfl _ _ 32 rfl w.heap.size 36 i0 3 Try.underlying32 hi0 hzs (w4.heap.size + 1) 1 1 [.int .u32 o0, .int .i64 o1, .int .i64 o2] rfl HOWN.out none 0 0 [] rfl rfl (fun _ => ⟨rfl, rfl⟩) ?d1 ?d2 ?d3 ?_)
  case d1 => intro ad h; exact absurd h (by simp)
  case d2 => intro u hu; simp at hu
  case d3 => omega
  intro w9 hown9 hg9
  have hrd9 : Rd w9 (w4.heap.size + 1) [(o0, o1, o2)] := own_rd (n := 1) rfl hown9
  have hB9 := HB.out.grown hg9 (by omega) (by intro k hk; have := Option.some.inj hk; omega)
  have hW9 := HW.out.grown hg9 (by omega) (by intro k hk; have := Option.some.inj hk; omega)
  have hz9 : w8.heap.size ≤ w9.heap.size := hg9.size
  have HRD9 := hide hrd9
  clear hrd9 hown9 hg9 HOWN HB HW
  go_wp2_with fail
  refine (zindex_len _ (w4.heap.size + 1) _ _ cd [(o0, o1, o2)] w9 rfl (by simp) (fun _ => ⟨rfl, HRD9.out⟩)).mono ?_
  rintro e w10 ⟨r2, rfl, hir2, hb10⟩
  have hB10 := hB9.trans (hb10.mono (by omega))
  have hW10 := hW9.trans (hb10.mono hW9.size)
  have hrd10 := HRD9.out.below hb10
  have HRD10 := hide hrd10; have HIR2 := hide hir2
  clear hB9 hW9 hb10 HRD9 hrd10 hir2
  go_wp2_with fail
  refine (sane_len _ (w4.heap.size + 1) _ _ cd r2 [(o0, o1, o2)] w10 rfl (by simp) (fun _ => ⟨rfl, HRD10.out⟩) HIR2.out).mono ?_
  rintro e w11 ⟨rfl, rfl⟩
  obtain ⟨c0, c1, c2⟩ := box_cells hB10
  have hr2 : r2 = want r 0 (decide (o0 = cd)) := idx_insert [] 0 o0 cd r r2 (by simp) HIR.out HIR2.out
  have hrm : r = -1 := by
    rcases HIR.out with ⟨h, _⟩ | ⟨k, _, h2, _⟩
    · exact h
    · exact absurd h2 (by simp [codes])
  subst hrm
  clear HRD10 HIR2 hB10 c1 c2 HIR
  by_cases hoc : o0 = cd
  · have hob : (o0 == cd) = true := by simp [hoc]
    have hv : r2 = 0 := by rw [hr2, decide_eq_true hoc]; rfl
    subst hv
    clear hoc hr2
    go_wp2
    go_ret
    exact ⟨ret_bool (by simp), hW10⟩
  · have hob : (o0 == cd) = false := by simp [hoc]
    have hv : r2 = -1 := by rw [hr2, decide_eq_false hoc]; rfl
    subst hv
    clear hoc hr2
    go_wp2
    go_ret
    exact ⟨ret_bool (by simp), hW10⟩

/-- The whole walk. -/
theorem insert_walk (a : Option Addr) (cp : Nat) (cd p o0 o1 o2 : Int) (gs : List (Int × Int × Int)) (w : World)
    (hrow : (a = none ∧ gs = []) ∨ ∃ x, a = some x ∧ (gs ≠ [] → x.spot = none) ∧ ∀ i (h : i < gs.length), w.cell? ⟨x.block, x.off + i * 3, none⟩ = some (.int .u32 gs[i].1) ∧ w.cell? ⟨x.block, x.off + i * 3 + 1, none⟩ = some (.int .i64 gs[i].2.1) ∧ w.cell? ⟨x.block, x.off + i * 3 + 2, none⟩ = some (.int .i64 gs[i].2.2)) :
    Calls Try.prog 4 #[.slice a gs.length cp, .int .u32 cd, .int .i64 p, .agg #[.int .u32 o0, .int .i64 o1, .int .i64 o2]] w fun e w' => e = .returned (.bool true) ∧ Below w.heap.size w w' := by
  by_cases h : gs.length ≤ 32768 ∧ 0 ≤ p ∧ p ≤ gs.length
  · obtain ⟨h1, h2, h3⟩ := h
    obtain ⟨q, rfl⟩ := Int.eq_ofNat_of_zero_le h2
    rcases hrow with ⟨rfl, rfl⟩ | ⟨x, rfl, hx, hc⟩
    · have hq : q = 0 := by simpa using h3
      subst hq
      exact insert_nil cp cd o0 o1 o2 w
    · exact insert_in x cp q cd o0 o1 o2 gs w h1 (by omega) hx hc
  · exact insert_out a gs.length cp cd p o0 o1 o2 w (by omega)
end Go.Proofs.Qxb6619583a.Gram
