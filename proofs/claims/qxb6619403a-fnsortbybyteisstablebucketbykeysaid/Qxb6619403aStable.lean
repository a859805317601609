/-
  THE WALK OF FnSortByByteIsStableBucketByKey.
-/
import Derived.Test.Qxb6619403aTop
namespace Go.Proofs.Qxb6619403a
open Go.ChangeShapes Go.WideShapes Go.ChangeAt Go.RowKit

theorem bytes5_yes (a0 a1 : Option Addr) (n0 n1 c0 c1 : Nat) (a2 : Int) (w : World) (h : n0 + n1 ≤ 1048576) :
    Calls Try.prog 5 #[.slice a0 n0 c0, .slice a1 n1 c1, .int .i64 a2] w fun e w' => e = .returned (.bool true) ∧ w' = w := by
  go_enter Try.func5, Try.ntmps5
  go_wp2
  go_ret
  exact ⟨rfl, rfl⟩

theorem bytes5_no (a0 a1 : Option Addr) (n0 n1 c0 c1 : Nat) (a2 : Int) (w : World) (h : ¬ n0 + n1 ≤ 1048576) :
    Calls Try.prog 5 #[.slice a0 n0 c0, .slice a1 n1 c1, .int .i64 a2] w fun e w' => e = .returned (.bool false) ∧ w' = w := by
  by_cases h0 : n0 ≤ 1048576
  · by_cases h1 : n1 ≤ 1048576
    · go_enter Try.func5, Try.ntmps5
      go_wp2
      go_ret
      exact ⟨rfl, rfl⟩
    · go_enter Try.func5, Try.ntmps5
      go_wp2
      go_ret
      exact ⟨rfl, rfl⟩
  · go_enter Try.func5, Try.ntmps5
    go_wp2
    go_ret
    exact ⟨rfl, rfl⟩

/-- Out of the bounds: true at once. -/
theorem stable_out (a0 a1 : Option Addr) (c0 c1 n0 n1 : Nat) (a2 : Int) (w : World)
    (h : ¬ n0 + n1 ≤ 1048576 ∨ (n0 + n1 ≤ 1048576 ∧ ¬ n0 ≤ 65536) ∨ (n0 ≤ 65536 ∧ n1 ≤ 1048576 - n0 ∧ ¬ n1 ≤ 65536) ∨ (n0 ≤ 65536 ∧ n1 ≤ 65536 ∧ a2 < 0) ∨ (n0 ≤ 65536 ∧ n1 ≤ 65536 ∧ 0 ≤ a2 ∧ n1 < n0)) :
    Calls Try.prog 3 #[.slice a0 n0 c0, .slice a1 n1 c1, .int .i64 a2] w fun e w' => e = .returned (.bool true) ∧ Below w.heap.size w w' := by
  rcases h with h | ⟨h1, h2⟩ | ⟨h1, h2, h3⟩ | ⟨h1, h2, h3⟩ | ⟨h1, h2, h3, h4⟩
  · go_enter Try.func3, Try.ntmps3
    go_wp2_with (go_at_call 5; refine (bytes5_no _ _ _ _ _ _ _ _ h).mono ?_; rintro e w' ⟨rfl, rfl⟩)
    go_ret
    exact ⟨rfl, Below.refl _ _⟩
  all_goals
    have hb : n0 + n1 ≤ 1048576 := by omega
    go_enter Try.func3, Try.ntmps3
    go_wp2_with (go_at_call 5; refine (bytes5_yes _ _ _ _ _ _ _ _ hb).mono ?_; rintro e w' ⟨rfl, rfl⟩)
    go_ret
    exact ⟨rfl, Below.refl _ _⟩

set_option maxRecDepth 100000 in
set_option maxHeartbeats 1000000 in
theorem stable_in (a0 a1 : Option Addr) (c0 c1 s : Nat) (xs ys : List Nat) (w : World) (hxv : ∀ v ∈ xs, v < 18446744073709551616) (hs : s < 9223372036854775808)
    (hxc : xs ≠ [] → ∃ b off, a0 = some ⟨b, off, none⟩ ∧ ∀ i (h : i < xs.length), w.cell? ⟨b, off + i, none⟩ = some (.int .u64 ((xs[i] : Nat) : Int)))
    (hyc : ys ≠ [] → ∃ b off, a1 = some ⟨b, off, none⟩ ∧ ∀ i (h : i < ys.length), w.cell? ⟨b, off + i, none⟩ = some (.int .u64 ((ys[i] : Nat) : Int)))
    (hx : xs.length ≤ 65536) (hy : ys.length ≤ 65536) (hl : xs.length ≤ ys.length) :
    Calls Try.prog 3 #[.slice a0 xs.length c0, .slice a1 ys.length c1, .int .i64 s] w fun e w' => e = .returned (.bool true) ∧ Below w.heap.size w w' := by
  have HX := hide hxc; have HY := hide hyc; have HV := hide hxv
  clear hxc hyc hxv
  have hb : xs.length + ys.length ≤ 1048576 := by omega
  have hx' : xs.length ≤ 1048576 := by omega
  have hy' : ys.length ≤ 1048576 := by omega
  go_enter Try.func3, Try.ntmps3
  go_wp2_with fail
  refine (bytes5_yes _ _ _ _ _ _ _ _ hb).mono ?_
  rintro e w' ⟨rfl, hw'⟩
  subst hw'
  go_wp2_with fail
  refine (clone_any a0 c0 xs _ hx' HX.out).mono ?_
  rintro e w1 ⟨p1, rfl, hb1, h1⟩
  have H1 := hide h1
  clear h1
  go_wp2_with fail
  refine (clone_any a1 c1 ys _ hy' (fun h => ?_)).mono ?_
  · obtain ⟨b, off, rfl, hc⟩ := HY.out h
    refine ⟨b, off, rfl, fun i hi => ?_⟩
    have h2 := hc i hi
    exact (hb1.cell (by exact lt_of_cell h2)).trans h2
  rintro e w2 ⟨p2, rfl, hb2, h2⟩
  have H2 := hide h2
  clear h2
  go_wp2_with fail
  refine (clone_any p1 xs.length xs _ hx' (own_cells (own_below H1.out hb2))).mono ?_
  rintro e w3 ⟨p3, rfl, hb3, h3⟩
  have H3 := hide h3
  clear h3
  go_wp2_with fail
  refine (clone_any p2 ys.length ys _ hy' (own_cells (own_below H2.out hb3))).mono ?_
  rintro e w4 ⟨p4, rfl, hb4, h4⟩
  have H4 := hide h4
  clear h4
  go_wp2_with fail
  refine (model_any p3 s xs.length _ xs _ hx' hs (fun h => ⟨(own_below H3.out hb4 h).1, (own_below H3.out hb4 h).2, HV.out⟩)).mono ?_
  rintro e w5 ⟨rfl, hb5, hz5, h5⟩
  have H5 := hide h5
  clear h5
  have hl0 : xs ≠ [] → ys ≠ [] := by intro h e; rw [e] at hl; simp at hl; exact h hl
  have hb12 : Below w'.heap.size w' w2 := hb1.trans (hb2.mono hb1.size)
  have hb13 : Below w'.heap.size w' w3 := hb12.trans (hb3.mono hb12.size)
  have hb14 : Below w'.heap.size w' w4 := hb13.trans (hb4.mono hb13.size)
  have hb15 : Below w'.heap.size w' w5 := hb14.trans (hb5.mono hb14.size)
  have o1 := own_below (own_below (own_below (own_below H1.out hb2) hb3) hb4) hb5
  have o2 := own_below (own_below (own_below H2.out hb3) hb4) hb5
  have o3 := own_below (own_below H3.out hb4) hb5
  have o4 := own_below H4.out hb5
  have r5 := H5.out
  have hne : xs ≠ [] → w'.heap.size ≠ w1.heap.size := fun h => Nat.ne_of_lt (H1.out h).2.lt
  have hl2 : ys ≠ [] → w1.heap.size < w2.heap.size := fun h => (H2.out h).2.lt
  have hz3 : w2.heap.size ≤ w3.heap.size := hb3.size
  have hz4 : w3.heap.size ≤ w4.heap.size := hb4.size
  clear H1 H2 H3 H4 H5 HX HY
  have N1 := hide hne; have N2 := hide hl2; have N3 := hide hl0; have O1 := hide o1; have O2 := hide o2; have O3 := hide o3; have O4 := hide o4; have R5 := hide r5
  clear hne hl2 hl0 o1 o2 o3 o4 r5
  go_wp2_with fail
  refine (zsort_all p1 p2 s _ _ _ _ xs ys w5 hx' hl HV.out O1.out O2.out N1.out).mono ?_
  rintro e w6 ⟨rfl, hk6, h6⟩
  have hB6 : Below w'.heap.size w' w6 := hb15.trans (hk6.below hb15.size hb1.size)
  have q1 : xs ≠ [] → p1 = some ⟨w'.heap.size, 0, none⟩ ∧ Rw w6 w'.heap.size xs := fun h => ⟨(O1.out h).1, (O1.out h).2.of_block (hk6.block _ (O1.out h).2.lt (N1.out h))⟩
  have q3 : xs ≠ [] → p3 = some ⟨w2.heap.size, 0, none⟩ ∧ Rw w6 w2.heap.size xs := fun h => ⟨(O3.out h).1, (O3.out h).2.of_block (hk6.block _ (O3.out h).2.lt (Nat.ne_of_gt (N2.out (N3.out h))))⟩
  have q4 : ys ≠ [] → p4 = some ⟨w3.heap.size, 0, none⟩ ∧ Rw w6 w3.heap.size ys := fun h => ⟨(O4.out h).1, (O4.out h).2.of_block (hk6.block _ (O4.out h).2.lt (by have := N2.out h; omega))⟩
  have q5 : xs ≠ [] → Rw w6 w4.heap.size (buck (key s) xs) := fun h => R5.out.of_block (hk6.block _ R5.out.lt (by have := N2.out (N3.out h); omega))
  have Q1 := hide q1; have Q2 := hide h6; have Q3 := hide q3; have Q4 := hide q4; have Q5 := hide q5
  clear q1 h6 q3 q4 q5 O1 O2 O3 O4 R5 N1 N2 hk6 hb1 hb2 hb3 hb4 hb5 hz5 hb12 hb13 hb14 hb15 hz3 hz4 hb hx' hy'
  have hbl := buck_length (key s) xs (key_lt s)
  have HBL := hide hbl
  clear hbl
  go_wp2_with fail
  go_loopw [10] (fun i wr => ∃ k m : Nat, k ≤ xs.length ∧ i = .int .i64 k ∧ wr = w6.drewN m) (fun i _ => xs.length - (intOf i).toNat)
  case atStart => exact ⟨0, 0, Nat.zero_le _, rfl, rfl⟩
  case round =>
    obtain ⟨k, m, hk, rfl, rfl⟩ := hrel
    by_cases hlt : k < xs.length
    · have hne : xs ≠ [] := by intro h; rw [h] at hlt; simp at hlt
      obtain ⟨e2, r2⟩ := Q2.out (N3.out hne)
      have r5 := Q5.out hne
      subst e2
      have hkb : k < (buck (key s) xs).length := by rw [HBL.out]; exact hlt
      have c1 := r2.cell (i := k) (by rw [List.length_append]; omega)
      rw [List.getElem_append_left hkb] at c1
      have c2 := r5.cell hkb
      generalize (buck (key s) xs)[k] = v at c1 c2
      have hky : k < ys.length := by omega
      clear hne r2 r5 hkb
      go_wp2
      go_quiet (fail)
      go_wp2
      go_roundw
      case rel => exact ⟨k + 1, _, by omega, by go_num, rfl⟩
      case measure => simp [intOf]; omega
    · go_wp2_with fail
      clear hk hlt
      obtain ⟨w7, hw7⟩ : ∃ w7, w7 = w6.drewN m := ⟨_, rfl⟩
      have Q1 := hide (fun h => And.intro (Q1.out h).1 ((Q1.out h).2.drewN m))
      have Q2 := hide (fun h => And.intro (Q2.out h).1 ((Q2.out h).2.drewN m))
      have Q3 := hide (fun h => And.intro (Q3.out h).1 ((Q3.out h).2.drewN m))
      have Q4 := hide (fun h => And.intro (Q4.out h).1 ((Q4.out h).2.drewN m))
      have hB7 := below_drewN hB6 m
      rw [← hw7] at Q1 Q2 Q3 Q4 hB7 ⊢
      clear hw7 hB6
      go_loopw [11] (fun i wr => ∃ k m : Nat, xs.length ≤ k ∧ k ≤ ys.length ∧ i = .int .i64 k ∧ wr = w7.drewN m) (fun i _ => ys.length - (intOf i).toNat)
      case atStart => exact ⟨xs.length, 0, Nat.le_refl _, hl, rfl, rfl⟩
      case round =>
        obtain ⟨k, m, hk0, hk, rfl, rfl⟩ := hrel
        by_cases hlt : k < ys.length
        · have hne : ys ≠ [] := by intro h; rw [h] at hlt; simp at hlt
          obtain ⟨e2, r2⟩ := Q2.out hne
          obtain ⟨e4, r4⟩ := Q4.out hne
          subst e2 e4
          have c1 := r2.cell (i := k) (by rw [List.length_append, HBL.out, List.length_drop]; omega)
          rw [List.getElem_append_right (by rw [HBL.out]; exact hk0), List.getElem_drop] at c1
          have c2 := r4.cell hlt
          have ek : xs.length + (k - (buck (key s) xs).length) = k := by rw [HBL.out]; omega
          simp only [ek] at c1
          generalize ys[k] = v at c1 c2
          clear hne r2 r4 ek
          go_wp2
          go_quiet (fail)
          go_wp2
          go_roundw
          case rel => exact ⟨k + 1, _, by omega, by omega, by go_num, rfl⟩
          case measure => simp [intOf]; omega
        · go_wp2_with fail
          clear hk hlt
          obtain ⟨w8, hw8⟩ : ∃ w8, w8 = w7.drewN m := ⟨_, rfl⟩
          have Q1 := hide (fun h => And.intro (Q1.out h).1 ((Q1.out h).2.drewN m))
          have Q3 := hide (fun h => And.intro (Q3.out h).1 ((Q3.out h).2.drewN m))
          have hB8 := below_drewN hB7 m
          rw [← hw8] at Q1 Q3 hB8 ⊢
          clear hw8 hB7
          go_loopw [12] (fun i wr => ∃ k m : Nat, k ≤ xs.length ∧ i = .int .i64 k ∧ wr = w8.drewN m) (fun i _ => xs.length - (intOf i).toNat)
          case atStart => exact ⟨0, 0, Nat.zero_le _, rfl, rfl⟩
          case round =>
            obtain ⟨k, m, hk, rfl, rfl⟩ := hrel
            by_cases hlt : k < xs.length
            · have hne : xs ≠ [] := by intro h; rw [h] at hlt; simp at hlt
              obtain ⟨e1, r1⟩ := Q1.out hne
              obtain ⟨e3, r3⟩ := Q3.out hne
              subst e1 e3
              have c1 := r1.cell hlt
              have c2 := r3.cell hlt
              generalize xs[k] = v at c1 c2
              clear hne r1 r3
              go_wp2
              go_quiet (fail)
              go_wp2
              go_roundw
              case rel => exact ⟨k + 1, _, by omega, by go_num, rfl⟩
              case measure => simp [intOf]; omega
            · go_wp2
              go_ret
              exact ⟨rfl, below_drewN hB8 m⟩

theorem stable_walk (a0 a1 : Option Addr) (c0 c1 : Nat) (a2 : Int) (xs ys : List Nat) (w : World) (hxv : ∀ v ∈ xs, v < 18446744073709551616) (hs : -9223372036854775808 ≤ a2 ∧ a2 ≤ 9223372036854775807)
    (hxc : xs ≠ [] → ∃ b off, a0 = some ⟨b, off, none⟩ ∧ ∀ i (h : i < xs.length), w.cell? ⟨b, off + i, none⟩ = some (.int .u64 ((xs[i] : Nat) : Int)))
    (hyc : ys ≠ [] → ∃ b off, a1 = some ⟨b, off, none⟩ ∧ ∀ i (h : i < ys.length), w.cell? ⟨b, off + i, none⟩ = some (.int .u64 ((ys[i] : Nat) : Int))) :
    Calls Try.prog 3 #[.slice a0 xs.length c0, .slice a1 ys.length c1, .int .i64 a2] w fun e w' => e = .returned (.bool true) ∧ Below w.heap.size w w' := by
  by_cases h : xs.length ≤ 65536 ∧ ys.length ≤ 65536 ∧ 0 ≤ a2 ∧ xs.length ≤ ys.length
  · obtain ⟨h1, h2, h3, h4⟩ := h
    obtain ⟨s, rfl⟩ := Int.eq_ofNat_of_zero_le h3
    exact stable_in a0 a1 c0 c1 s xs ys w hxv (by omega) hxc hyc h1 h2 h4
  · exact stable_out a0 a1 c0 c1 xs.length ys.length a2 w (by omega)
end Go.Proofs.Qxb6619403a
