/-
  THE WALK OF FnSortByByteEightPassesSortAscending.
-/
import Derived.Test.Qxb6619403aMerge
namespace Go.Proofs.Qxb6619403a
open Go.ChangeShapes Go.WideShapes Go.ChangeAt Go.RowKit

theorem bytes9_yes (a0 : Option Addr) (n0 c0 : Nat) (w : World) (h : n0 ≤ 1048576) :
    Calls Try.prog 9 #[.slice a0 n0 c0] w fun e w' => e = .returned (.bool true) ∧ w' = w := by
  go_enter Try.func9, Try.ntmps9
  go_wp2
  go_ret
  exact ⟨rfl, rfl⟩
theorem bytes9_no (a0 : Option Addr) (n0 c0 : Nat) (w : World) (h : ¬ n0 ≤ 1048576) :
    Calls Try.prog 9 #[.slice a0 n0 c0] w fun e w' => e = .returned (.bool false) ∧ w' = w := by
  go_enter Try.func9, Try.ntmps9
  go_wp2
  go_ret
  exact ⟨rfl, rfl⟩

theorem eight_out (a0 : Option Addr) (n0 c0 : Nat) (w : World) (h : ¬ n0 ≤ 131072) :
    Calls Try.prog 4 #[.slice a0 n0 c0] w fun e w' => e = .returned (.bool true) ∧ Below w.heap.size w w' := by
  by_cases hb : n0 ≤ 1048576
  · go_enter Try.func4, Try.ntmps4
    go_wp2_with (go_at_call 9; refine (bytes9_yes _ _ _ _ hb).mono ?_; rintro e w' ⟨rfl, rfl⟩)
    go_ret
    exact ⟨rfl, Below.refl _ _⟩
  · go_enter Try.func4, Try.ntmps4
    go_wp2_with (go_at_call 9; refine (bytes9_no _ _ _ _ hb).mono ?_; rintro e w' ⟨rfl, rfl⟩)
    go_ret
    exact ⟨rfl, Below.refl _ _⟩

/-- One pass, both rows of n words: what was in block bf, bucketed, lies in block bt. -/
theorem pass_any (a t : Option Addr) (si : Int) (p ca ct bf bt n : Nat) (xs : List Nat) (w : World) (hsi : si = (8 * p : Nat)) (hn : n ≤ 1048576) (hxl : xs.length = n) (hv : ∀ v ∈ xs, v < 18446744073709551616)
    (hx : xs ≠ [] → a = some ⟨bf, 0, none⟩ ∧ Rw w bf (passN p xs)) (hy : xs ≠ [] → t = some ⟨bt, 0, none⟩ ∧ ∃ ys : List Nat, ys.length = n ∧ Rw w bt ys) (hne : xs ≠ [] → bf ≠ bt) :
    Calls Try.prog 8 #[.slice a n ca, .slice t n ct, .int .i64 si] w fun e w' => e = .returned (.tuple #[]) ∧
      Kpt w.heap.size bt w w' ∧ (xs ≠ [] → Rw w' bt (passN (p + 1) xs)) := by
  subst hsi
  obtain ⟨ys, hyl, hys⟩ : ∃ ys : List Nat, ys.length = n ∧ (xs ≠ [] → t = some ⟨bt, 0, none⟩ ∧ Rw w bt ys) := by
    by_cases h : xs = []
    · exact ⟨[], by rw [← hxl, h], fun h' => absurd h h'⟩
    · obtain ⟨e1, ys, e2, e3⟩ := hy h
      exact ⟨ys, e2, fun _ => ⟨e1, e3⟩⟩
  have hpl := passN_length p xs
  have e1 : passN p xs ≠ [] → xs ≠ [] := by intro h e; exact h (List.length_eq_zero_iff.1 (by rw [hpl, e]; rfl))
  have e2 : ys ≠ [] → xs ≠ [] := by intro h e; rw [e] at hxl; exact h (List.length_eq_zero_iff.1 (by rw [hyl, ← hxl]; rfl))
  have hz := zsort_all a t (8 * p) ca ct bf bt (passN p xs) ys w (by omega) (by omega) (passN_lt p xs hv) (fun h => hx (e1 h)) (fun h => hys (e2 h)) (fun h => hne (e1 h))
  rw [hpl, hxl, hyl] at hz
  refine hz.mono ?_
  rintro e w' ⟨rfl, h1, h2⟩
  refine ⟨rfl, h1, fun h => ?_⟩
  have hy' : ys ≠ [] := by intro e; rw [e] at hyl; exact h (List.length_eq_zero_iff.1 (by rw [hxl, ← hyl]; rfl))
  have h3 := (h2 hy').2
  rw [List.drop_eq_nil_of_le (by omega), List.append_nil] at h3
  exact h3

set_option maxRecDepth 100000 in
set_option maxHeartbeats 1000000 in
theorem eight_in (a0 : Option Addr) (c0 : Nat) (xs : List Nat) (w : World) (hxv : ∀ v ∈ xs, v < 18446744073709551616)
    (hxc : xs ≠ [] → ∃ b off, a0 = some ⟨b, off, none⟩ ∧ ∀ i (h : i < xs.length), w.cell? ⟨b, off + i, none⟩ = some (.int .u64 ((xs[i] : Nat) : Int)))
    (hx : xs.length ≤ 131072) :
    Calls Try.prog 4 #[.slice a0 xs.length c0] w fun e w' => e = .returned (.bool true) ∧ Below w.heap.size w w' := by
  have hmk := run_make_row' (P := Try.prog) 22 27 (.int .u64 0) 8 Try.underlying22 info27 rfl .i64 .i64 xs.length (by omega) (by omega)
  have HX := hide hxc; have HV := hide hxv
  clear hxc hxv
  have hx' : xs.length ≤ 1048576 := by omega
  have hxb : decide ((131072 : Int) < (xs.length : Int)) = false := by simp; omega
  go_enter Try.func4, Try.ntmps4
  go_wp2_with fail
  refine (bytes9_yes _ _ _ _ hx').mono ?_
  rintro e w' ⟨rfl, hw'⟩
  subst hw'
  go_wp2_with fail
  refine (clone_any a0 c0 xs _ hx' HX.out).mono ?_
  rintro e w1 ⟨p1, rfl, hb1, h1⟩
  have H1 := hide h1
  clear h1
  go_wp2_with fail
  refine (merge_any p1 xs.length _ xs _ hx' H1.out).mono ?_
  rintro e w2 ⟨bw, zs, rfl, hz2, hzp, hzs, hb2, hbw⟩
  have H2 := hide hzp; have H3 := hide hzs
  clear hzp hzs
  go_wp2_with fail
  refine (clone_any p1 xs.length xs _ hx' (own_cells (own_below H1.out hb2))).mono ?_
  rintro e w3 ⟨p3, rfl, hb3, h3⟩
  have H4 := hide h3
  clear h3
  go_wp2
  have hb12 : Below w'.heap.size w' w2 := hb1.trans (hb2.mono hb1.size)
  have hb13 : Below w'.heap.size w' w3 := hb12.trans (hb3.mono hb12.size)
  have hb4 := (Below.refl w3.heap.size w3).alloc (Nat.le_refl _) (.cells (madeCells #[.int .u64 0] xs.length) 27)
  have hb14 : Below w'.heap.size w' (w3.alloc (.cells (madeCells #[.int .u64 0] xs.length) 27)) := hb13.trans (hb4.mono hb13.size)
  have r3 := Rw.made w3 xs.length
  have q3 := own_below H4.out hb4
  have rz : Rw (w3.alloc (.cells (madeCells #[.int .u64 0] xs.length) 27)) bw zs := (hz2.below hb3 hz2.lt).below hb4 (hz2.below hb3 hz2.lt).lt
  have lw2 : bw < w2.heap.size := hz2.lt
  have l23 : w2.heap.size ≤ w3.heap.size := hb3.size
  have l12 : w'.heap.size ≤ w2.heap.size := hb12.size
  have l01 : w'.heap.size ≤ bw := Nat.le_trans hb1.size hbw
  have n23 : xs ≠ [] → w2.heap.size < w3.heap.size := fun h => (H4.out h).2.lt
  obtain ⟨W4, hW4⟩ : ∃ W4, W4 = w3.alloc (.cells (madeCells #[.int .u64 0] xs.length) 27) := ⟨_, rfl⟩
  rw [← hW4] at hb14 r3 q3 rz ⊢
  clear hW4 hb4 hz2 hb12 hb13 hb1 hb2 hb3 H1 H4 HX hmk hbw
  obtain ⟨B2, hB2⟩ : ∃ B2, B2 = w2.heap.size := ⟨_, rfl⟩
  obtain ⟨B3, hB3⟩ : ∃ B3, B3 = w3.heap.size := ⟨_, rfl⟩
  rw [← hB2] at lw2 l23 l12 n23 q3
  rw [← hB3] at l23 n23 r3 ⊢
  clear hB2 hB3
  have Q3 := hide q3; have N23 := hide n23
  clear q3 n23
  go_loopw [6] (fun i wr => ∃ p : Nat, p ≤ 8 ∧ i = .int .i64 p ∧ Below w'.heap.size w' wr ∧ Rw wr bw zs ∧ B3 < wr.heap.size ∧
      (xs ≠ [] → p3 = some ⟨B2, 0, none⟩ ∧ ∃ A B : List Nat, A.length = xs.length ∧ B.length = xs.length ∧ Rw wr B2 A ∧ Rw wr B3 B ∧ (p % 2 = 0 → A = passN p xs) ∧ (p % 2 = 1 → B = passN p xs)))
    (fun i _ => 8 - (intOf i).toNat)
  case atStart => exact ⟨0, by omega, rfl, hb14, rz, r3.lt, fun h => ⟨(Q3.out h).1, xs, _, rfl, List.length_replicate, (Q3.out h).2, r3, fun _ => rfl, fun h => absurd h (by omega)⟩⟩
  case round =>
    clear hb14 rz r3 Q3
    obtain ⟨p, hp, rfl, hbel, hrz, hB3, hab⟩ := hrel
    have HAB := hide hab
    clear hab
    by_cases hlt : p < 8
    · by_cases hpar : p % 2 = 0
      · have hpb : (((p : Int) % 2) == 0) = true := by simp; omega
        have HPar := hide hpar
        clear hpar
        go_wp2_with fail
        refine (pass_any p3 (some ⟨B3, 0, none⟩) _ p xs.length xs.length B2 B3 xs.length xs wr (by omega) hx' rfl HV.out ?hA ?hB (fun h => Nat.ne_of_lt (N23.out h))).mono ?_
        case hA =>
          intro h
          obtain ⟨e1, A, B, hA, hB, rA, rB, i1, i2⟩ := HAB.out h
          rw [i1 HPar.out] at rA
          exact ⟨e1, rA⟩
        case hB =>
          intro h
          obtain ⟨e1, A, B, hA, hB, rA, rB, i1, i2⟩ := HAB.out h
          exact ⟨rfl, B, hB, rB⟩
        rintro e wx ⟨rfl, hk, hr⟩
        have HR := hide hr
        clear hr
        go_wp2
        go_roundw
        case rel =>
          refine ⟨p + 1, by omega, by go_num, hbel.trans (hk.below hbel.size (by omega)), hrz.of_block (hk.block bw hrz.lt (by omega)), by have := hk.size; omega, fun h => ?_⟩
          obtain ⟨e1, A, B, hA, hB, rA, rB, i1, i2⟩ := HAB.out h
          exact ⟨e1, A, passN (p + 1) xs, hA, passN_length _ _, rA.of_block (hk.block B2 rA.lt (Nat.ne_of_lt (N23.out h))), HR.out h, fun h' => absurd h' (by have := HPar.out; omega), fun _ => rfl⟩
        case measure => simp [intOf]; omega
      · have hpb : (((p : Int) % 2) == 0) = false := by simp; omega
        have HPar := hide hpar
        clear hpar
        go_wp2_with fail
        refine (pass_any (some ⟨B3, 0, none⟩) p3 _ p xs.length xs.length B3 B2 xs.length xs wr (by omega) hx' rfl HV.out ?hA ?hB (fun h => Nat.ne_of_gt (N23.out h))).mono ?_
        case hA =>
          intro h
          obtain ⟨e1, A, B, hA, hB, rA, rB, i1, i2⟩ := HAB.out h
          rw [i2 (by have := HPar.out; omega)] at rB
          exact ⟨rfl, rB⟩
        case hB =>
          intro h
          obtain ⟨e1, A, B, hA, hB, rA, rB, i1, i2⟩ := HAB.out h
          exact ⟨e1, A, hA, rA⟩
        rintro e wx ⟨rfl, hk, hr⟩
        have HR := hide hr
        clear hr
        go_wp2
        go_roundw
        case rel =>
          refine ⟨p + 1, by omega, by go_num, hbel.trans (hk.below hbel.size (by omega)), hrz.of_block (hk.block bw hrz.lt (by omega)), by have := hk.size; omega, fun h => ?_⟩
          obtain ⟨e1, A, B, hA, hB, rA, rB, i1, i2⟩ := HAB.out h
          exact ⟨e1, passN (p + 1) xs, B, passN_length _ _, hB, HR.out h, rB.of_block (hk.block B3 rB.lt (Nat.ne_of_gt (N23.out h))), fun _ => rfl, fun h' => absurd h' (by have := HPar.out; omega)⟩
        case measure => simp [intOf]; omega
    · have hp8 : p = 8 := by omega
      have hlz : zs.length = xs.length := H2.out.length_eq
      have hr3 : xs ≠ [] → p3 = some ⟨B2, 0, none⟩ ∧ Rw wr B2 zs := by
        intro h
        obtain ⟨e1, A, B, hA, hB, rA, rB, i1, i2⟩ := HAB.out h
        rw [i1 (by rw [hp8]), hp8, eight xs zs HV.out H2.out H3.out] at rA
        exact ⟨e1, rA⟩
      have HL := hide hlz; have HR3 := hide hr3
      clear hlz hr3 HAB hp8
      go_wp2_with fail
      obtain ⟨w5, hw5⟩ : ∃ w5 : World, w5 = wr := ⟨_, rfl⟩
      rw [← hw5] at hbel hrz HR3 ⊢
      clear hw5 hB3
      go_loopw [7] (fun i wr => ∃ k m : Nat, k ≤ xs.length ∧ i = .int .i64 k ∧ wr = w5.drewN m) (fun i _ => xs.length - (intOf i).toNat)
      case atStart => exact ⟨0, 0, Nat.zero_le _, rfl, rfl⟩
      case round =>
        obtain ⟨k, m, hk, rfl, rfl⟩ := hrel
        by_cases hlt : k < xs.length
        · have hne : xs ≠ [] := by intro h; rw [h] at hlt; simp at hlt
          obtain ⟨e3, r3⟩ := HR3.out hne
          subst e3
          have hkz : k < zs.length := by rw [HL.out]; exact hlt
          have c1 := r3.cell hkz
          have c2 := hrz.cell hkz
          generalize zs[k] = v at c1 c2
          clear hne r3 hkz
          go_wp2
          go_quiet (fail)
          go_wp2
          go_roundw
          case rel => exact ⟨k + 1, _, by omega, by go_num, rfl⟩
          case measure => simp [intOf]; omega
        · go_wp2
          go_ret
          exact ⟨rfl, below_drewN hbel m⟩

theorem eight_walk (a0 : Option Addr) (c0 : Nat) (xs : List Nat) (w : World) (hxv : ∀ v ∈ xs, v < 18446744073709551616)
    (hxc : xs ≠ [] → ∃ b off, a0 = some ⟨b, off, none⟩ ∧ ∀ i (h : i < xs.length), w.cell? ⟨b, off + i, none⟩ = some (.int .u64 ((xs[i] : Nat) : Int))) :
    Calls Try.prog 4 #[.slice a0 xs.length c0] w fun e w' => e = .returned (.bool true) ∧ Below w.heap.size w w' := by
  by_cases h : xs.length ≤ 131072
  · exact eight_in a0 c0 xs w hxv hxc h
  · exact eight_out a0 xs.length c0 w h
end Go.Proofs.Qxb6619403a
