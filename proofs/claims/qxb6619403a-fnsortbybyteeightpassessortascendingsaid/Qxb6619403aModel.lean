/-
  THE WALK OF sbbBucketModel: it makes the bucket sort of 'from'.
-/
import Derived.Test.Qxb6619403aSort
namespace Go.Proofs.Qxb6619403a
open Go.ChangeShapes Go.WideShapes Go.ChangeAt Go.RowKit

set_option maxRecDepth 100000 in
set_option maxHeartbeats 400000 in
theorem model_any (a : Option Addr) (s ca bf : Nat) (xs : List Nat) (w : World) (hn : xs.length ≤ 1048576) (hs : s < 9223372036854775808)
    (hx : xs ≠ [] → a = some ⟨bf, 0, none⟩ ∧ Rw w bf xs ∧ ∀ v ∈ xs, v < 18446744073709551616) :
    Calls Try.prog 7 #[.slice a xs.length ca, .int .i64 s] w fun e w' => e = .returned (.slice (some ⟨w.heap.size, 0, none⟩) xs.length xs.length) ∧
      Below w.heap.size w w' ∧ w'.heap.size = w.heap.size + 1 ∧ Rw w' w.heap.size (buck (key s) xs) := by
  have hmk := run_make_row' (P := Try.prog) 22 27 (.int .u64 0) 8 Try.underlying22 info27 rfl .i64 .i64 xs.length (by omega) (by omega)
  have HX := hide hx
  clear hx
  go_enter Try.func7, Try.ntmps7
  go_wp2
  clear hmk
  go_loopw [6, 7, 8] (fun kk dd _ wr => ∃ d : Nat, d ≤ 256 ∧ kk = .int .i64 (C (key s) d xs : Nat) ∧ dd = .int .i64 d ∧ Below w.heap.size w wr ∧ wr.heap.size = w.heap.size + 1 ∧
      ∃ ys : List Nat, ys.length = xs.length ∧ ys.take (C (key s) d xs) = buckN (key s) d xs ∧ Rw wr w.heap.size ys) (fun _ dd _ _ => 256 - (intOf dd).toNat)
  case atStart => exact ⟨0, by omega, by rw [C_zero]; rfl, rfl, (Below.refl _ _).alloc (Nat.le_refl _) _, by simp, _, List.length_replicate, by simp [C_zero, buckN], Rw.made _ _⟩
  case round =>
    obtain ⟨d, hd, rfl, rfl, hbel, hsz, ys, hyl, hyt, hrw⟩ := hrel
    have H1 := hide hyl; have H2 := hide hyt
    clear hyl hyt
    have hC := C_le (key s) xs d
    by_cases hlt : d < 256
    · have hdb : decide ((d : Int) < 256) = true := by simp; omega
      go_wp2
      obtain ⟨wo, hwo⟩ : ∃ wo : World, wo = wr := ⟨_, rfl⟩
      rw [← hwo] at hbel hsz hrw ⊢
      clear hwo
      go_loopw [6, 8] (fun kk ii wr => ∃ i : Nat, i ≤ xs.length ∧ kk = .int .i64 ((C (key s) d xs + (F (key s) d (xs.take i)).length : Nat) : Int) ∧ ii = .int .i64 i ∧ Below w.heap.size w wr ∧ wr.heap.size = w.heap.size + 1 ∧
          ∃ ys : List Nat, ys.length = xs.length ∧ ys.take (C (key s) d xs + (F (key s) d (xs.take i)).length) = buckN (key s) d xs ++ F (key s) d (xs.take i) ∧ Rw wr w.heap.size ys) (fun _ ii _ => xs.length - (intOf ii).toNat)
      case atStart => exact ⟨0, by omega, by simp [F], rfl, hbel, hsz, ys, H1.out, by simpa [F] using H2.out, hrw⟩
      case round =>
        clear hbel hsz H1 H2 hrw
        obtain ⟨i, hi, rfl, rfl, hbel, hsz, ys, hyl, hyt, hrw⟩ := hrel
        have H1 := hide hyl; have H2 := hide hyt
        clear hyl hyt
        have hC2 := C_succ (key s) xs d
        have hC3 := C_le (key s) xs (d + 1)
        have hF := F_take_le (key s) xs d i
        obtain ⟨p, hp⟩ : ∃ p, p = C (key s) d xs + (F (key s) d (xs.take i)).length := ⟨_, rfl⟩
        have hple : p ≤ xs.length := by omega
        clear hC hC3 hF
        rw [← hp]
        have HP := hide hp; have HC2 := hide hC2
        clear hp hC2
        by_cases hlt : i < xs.length
        · have hne : xs ≠ [] := by intro h; rw [h] at hlt; simp at hlt
          obtain ⟨ha, hr1, hv⟩ := HX.out hne
          have hbf := hr1.lt
          have c1 : wr.cell? ⟨bf, i, none⟩ = some (.int .u64 ((xs[i] : Nat) : Int)) := (hbel.cell (by exact hbf)).trans (hr1.cell hlt)
          have hvj : xs[i] < 18446744073709551616 := hv _ (List.getElem_mem hlt)
          have HV := hide hvj
          have hkl := key_lt s xs[i]
          clear hne hv hvj hr1
          subst ha
          by_cases hk : key s xs[i] = d
          · have hkb : ((key s xs[i] : Int) == (d : Int)) = true := by simp [hk]
            have hpl : p < xs.length := by
              have h1 := F_take_lt (key s) xs i hlt
              rw [hk] at h1
              have h2 := C_succ (key s) xs d
              have h3 := C_le (key s) xs (d + 1)
              rw [HP.out]; omega
            obtain ⟨v3, c3⟩ := hrw.any (i := p) (by rw [H1.out]; exact hpl)
            have f3 := hrw.free p
            have HK := hide hk
            clear hk
            go_wp2_with (go_at_call 11; refine (key_any _ _ _ HV.out hs).mono ?_; rintro e w' ⟨rfl, rfl⟩)
            go_roundw
            case rel =>
              have e1 := F_take_succ (key s) xs d i hlt
              rw [if_pos HK.out] at e1
              have e2 : C (key s) d xs + (F (key s) d (xs.take (i + 1))).length = p + 1 := by rw [e1, HP.out]; simp; omega
              refine ⟨i + 1, by omega, by rw [e2]; go_num, by go_num, hbel.setCell (by simp) _, by simpa using hsz, ys.set p xs[i], by rw [List.length_set]; exact H1.out, ?_, hrw.set p _⟩
              rw [e2, take_set_succ _ _ (by rw [H1.out]; exact hpl), e1, ← List.append_assoc, ← H2.out, HP.out]
            case measure => simp [intOf]; omega
          · have hkb : ((key s xs[i] : Int) == (d : Int)) = false := by simp; omega
            have HK := hide hk
            clear hk
            go_wp2_with (go_at_call 11; refine (key_any _ _ _ HV.out hs).mono ?_; rintro e w' ⟨rfl, rfl⟩)
            go_roundw
            case rel =>
              have e1 := F_take_succ (key s) xs d i hlt
              rw [if_neg HK.out, List.append_nil] at e1
              refine ⟨i + 1, by omega, by rw [e1, ← HP.out], by go_num, hbel, hsz, ys, H1.out, by rw [e1]; exact H2.out, hrw⟩
            case measure => simp [intOf]; omega
        · have hie : i = xs.length := by omega
          subst hie
          go_wp2
          go_roundw
          case rel =>
            have h2 := H2.out
            rw [List.take_length] at h2
            refine ⟨d + 1, by omega, ?_, by go_num, hbel, hsz, ys, H1.out, ?_, hrw⟩
            · rw [HC2.out, HP.out, List.take_length]
            · rw [HC2.out, h2, buckN_succ]
          case measure => simp [intOf]; omega
    · have hde : d = 256 := by omega
      subst hde
      go_wp2
      go_ret
      have h2 := H2.out
      rw [C_all (key s) xs 256 (key_lt s), List.take_of_length_le (by rw [H1.out]; omega)] at h2
      rw [h2] at hrw
      exact ⟨rfl, hbel, hsz, hrw⟩
end Go.Proofs.Qxb6619403a
