/-
  THE WALK OF sbbMergeSort.
-/
import Derived.Test.Qxb6619403aTop
import Derived.Test.Qxb6619403aMergePlain
namespace Go.Proofs.Qxb6619403a
open Go.ChangeShapes Go.WideShapes Go.ChangeAt Go.RowKit

/-- sbbMin. -/
theorem min_any (x y : Int) (m : Nat) (hm : (m : Int) = if x < y then x else y) (w : World) :
    Calls Try.prog 13 #[.int .i64 x, .int .i64 y] w fun e w' => e = .returned (.int .i64 m) ∧ w' = w := by
  rw [hm]
  clear hm
  by_cases h : x < y
  · go_enter Try.func13, Try.ntmps13
    go_wp2
    go_ret
    exact ⟨rfl, rfl⟩
  · go_enter Try.func13, Try.ntmps13
    go_wp2
    go_ret
    exact ⟨rfl, rfl⟩

set_option maxRecDepth 100000 in
set_option maxHeartbeats 1000000 in
theorem merge_any (a : Option Addr) (c bf : Nat) (xs : List Nat) (w : World) (hn : xs.length ≤ 1048576)
    (hx : xs ≠ [] → a = some ⟨bf, 0, none⟩ ∧ Rw w bf xs) :
    Calls Try.prog 10 #[.slice a xs.length c] w fun e w' => ∃ b zs, e = .returned (.slice (some ⟨b, 0, none⟩) xs.length xs.length) ∧
      Rw w' b zs ∧ zs.Perm xs ∧ zs.Pairwise (fun x y => x ≤ y) ∧ Below w.heap.size w w' ∧ w.heap.size ≤ b := by
  have hmk := run_make_row' (P := Try.prog) 22 27 (.int .u64 0) 8 Try.underlying22 info27 rfl .i64 .i64 xs.length (by omega) (by omega)
  have HX := hide hx
  clear hx
  go_enter Try.func10, Try.ntmps10
  go_wp2
  go_loopw [5] (fun i wr => ∃ k : Nat, k ≤ xs.length ∧ i = .int .i64 k ∧ Below w.heap.size w wr ∧ wr.heap.size = w.heap.size + 1 ∧ ∃ ys : List Nat, ys.length = xs.length ∧ ys.take k = xs.take k ∧ Rw wr w.heap.size ys)
    (fun i _ => xs.length - (intOf i).toNat)
  case atStart => exact ⟨0, Nat.zero_le _, rfl, (Below.refl _ _).alloc (Nat.le_refl _) _, by simp, _, List.length_replicate, by simp, Rw.made _ _⟩
  case round =>
    obtain ⟨k, hk, rfl, hbel, hsz, ys, hl, htk, hrw⟩ := hrel
    have H1 := hide hl; have H2 := hide htk
    by_cases hlt : k < xs.length
    · have hne : xs ≠ [] := by intro h; rw [h] at hlt; simp at hlt
      obtain ⟨ha, hr1⟩ := HX.out hne
      have hbw := hr1.lt
      have hc1 : wr.cell? ⟨bf, k, none⟩ = some (.int .u64 ((xs[k] : Nat) : Int)) := (hbel.cell (by exact hbw)).trans (hr1.cell hlt)
      obtain ⟨v0, hd1⟩ := hrw.any (i := k) (by omega)
      have hf1 := hrw.free k
      clear hl htk hne hr1 hmk
      subst ha
      go_wp2
      go_roundw
      case rel =>
        refine ⟨k + 1, by omega, by go_num, hbel.setCell (by simp) _, by simpa using hsz, ys.set k xs[k], by rw [List.length_set]; exact H1.out, ?_, hrw.set k _⟩
        rw [take_set_succ _ _ (by have := H1.out; omega), H2.out, List.take_succ_eq_append_getElem hlt]
      case measure => simp [intOf]; omega
    · have ek : k = xs.length := by omega
      have ey : xs = ys := by
        rw [ek, List.take_of_length_le (by omega), List.take_of_length_le (by omega)] at htk
        exact htk.symm
      clear hl htk H1 H2
      subst ey
      subst ek
      go_wp2
      have hr0 := hrw.below ((Below.refl wr.heap.size wr).alloc (Nat.le_refl _) (.cells (madeCells #[.int .u64 0] xs.length) 27)) hrw.lt
      have hr1 := Rw.made wr xs.length
      have hb0 := hbel.alloc hbel.size (.cells (madeCells #[.int .u64 0] xs.length) 27)
      obtain ⟨W0, hW0⟩ : ∃ W0, W0 = wr.alloc (.cells (madeCells #[.int .u64 0] xs.length) 27) := ⟨_, rfl⟩
      rw [← hW0] at hr0 hr1 hb0 ⊢
      rw [hsz] at hr1
      clear hW0 hrw hbel hsz hmk hlt
      go_loopw [4, 6, 7] (fun v4 v6 v7 wr => ∃ bs bd wd : Nat, v4 = .slice (some ⟨bs, 0, none⟩) xs.length xs.length ∧ v6 = .slice (some ⟨bd, 0, none⟩) xs.length xs.length ∧ v7 = .int .i64 wd ∧ 1 ≤ wd ∧ wd ≤ 2097152 ∧
          bs ≠ bd ∧ w.heap.size ≤ bs ∧ w.heap.size ≤ bd ∧ Below w.heap.size w wr ∧ ∃ S D : List Nat, S.length = xs.length ∧ D.length = xs.length ∧ Rw wr bs S ∧ Rw wr bd D ∧ S.Perm xs ∧ CS wd S)
        (fun _ _ v7 _ => xs.length - (intOf v7).toNat)
      case atStart => exact ⟨w.heap.size, w.heap.size + 1, 1, rfl, rfl, rfl, by omega, by omega, by omega, by omega, by omega, hb0, xs, _, rfl, List.length_replicate, hr0, hr1, List.Perm.refl _, CS_one _⟩
      case round =>
        clear hr0 hr1 hb0
        obtain ⟨bs, bd, wd, rfl, rfl, rfl, hw1, hw2, hne, hbs, hbd, hbel, S, D, hSl, hDl, hrS, hrD, hSp, hcs⟩ := hrel
        have HS := hide hSl; have HD := hide hDl; have HP := hide hSp; have HC := hide hcs
        clear hSl hDl hSp hcs
        by_cases hlt : wd < xs.length
        · have hwb : decide ((wd : Int) < (xs.length : Int)) = true := by simp; omega
          go_wp2
          obtain ⟨wo, hwo⟩ : ∃ wo : World, wo = wr := ⟨_, rfl⟩
          rw [← hwo] at hbel hrS hrD ⊢
          clear hwo
          go_loopw [8] (fun v8 wr => ∃ q lo : Nat, lo = q * (2 * wd) ∧ v8 = .int .i64 lo ∧ lo ≤ xs.length + 2 * wd ∧ Below w.heap.size w wr ∧ Rw wr bs S ∧
              ∃ D : List Nat, D.length = xs.length ∧ Rw wr bd D ∧ (D.take lo).Perm (S.take lo) ∧ CS (2 * wd) (D.take lo)) (fun v8 _ => xs.length - (intOf v8).toNat)
          case atStart => exact ⟨0, 0, by omega, rfl, by omega, hbel, hrS, D, HD.out, hrD, by simp, by intro i j hi; simp at hi⟩
          case round =>
            clear hbel hrS hrD HD
            obtain ⟨q, lo, hlo, rfl, hlo2, hbel, hrS, D, hDl, hrD, hDp, hDc⟩ := hrel
            have HL := hide hlo; have HD := hide hDl; have HDP := hide hDp; have HDC := hide hDc
            clear hlo hDl hDp hDc
            by_cases hlt2 : lo < xs.length
            · have hlb : decide ((lo : Int) < (xs.length : Int)) = true := by simp; omega
              obtain ⟨mid, hmid⟩ : ∃ mid, mid = min (lo + wd) xs.length := ⟨_, rfl⟩
              obtain ⟨hi, hhi⟩ : ∃ hi, hi = min (lo + 2 * wd) xs.length := ⟨_, rfl⟩
              have hmi : (mid : Int) = if (lo : Int) + wd < xs.length then (lo : Int) + wd else xs.length := by split <;> omega
              have hhii : (hi : Int) = if (lo : Int) + 2 * wd < xs.length then (lo : Int) + 2 * wd else xs.length := by split <;> omega
              have hm1 : lo ≤ mid := by omega
              have hm2 : mid ≤ hi := by omega
              have hm3 : hi ≤ xs.length := by omega
              have HM := hide hmid; have HH := hide hhi; have HMI := hide hmi; have HHI := hide hhii
              clear hmid hhi hmi hhii
              go_wp2_with fail
              refine (min_any _ _ mid HMI.out _).mono ?_
              rintro e wx ⟨rfl, hwx⟩
              subst hwx
              go_wp2_with fail
              refine (min_any _ _ hi HHI.out _).mono ?_
              rintro e wy ⟨rfl, hwy⟩
              subst hwy
              go_wp2_with fail
              clear HMI HHI
              go_loopw [11, 12, 13] (fun v11 v12 v13 wr => ∃ i j k : Nat, v11 = .int .i64 i ∧ v12 = .int .i64 j ∧ v13 = .int .i64 k ∧ lo ≤ i ∧ i ≤ mid ∧ mid ≤ j ∧ j ≤ hi ∧ k + mid = i + j ∧ Below w.heap.size w wr ∧ Rw wr bs S ∧
                  ∃ D' : List Nat, D'.length = xs.length ∧ Rw wr bd D' ∧ D'.take k ++ mg (seg S i mid) (seg S j hi) = D.take lo ++ mg (seg S lo mid) (seg S mid hi)) (fun _ _ v13 _ => hi - (intOf v13).toNat)
              case atStart => exact ⟨lo, mid, lo, rfl, rfl, rfl, Nat.le_refl _, hm1, Nat.le_refl _, hm2, rfl, hbel, hrS, D, HD.out, hrD, rfl⟩
              case round =>
                clear hbel hrS hrD
                obtain ⟨i, j, k, rfl, rfl, rfl, hi1, hi2, hj1, hj2, hkk, hbel, hrS, D', hDl', hrD, hm⟩ := hrel
                have HK := hide hkk; have HD' := hide hDl'; have HMG := hide hm
                have hk1 : lo ≤ k := by omega
                by_cases hlt3 : k < hi
                · have hkn : k < xs.length := by omega
                  obtain ⟨v0, d0⟩ := hrD.any (i := k) (by omega)
                  have f0 := hrD.free k
                  have hne' : bd ≠ bs := fun h => hne h.symm
                  by_cases hc1 : i < mid
                  · have hin : i < xs.length := by omega
                    have hiS : i < S.length := by rw [HS.out]; exact hin
                    have c1 := hrS.cell hiS
                    by_cases hc2 : j < hi
                    · have hjn : j < xs.length := by omega
                      have hjS : j < S.length := by rw [HS.out]; exact hjn
                      have c2 := hrS.cell hjS
                      by_cases hc3 : S[i] ≤ S[j]
                      · have HLE := hide (show ∀ h : j < S.length, j < hi → S[i] ≤ S[j] from fun _ _ => hc3)
                        have hle : (S[i] : Int) ≤ (S[j] : Int) := by omega
                        clear hkk hDl' hm hc3
                        go_wp2
                        go_quiet (fail)
                        go_wp2
                        go_roundw
                        case rel =>
                          refine ⟨i + 1, j, k + 1, by go_num, rfl, by go_num, by omega, by omega, by omega, by omega, by have := HK.out; omega, (below_drewN hbel nq).setCell hbd _, (hrS.drewN nq).setOther hne _, D'.set k S[i], by rw [List.length_set]; exact HD'.out, (hrD.drewN nq).set k _, ?_⟩
                          exact step_left S D' _ i j k mid hi hiS (by rw [HD'.out]; exact hkn) hc1 HLE.out HMG.out
                        case measure => simp [intOf]; omega
                      · have HLE := hide (show ∀ h : i < S.length, i < mid → ¬ S[i] ≤ S[j] from fun _ _ => hc3)
                        have hle : ¬ (S[i] : Int) ≤ (S[j] : Int) := by omega
                        clear hkk hDl' hm hc3
                        go_wp2
                        go_quiet (fail)
                        go_wp2
                        go_roundw
                        case rel =>
                          refine ⟨i, j + 1, k + 1, rfl, by go_num, by go_num, by omega, by omega, by omega, by omega, by have := HK.out; omega, (below_drewN hbel nq).setCell hbd _, (hrS.drewN nq).setOther hne _, D'.set k S[j], by rw [List.length_set]; exact HD'.out, (hrD.drewN nq).set k _, ?_⟩
                          exact step_right S D' _ i j k mid hi hjS (by rw [HD'.out]; exact hkn) hc2 HLE.out HMG.out
                        case measure => simp [intOf]; omega
                    · have HLE := hide (show ∀ h : j < S.length, j < hi → S[i] ≤ S[j] from fun _ h => absurd h hc2)
                      have hjb : decide ((hi : Int) ≤ (j : Int)) = true := by simp; omega
                      clear hkk hDl' hm
                      go_wp2
                      go_quiet (fail)
                      go_wp2
                      go_roundw
                      case rel =>
                        refine ⟨i + 1, j, k + 1, by go_num, rfl, by go_num, by omega, by omega, by omega, by omega, by have := HK.out; omega, (below_drewN hbel nq).setCell hbd _, (hrS.drewN nq).setOther hne _, D'.set k S[i], by rw [List.length_set]; exact HD'.out, (hrD.drewN nq).set k _, ?_⟩
                        exact step_left S D' _ i j k mid hi hiS (by rw [HD'.out]; exact hkn) hc1 HLE.out HMG.out
                      case measure => simp [intOf]; omega
                  · have hc2 : j < hi := by omega
                    have hjn : j < xs.length := by omega
                    have hjS : j < S.length := by rw [HS.out]; exact hjn
                    have c2 := hrS.cell hjS
                    have HLE := hide (show ∀ h : i < S.length, i < mid → ¬ S[i] ≤ S[j] from fun _ h => absurd h hc1)
                    have hib : decide ((i : Int) < (mid : Int)) = false := by simp; omega
                    clear hkk hDl' hm
                    go_wp2
                    go_quiet (fail)
                    go_wp2
                    go_roundw
                    case rel =>
                      refine ⟨i, j + 1, k + 1, rfl, by go_num, by go_num, by omega, by omega, by omega, by omega, by have := HK.out; omega, (below_drewN hbel nq).setCell hbd _, (hrS.drewN nq).setOther hne _, D'.set k S[j], by rw [List.length_set]; exact HD'.out, (hrD.drewN nq).set k _, ?_⟩
                      exact step_right S D' _ i j k mid hi hjS (by rw [HD'.out]; exact hkn) hc2 HLE.out HMG.out
                    case measure => simp [intOf]; omega
                · have ei : i = mid := by omega
                  have ej : j = hi := by omega
                  have ek : k = hi := by omega
                  subst ei ej ek
                  have hchunk : (D'.take (lo + 2 * wd)).Perm (S.take (lo + 2 * wd)) ∧ CS (2 * wd) (D'.take (lo + 2 * wd)) := by
                    rw [seg_nil S i i (Nat.le_refl _), seg_nil S k k (Nat.le_refl _), mg_nil_left, List.append_nil] at hm
                    have hPl : (D.take lo).length = q * (2 * wd) := by rw [List.length_take, HD.out, ← HL.out]; omega
                    have h2 := HDP.out; have h3 := HDC.out; have h4 := HM.out; have h5 := HH.out
                    have hlt2' := hlt2
                    rw [HL.out] at hm h2 h3 h4 h5 hPl hlt2' ⊢
                    exact merge_chunk wd q (by omega) S D' _ i k xs.length HS.out HD'.out HC.out hlt2' h4 h5 hPl h2 h3 hm
                  have HCH := hide hchunk
                  clear hkk hDl' hm hchunk
                  go_wp2
                  go_roundw
                  case rel =>
                    refine ⟨q + 1, lo + 2 * wd, ?_, by go_num, by omega, hbel, hrS, D', HD'.out, hrD, HCH.out.1, HCH.out.2⟩
                    rw [HL.out, Nat.add_mul, Nat.one_mul]
                  case measure => simp [intOf]; omega
            · have hD2 : D.Perm S ∧ CS (2 * wd) D := by
                have h2 := HDP.out; have h3 := HDC.out
                rw [List.take_of_length_le (by rw [HD.out]; omega)] at h2 h3
                rw [List.take_of_length_le (by rw [HS.out]; omega)] at h2
                exact ⟨h2, h3⟩
              have HD2 := hide hD2
              clear hD2
              go_wp2
              go_roundw
              case rel =>
                refine ⟨bd, bs, wd * 2, rfl, rfl, by go_num, by omega, by omega, Ne.symm hne, hbd, hbs, hbel, D, S, HD.out, HS.out, hrD, hrS, HD2.out.1.trans HP.out, ?_⟩
                rw [Nat.mul_comm]; exact HD2.out.2
              case measure => simp [intOf]; omega
        · go_wp2
          go_ret
          exact ⟨bs, S, rfl, hrS, HP.out, CS_all wd S HC.out (by rw [HS.out]; omega), hbel, hbs⟩
end Go.Proofs.Qxb6619403a
