/-
  THE WALK OF FnHuffmanSubTablesDecodeAsFlat, A TABLE OF THE RIGHT LENGTH.
-/
import Derived.Test.Qxb6619418aHuff
import Derived.Test.Qxb6619418aTable
namespace Go.Proofs.Qxb6619418a.Huff
open Go.ChangeShapes Go.WideShapes Go.ChangeAt Go.RowKit

theorem make_runs (R N : Nat) (hR : R ≤ 32768) (hN : N ≤ 32768) (w : World) :
    (Instr.makeSlice 23 (.int .i64 (R : Int)) (.int .i64 ((R : Int) + (N : Int)))).run Try.prog w = .ok (.slice (some ⟨w.heap.size, 0, none⟩) R (R + N)) (w.alloc (.cells (madeCells #[.int .u32 0] (R + N)) 26)) := by
  obtain ⟨i0, hi, hz0, hz1, hz2⟩ := info_parts info26
  have h := run_make (P := Try.prog) w 23 26 i0 (.int .u32 0) Try.underlying23 hi hz0 .i64 .i64 (R : Int) ((R : Int) + (N : Int)) (by omega) (by omega) (by rw [hz2]; omega) (by omega)
  have e1 : ((R : Int) + (N : Int)).toNat = R + N := by omega
  have e2 : ((R : Int)).toNat = R := by omega
  rw [e1, e2, hz1, Nat.mul_one] at h
  exact h

/-- The entries: E, in block be, with room for 'cap'. -/
def Ent (w : World) (B be cap : Nat) (E : List Nat) : Prop := w.ownsRow B 26 1 (.slice (some ⟨be, 0, none⟩) E.length cap) E.length (E.map V)

theorem Ent.born (w : World) (B R N : Nat) (hB : B ≤ w.heap.size) (hR : R ≤ 32768) (hN : N ≤ 32768) : Ent (w.alloc (.cells (madeCells #[.int .u32 0] (R + N)) 26)) B w.heap.size (R + N) (List.replicate R 0) := by
  unfold Ent
  rw [List.length_replicate]
  refine ⟨by simp, .inr ⟨w.heap.size, R + N, _, rfl, hB, heap_alloc_new _ _, by omega, by unfold maxLen; omega, by simp [size_madeCells], ?_⟩⟩
  apply List.ext_getElem?
  intro i
  by_cases hi : i < R
  · have h1 : i < R + N := by omega
    have h2 : i < R * 1 := by omega
    rw [List.getElem?_take_of_lt h2]
    simp [madeCells, hi, h1, Nat.mod_one, V]
  · have e1 : ((madeCells #[Value.int .u32 0] (R + N)).toList.take (R * 1))[i]? = none := by
      rw [List.getElem?_eq_none_iff, List.length_take]; omega
    have e2 : ((List.replicate R 0).map V)[i]? = none := by
      rw [List.getElem?_eq_none_iff]; simp; omega
    rw [e1, e2]

section
variable {w : World} {B be cap : Nat} {E : List Nat}
theorem Ent.cell (h : Ent w B be cap E) {i : Nat} (hi : i < E.length) : w.cell? ⟨be, i, none⟩ = some (.int .u32 ((E[i] : Nat) : Int)) := by
  have h1 := World.ownsRow.cellAt h i (by omega)
  rw [h1]
  simp [hi, V]
theorem Ent.any (h : Ent w B be cap E) {i : Nat} (hi : i < E.length) : ∃ v : Int, w.cell? ⟨be, i, none⟩ = some (.int .u32 v) := ⟨_, h.cell hi⟩
theorem Ent.free (h : Ent w B be cap E) (i : Nat) : w.frozen? ⟨be, i, none⟩ = false := World.ownsRow.frozenAt h i
theorem Ent.set (h : Ent w B be cap E) (i v : Nat) : Ent (w.setCell ⟨be, i, none⟩ (.int .u32 v)) B be cap (E.set i v) := by
  have h1 := (World.ownsRow.stored h i (.int .u32 v)).1
  unfold Ent
  rw [List.length_set, List.map_set]
  exact h1
theorem Ent.drewN (h : Ent w B be cap E) (n : Nat) : Ent (w.drewN n) B be cap E := h
end
theorem Rw.drewN {t : TypeId} {w : World} {b : Nat} {xs : List Nat} (h : Rw t w b xs) (n : Nat) : Rw t (w.drewN n) b xs := h.of_block rfl
theorem Rw.setOther {t : TypeId} {w : World} {b : Nat} {xs : List Nat} (h : Rw t w b xs) {a : Addr} (ha : b ≠ a.block) (v : Value) : Rw t (w.setCell a v) b xs := World.rowIs.setOther h ha v

theorem nolink (e : Nat) (he : e < 4294967296) : (bits .and .u32 ((e : Int) / 256) 7 == 4) = decide (e / 256 % 8 = 4) := by
  rw [and7 e he, Bool.eq_iff_iff]
  simp only [beq_iff_eq, decide_eq_true_eq]
  omega

theorem shl_is (k r R mm : Nat) (hR : R = 2 ^ r) (hm : mm = k * R) (hb : mm ≤ 65536) : wrap64 ((k : Int) * 2 ^ r) = (mm : Int) := by
  have e : ((2 : Int) ^ r) = ((2 ^ r : Nat) : Int) := by simp
  rw [e, ← hR, ← Int.natCast_mul, ← hm]
  unfold wrap64
  omega
theorem shl_is' (k r R mm : Nat) (hR : R = 2 ^ r) (hm : mm = k * R) (hb : mm ≤ 65536) : IntKind.i64.wrap ((k : Int) * 2 ^ r) = (mm : Int) := by
  have h := shl_is k r R mm hR hm hb
  rw [IntKind.wrap_i64]
  unfold wrap64 at h
  exact h
theorem add_is' (i mm : Nat) (h : i + mm ≤ 65536) : IntKind.i64.wrap ((i : Int) + (mm : Int)) = (i : Int) + (mm : Int) := by
  rw [IntKind.wrap_i64]; omega
theorem or_link (L r x : Nat) (hL : L ≤ 65535) (h : r + x ≤ 15) :
    bits .or .u32 (bits .or .u32 (bits .or .u32 ((L : Int) * 65536) 1024) ((x : Int) * 16)) ((r : Int) + (x : Int)) = ((linkE L x (r + x) : Nat) : Int) := by
  have e1 : ((L : Int) * 65536) = ((L * 65536 : Nat) : Int) := by omega
  have e2 : (1024 : Int) = ((1024 : Nat) : Int) := rfl
  have e3 : ((x : Int) * 16) = ((x * 16 : Nat) : Int) := by omega
  have e4 : ((r : Int) + (x : Int)) = ((r + x : Nat) : Int) := by omega
  have j1 : L * 65536 ||| 1024 = L * 65536 + 1024 := nat_join 16 _ _ (by omega) (by omega)
  have j2 : (L * 65536 + 1024) ||| x * 16 = L * 65536 + 1024 + x * 16 := nat_join 10 _ _ (by omega) (by omega)
  have j3 : (L * 65536 + 1024 + x * 16) ||| (r + x) = L * 65536 + 1024 + x * 16 + (r + x) := nat_join 4 _ _ (by omega) (by omega)
  rw [e1, e2, u32_or_nat _ _ (by omega) (by omega), j1, e3, u32_or_nat _ _ (by omega) (by omega), j2, e4, u32_or_nat _ _ (by omega) (by omega), j3]
  rfl
theorem and_top (b y N : Nat) (hb : b < 18446744073709551616) (hy : y ≤ 15) (hN : N = 2 ^ y) : bits .and .u64 (b : Int) ((N : Int) - 1) = ((b % N : Nat) : Int) := by
  have h := and_low b y hb hy
  have h1 : 1 ≤ 2 ^ y := Nat.one_le_two_pow
  rw [← hN] at h h1
  have e : ((N : Int) - 1) = ((N - 1 : Nat) : Int) := by omega
  rw [e]; exact h
theorem ret_bool {b : Bool} (h : b = true) : Ending.returned (.bool b) = .returned (.bool true) := by rw [h]
theorem zz_call (be c r M b f n : Nat) (ri Mi : Int) (E : List Nat) (w : World) (hri : ri = r) (hMi : Mi = M) (hlen : E.length = n) (hn : E.length ≤ 1048576) (hb : b < 18446744073709551616)
    (hE : ∀ i (h : i < E.length), w.cell? ⟨be, i, none⟩ = some (.int .u32 ((E[i] : Nat) : Int))) (hL : LookIs E r M b f) :
    Calls Try.prog 6 #[.slice (some ⟨be, 0, none⟩) n c, .int .u64 ri, .int .u64 Mi, .int .u64 b] w fun e' w' => e' = .returned (.int .u32 f) ∧ Below w.heap.size w w' := by
  subst hri hMi hlen
  exact zz_any be c r M b f E w hn hb hE hL
theorem owns_grown {w w' : World} {be b : Nat} {fl : List Nat} (h : Rw 26 w b fl) (hg : w.grownBy w' (some be)) (hne : b ≠ be) : Rw 26 w' b fl :=
  h.of_block (hg.block b h.lt (by intro e; exact hne (Option.some.inj e)))

theorem step_bound (k R X : Nat) (h : k < X) : k * R + R ≤ R * X := by
  have h1 : (k + 1) * R ≤ X * R := Nat.mul_le_mul_right R (by omega)
  rw [Nat.add_mul, Nat.one_mul, Nat.mul_comm X] at h1
  exact h1

set_option maxRecDepth 100000 in
set_option maxHeartbeats 4000000 in
theorem huff_main (r x b c : Nat) (ad : Addr) (fl : List Nat) (w : World) (h : r + x ≤ 15) (hb : b < 18446744073709551616) (hc : ∀ j v, (fl.map V)[j]? = some v → w.cell? (ad.add j) = some v) (hlen : fl.length = 2 ^ (r + x)) (hv : ∀ v ∈ fl, v < 4294967296) :
    Calls Try.prog 3 #[.int .u64 r, .int .u64 x, .slice (some ad) fl.length c, .int .u64 b] w fun e w' => e = .returned (.bool true) ∧ Below w.heap.size w w' := by
  have hnil := fun wx => run_neq_slice_nil_any (P := Try.prog) wx 23 26 (some ad) fl.length c 0 0 Try.underlying23
  obtain ⟨w2, hcp, hrw, hbel⟩ := copy_runs ad c fl w hc
  obtain ⟨N, hN, hN1, hN2, hN3⟩ := pow64 (r + x) h
  obtain ⟨R, hR, hR1, hR2, hR3⟩ := pow64 r (by omega)
  obtain ⟨X, hX, hX1, hX2, hX3⟩ := pow64 x (by omega)
  rw [← hN3] at hlen
  have hmk := run_make_row' (P := Try.prog) 23 26 (.int .u32 0) 4 Try.underlying23 info26 rfl .i64 .i64 N (by omega) (by omega)
  have hmk2 := make_runs R N hR2 hN2
  rw [hlen] at hcp hnil ⊢
  have HL := hide hlen; have HN := hide hN3; have HR := hide hR3; have HX := hide hX3; have HV := hide hv; have HB := hide hb
  clear hc hlen hN3 hR3 hX3 hv hb
  have hNb : ((N : Int) != (N : Int)) = false := by simp
  have t1 : decide ((131072 : Int) < (N : Int)) = false := by simp; omega
  have t2 : decide ((15 : Int) < (r : Int)) = false := by simp; omega
  have t3 : decide ((15 : Int) < (x : Int)) = false := by simp; omega
  have t4 : decide ((15 : Int) < (r : Int) + (x : Int)) = false := by simp; omega
  go_enter Try.func3, Try.ntmps3
  go_wp2_with fail
  refine (bytes5_yes _ _ _ _ _ _ _ (by omega)).mono ?_
  rintro e w' ⟨rfl, rfl⟩
  go_wp2
  clear hcp hnil hmk hNb t1 t2 t3 t4
  go_loop [11] (fun j => ∃ k : Nat, k ≤ N ∧ j = .int .i64 k ∧ ∀ i v, i < k → fl[i]? = some v → v / 256 % 8 ≠ 4) (fun j => N - (intOf j).toNat)
  case atStart => exact ⟨0, Nat.zero_le _, rfl, fun i v h => absurd h (by omega)⟩
  case round =>
    obtain ⟨k, hk, rfl, hno⟩ := hrel
    have HNO := hide hno
    clear hno
    by_cases hlt : k < N
    · have hkl : k < fl.length := by rw [HL.out]; exact hlt
      have c1 := hrw.cell hkl
      have hkk := nolink fl[k] (HV.out _ (List.getElem_mem hkl))
      by_cases hki : fl[k] / 256 % 8 = 4
      · rw [decide_eq_true hki] at hkk
        clear hki
        go_wp2
        go_ret
        exact ⟨rfl, hbel⟩
      · rw [decide_eq_false hki] at hkk
        have HK := hide hki
        clear hki
        go_wp2
        go_round
        case rel =>
          refine ⟨k + 1, by omega, by go_num, fun i v h1 h2 => ?_⟩
          by_cases e : i = k
          · subst e
            rw [List.getElem?_eq_getElem hkl] at h2
            rw [← Option.some.inj h2]; exact HK.out
          · exact HNO.out i v (by omega) h2
        case measure => simp [intOf]; omega
    · have hke : k = N := by omega
      have hno2 : ∀ v ∈ fl, v < 4294967296 ∧ v / 256 % 8 ≠ 4 := by
        intro v hv
        obtain ⟨i, hi, rfl⟩ := List.getElem_of_mem hv
        exact ⟨HV.out _ hv, HNO.out i _ (by rw [hke, ← HL.out]; exact hi) (List.getElem?_eq_getElem hi)⟩
      have HNL := hide hno2
      clear hno2 hke HNO HV
      go_wp2
      have hbB : w.heap.size < w2.heap.size := hrw.lt
      have r3 := hrw.below ((Below.refl w2.heap.size w2).alloc (Nat.le_refl _) (.cells (madeCells #[.int .u32 0] (R + N)) 26)) hbB
      have n3 := Ent.born w2 w.heap.size R N hbel.size hR2 hN2
      have b3 := hbel.alloc hbel.size (.cells (madeCells #[.int .u32 0] (R + N)) 26)
      obtain ⟨W3, hW3⟩ : ∃ W3, W3 = w2.alloc (.cells (madeCells #[.int .u32 0] (R + N)) 26) := ⟨_, rfl⟩
      obtain ⟨be, hbe⟩ : ∃ be, be = w2.heap.size := ⟨_, rfl⟩
      rw [← hW3] at r3 n3 b3 ⊢
      rw [← hbe] at n3 hbB ⊢
      clear hW3 hbe hrw hbel hmk2 hN hR hX hlt hk
      have hNX : N = R * X := by rw [HN.out, HR.out, HX.out, Nat.pow_add]
      have HNX := hide hNX
      clear hNX
      go_loopw [14, 15] (fun v14 v15 wr => ∃ i q : Nat, ∃ E : List Nat, i ≤ R ∧ q ≤ i ∧ E.length = R + q * X ∧ v14 = .slice (some ⟨be, 0, none⟩) E.length (R + N) ∧ v15 = .int .i64 i ∧ Below w.heap.size w wr ∧ Rw 26 wr w.heap.size fl ∧
          Ent wr w.heap.size be (R + N) E ∧ ∀ i', i' < i → Good fl R X x (r + x) E i') (fun _ v15 _ => R - (intOf v15).toNat)
      case atStart => exact ⟨0, 0, List.replicate R 0, Nat.zero_le _, Nat.le_refl _, by simp, by simp, rfl, b3, r3, n3, fun i' h => absurd h (by omega)⟩
      case round =>
        clear r3 n3 b3
        obtain ⟨i, q, E, hi, hq, hEl, rfl, rfl, hbel, hrw, hent, hgood⟩ := hrel
        have HE := hide hEl; have HG := hide hgood
        clear hEl hgood
        by_cases hlt : i < R
        · have hL1 : R ≤ E.length := by rw [HE.out]; omega
          have hL2 : E.length + X ≤ R + N := by
            have h1 : (q + 1) * X ≤ R * X := Nat.mul_le_mul_right X (by omega)
            rw [Nat.add_mul, Nat.one_mul] at h1
            rw [HE.out, HNX.out]; omega
          have hL3 : E.length ≤ 65535 := by omega
          have htb : decide ((i : Int) < (R : Int)) = true := by simp; omega
          have hRN : R ≤ N := by rw [HNX.out]; exact Nat.le_mul_of_pos_right R (by omega)
          go_wp2
          obtain ⟨wo, hwo⟩ : ∃ wo : World, wo = wr := ⟨_, rfl⟩
          rw [← hwo] at hbel hrw hent ⊢
          clear hwo
          go_loopw [16, 17] (fun v16 v17 wr => ∃ k m : Nat, ∃ sm : Bool, 1 ≤ k ∧ k ≤ X ∧ v16 = .bool sm ∧ v17 = .int .i64 k ∧ wr = wo.drewN m ∧ (sm = true ↔ ∀ k', k' < k → fl[i + k' * R]? = fl[i]?)) (fun _ v17 _ => X - (intOf v17).toNat)
          case atStart =>
            refine ⟨1, 0, true, Nat.le_refl _, hX1, rfl, rfl, rfl, ?_⟩
            constructor
            · intro _ k' hk'
              have : k' = 0 := by omega
              subst this; simp
            · intro _; rfl
          case round =>
            obtain ⟨k, m, sm, hk1, hk2, rfl, rfl, rfl, hsm⟩ := hrel
            have HSM := hide hsm
            clear hsm
            by_cases hlt2 : k < X
            · have hkR := step_bound k R X hlt2
              obtain ⟨mm, hmm⟩ : ∃ mm, mm = k * R := ⟨_, rfl⟩
              rw [← hmm, ← HNX.out] at hkR
              have hiN : i < N := by omega
              have hjN : i + mm < N := by omega
              have hil : i < fl.length := by rw [HL.out]; exact hiN
              have hjl : i + mm < fl.length := by rw [HL.out]; exact hjN
              have c1 := hrw.cell hil
              have c2 := hrw.cell hjl
              have hmb : mm ≤ 65536 := by omega
              have hsh := shl_is' k r R mm HR.out hmm hmb
              have hsu := add_is' i mm (by omega)
              have HM := hide hmm
              clear hmm
              have g1 : fl[i]? = some fl[i] := List.getElem?_eq_getElem hil
              have g2 : fl[i + mm]? = some fl[i + mm] := List.getElem?_eq_getElem hjl
              have G1 := hide g1; have G2 := hide g2
              clear g1 g2
              by_cases heq : fl[i + mm] = fl[i]
              · rw [heq] at c2
                have HQ := hide heq
                clear heq
                go_wp2
                go_quiet (fail)
                clear hsh hsu
                go_wp2
                go_roundw
                case rel =>
                  refine ⟨k + 1, _, sm, by omega, by omega, rfl, by go_num, rfl, ?_⟩
                  rw [HSM.out]
                  constructor
                  · intro hh k' hk'
                    by_cases e : k' = k
                    · subst e; rw [← HM.out, G1.out, G2.out, HQ.out]
                    · exact hh k' (by omega)
                  · intro hh k' hk'
                    exact hh k' (by omega)
                case measure => simp [intOf]; omega
              · have hnb : ((fl[i + mm] : Int) != (fl[i] : Int)) = true := by rw [bne_iff_ne]; omega
                have HQ := hide heq
                clear heq
                go_wp2
                go_quiet (fail)
                clear hsh hsu
                go_wp2
                go_roundw
                case rel =>
                  refine ⟨k + 1, _, false, by omega, by omega, rfl, by go_num, rfl, ?_⟩
                  constructor
                  · intro hh; exact absurd hh (by decide)
                  · intro hh
                    have h1 := hh k (by omega)
                    rw [← HM.out, G1.out, G2.out] at h1
                    exact absurd (Option.some.inj h1) HQ.out
                case measure => simp [intOf]; omega
            · have hkX : k = X := by omega
              have hsx : sm = true ↔ ∀ k', k' < X → fl[i + k' * R]? = fl[i]? := by rw [← hkX]; exact HSM.out
              have HSX := hide hsx
              clear hsx hkX HSM
              have hiN : i < N := by omega
              have hil : i < fl.length := by rw [HL.out]; exact hiN
              have c1 := hrw.cell hil
              have hiL : i < E.length := by omega
              obtain ⟨v0, d0⟩ := hent.any hiL
              have f0 := hent.free i
              have hbd : be ≠ w.heap.size := by omega
              cases sm with
              | true =>
                have hall : ∀ k', k' < X → fl[i + k' * R]? = some fl[i] := fun k' hk' => by rw [HSX.out.1 rfl k' hk']; exact List.getElem?_eq_getElem hil
                have HALL := hide hall
                clear hall HSX
                go_wp2
                go_roundw
                case rel =>
                  refine ⟨i + 1, q, E.set i fl[i], by omega, by omega, by rw [List.length_set]; exact HE.out, by rw [List.length_set], by go_num, (below_drewN hbel m).setCell (by simp; omega) _, (hrw.drewN m).setOther (by simp; omega) _, (hent.drewN m).set i _, ?_⟩
                  intro i' hi'
                  by_cases e : i' = i
                  · subst e; exact Good.same _ HALL.out hiL
                  · exact (HG.out i' (by omega)).set hlt (by omega) _
                case measure => simp [intOf]; omega
              | false =>
                obtain ⟨lk, hlk⟩ : ∃ lk, lk = linkE E.length x (r + x) := ⟨_, rfl⟩
                have hor := or_link E.length r x hL3 h
                rw [← hlk] at hor
                have HLK := hide hlk
                clear hlk HSX
                go_wp2
                clear hor
                have hrw2 := (hrw.drewN m).setOther (a := ⟨be, i, none⟩) (by simp; omega) (.int .u32 lk)
                have hent2 := (hent.drewN m).set i lk
                have hbel2 := (below_drewN hbel m).setCell (p := ⟨be, i, none⟩) (by simp; omega) (.int .u32 lk)
                obtain ⟨wq, hwq⟩ : ∃ wq, wq = (wo.drewN m).setCell ⟨be, i, none⟩ (.int .u32 lk) := ⟨_, rfl⟩
                rw [← hwq] at hrw2 hent2 hbel2 ⊢
                clear hwq hrw hent hbel c1 d0 f0
                go_loopw [14, 19] (fun v14 v19 wr => ∃ k : Nat, ∃ E' : List Nat, k ≤ X ∧ E' = E.set i lk ++ (List.range k).map (fun k => fl.getD (i + k * R) 0) ∧ v14 = .slice (some ⟨be, 0, none⟩) E'.length (R + N) ∧ v19 = .int .i64 k ∧
                    Below w.heap.size w wr ∧ Rw 26 wr w.heap.size fl ∧ Ent wr w.heap.size be (R + N) E') (fun _ v19 _ => X - (intOf v19).toNat)
                case atStart => exact ⟨0, E.set i lk, Nat.zero_le _, by simp, by rw [List.length_set], rfl, hbel2, hrw2, hent2⟩
                case round =>
                  clear hrw2 hent2 hbel2
                  obtain ⟨k, E', hk, hE', rfl, rfl, hbel, hrw, hent⟩ := hrel
                  have hEl : E'.length = E.length + k := by rw [hE']; simp
                  have HE' := hide hE'; have HEl := hide hEl
                  clear hE'
                  by_cases hlt4 : k < X
                  · have hcap : E'.length + 1 ≤ R + N := by omega
                    clear hEl
                    have hkR := step_bound k R X hlt4
                    obtain ⟨mm, hmm⟩ : ∃ mm, mm = k * R := ⟨_, rfl⟩
                    rw [← hmm, ← HNX.out] at hkR
                    have hjN : i + mm < N := by omega
                    have hjl : i + mm < fl.length := by rw [HL.out]; exact hjN
                    have c2 := hrw.cell hjl
                    have hmb : mm ≤ 65536 := by omega
                    have hsh := shl_is' k r R mm HR.out hmm hmb
                    have HM := hide hmm
                    have hbs := hbel.size
                    clear hmm
                    obtain ⟨i0, hi0, hz0, hz1, hz2⟩ := info_parts info26
                    have hown : wr.ownsRow w.heap.size 26 1 (.slice (some ⟨be, 0, none⟩) E'.length (R + N)) E'.length (E'.map V) := hent
                    go_wp2_with (at_builtin; refine wpList_append_fits _ rfl _ _ 23 rfl w.heap.size 26 i0 1 Try.underlying23 hi0 hz1 be E'.length (R + N) (E'.map V) rfl (hown.alloc _) ⟨wr.heap.size, 0, none⟩ 1 1 [.int .u32 ((fl[i + mm] : Nat) : Int)] rfl rfl ?c1 ?c2 ?c3 ?_)
                    case c1 => exact cell_one_new _ _ _
                    case c2 => intro u hu; simp at hu; subst hu; rfl
                    case c3 => exact hcap
                    intro w1 hown1 hgrow
                    have hbel1 := (hbel.alloc hbel.size (.cells #[.int .u32 ((fl[i + mm] : Nat) : Int)] 26)).grown hgrow (by simp; omega) (by intro k hk; have := Option.some.inj hk; omega)
                    have hrw1 := owns_grown (hrw.below ((Below.refl wr.heap.size wr).alloc (Nat.le_refl _) (.cells #[.int .u32 ((fl[i + mm] : Nat) : Int)] 26)) hrw.lt) hgrow (by omega)
                    have hent1 : Ent w1 w.heap.size be (R + N) (E' ++ [fl[i + mm]]) := by
                      unfold Ent
                      rw [List.length_append, List.map_append]
                      exact hown1
                    clear hown1 hgrow hown hsh c2
                    go_wp2
                    go_roundw
                    case rel =>
                      refine ⟨k + 1, E' ++ [fl[i + mm]], by omega, ?_, by rw [List.length_append]; rfl, by go_num, hbel1, hrw1, hent1⟩
                      rw [HE'.out, List.range_succ, List.map_append, List.append_assoc]
                      simp [List.getD_eq_getElem?_getD, ← HM.out, hjl]
                    case measure => simp [intOf]; omega
                  · have hkX : k = X := by omega
                    have hgo : ∀ i', i' < i + 1 → Good fl R X x (r + x) E' i' := by
                      intro i' hi'
                      rw [HE'.out, hkX, HLK.out]
                      by_cases e : i' = i
                      · subst e
                        refine Good.link hL1 hL3 hlt (fun k' hk' => ?_)
                        have h1 := step_bound k' R X hk'
                        rw [← HNX.out] at h1
                        rw [HL.out]; omega
                      · exact ((HG.out i' (by omega)).set hlt (by omega) _).append _
                    have hEl2 : E'.length = R + (q + 1) * X := by rw [hEl, HE.out, hkX, Nat.add_mul, Nat.one_mul]; omega
                    have HGO := hide hgo; have HE2 := hide hEl2
                    clear hgo hEl2 hkX hEl
                    go_wp2
                    go_roundw
                    case rel => exact ⟨i + 1, q + 1, E', by omega, by omega, HE2.out, rfl, by go_num, hbel, hrw, hent, HGO.out⟩
                    case measure => simp [intOf]; omega
        · have hiR : i = R := by omega
          have hgR : ∀ i', i' < 2 ^ r → Good fl (2 ^ r) (2 ^ x) x (r + x) E i' := by
            intro i' hi'
            have h1 := HG.out i' (by rw [hiR, HR.out]; exact hi')
            rw [HR.out, HX.out] at h1
            exact h1
          have hE64 : E.length ≤ 65536 := by
            have h1 : q * X ≤ R * X := Nat.mul_le_mul_right X (by omega)
            rw [← HNX.out] at h1
            rw [HE.out]; omega
          have HGR := hide hgR
          clear hgR hiR HG
          obtain ⟨jb, hjb⟩ : ∃ jb, jb = b % N := ⟨_, rfl⟩
          have hjN : jb < N := by rw [hjb]; exact Nat.mod_lt _ (by omega)
          have hand := and_top b (r + x) N HB.out h HN.out
          rw [← hjb] at hand
          have hjl : jb < fl.length := by rw [HL.out]; exact hjN
          have c1 := hrw.cell hjl
          have hf : fl[b % 2 ^ (r + x)]? = some fl[jb] := by rw [← HN.out, ← hjb]; exact List.getElem?_eq_getElem hjl
          have k2 := look_two fl E r x b fl[jb] h HB.out HNL.out HGR.out hf
          have k1 := look_one fl (r + x) b fl[jb] (r + x) h HB.out HNL.out hf
          have K1 := hide k1; have K2 := hide k2
          clear hjb hf k1 k2
          have hm1 : ((R : Int) - 1) = ((2 ^ r - 1 : Nat) : Int) := by rw [← HR.out]; omega
          have hm2 : ((N : Int) - 1) = ((2 ^ (r + x) - 1 : Nat) : Int) := by rw [← HN.out]; omega
          have M1 := hide hm1; have M2 := hide hm2
          clear hm1 hm2
          go_wp2_with fail
          refine (zz_call be (R + N) r (2 ^ r - 1) b fl[jb] E.length _ _ E wr rfl M1.out rfl (by omega) HB.out (fun i hi => hent.cell hi) K2.out).mono ?_
          rintro e w5 ⟨rfl, hb5⟩
          have hrw5 := hrw.below hb5 hrw.lt
          have hB5 := hbel.trans (hb5.mono hbel.size)
          clear hand c1 hent hrw hbel hb5
          go_wp2_with fail
          refine (zz_call w.heap.size N (r + x) (2 ^ (r + x) - 1) b fl[jb] N _ _ fl w5 (by omega) M2.out HL.out (by rw [HL.out]; omega) HB.out (fun i hi => hrw5.cell hi) K1.out).mono ?_
          rintro e w6 ⟨rfl, hb6⟩
          have hB6 := hB5.trans (hb6.mono hB5.size)
          clear hrw5 hB5 hb6
          go_wp2
          go_ret
          exact ⟨ret_bool (by simp), hB6⟩

/-- The whole walk. -/
theorem huff_walk (r x b : Nat) (a : Option Addr) (len cap : Nat) (zs : List Int) (w : World) (hb : b < 18446744073709551616)
    (hrow : (a = none ∧ len = 0 ∧ cap = 0 ∧ zs = []) ∨ ∃ ad, a = some ad ∧ len ≤ cap ∧ cap ≤ maxLen ∧ zs.length = cap ∧ (∀ i, i < zs.length → w.cell? (ad.add i) = some (.int .u32 (zs.getD i 0))) ∧ ∀ n ∈ zs, (Lit.int .u32 n).wf = true) :
    Calls Try.prog 3 #[.int .u64 r, .int .u64 x, .slice a len cap, .int .u64 b] w fun e w' => e = .returned (.bool true) ∧ Below w.heap.size w w' := by
  by_cases h : len ≤ 131072 ∧ r + x ≤ 15
  · obtain ⟨h1, h2⟩ := h
    rcases hrow with ⟨rfl, rfl, rfl, rfl⟩ | ⟨ad, rfl, hl, _, hz, hc, hw⟩
    · exact huff_nil r x b 0 w h2
    · have hbd : ∀ n ∈ zs, 0 ≤ n ∧ n ≤ 4294967295 := fun n hn => bounds_u32 (hw n hn)
      obtain ⟨fl, hfl⟩ : ∃ fl : List Nat, fl = (zs.take len).map Int.toNat := ⟨_, rfl⟩
      have hlen : fl.length = len := by rw [hfl]; simp; omega
      have hcell : ∀ j v, (fl.map V)[j]? = some v → w.cell? (ad.add j) = some v := by
        intro j v hj
        have hj2 : j < len := by
          have := (List.getElem?_eq_some_iff.1 hj).1
          simpa [hlen] using this
        have hj3 : j < zs.length := by omega
        have h3 := hbd zs[j] (List.getElem_mem hj3)
        rw [hc j hj3, ← hj, hfl]
        simp [V, List.getD_eq_getElem?_getD, hj2, hj3]
        omega
      have hv : ∀ v ∈ fl, v < 4294967296 := by
        intro v hv
        rw [hfl] at hv
        obtain ⟨n, hn, rfl⟩ := List.mem_map.1 hv
        have := hbd n (List.mem_of_mem_take hn)
        omega
      rw [← hlen] at h1 ⊢
      by_cases hp : fl.length = 2 ^ (r + x)
      · exact huff_main r x b cap ad fl w h2 hb hcell hp hv
      · exact huff_len r x b cap ad fl w h2 h1 hcell hp
  · exact huff_out r x b a len cap w (by omega)
end Go.Proofs.Qxb6619418a.Huff
