/-
  THE WALKS OF kind, value, extra, lookup.
-/
import Derived.Test.Qxb6619418aRows
import Derived.WalkKit
import Derived.ProofKit
import Derived.OpenShut
import Derived.Handy
import Derived.WalkSpells
import Derived.Deep.QuietTactic
import Derived.BigQuiet
import Derived.Deep.OwnRows
namespace Go.Proofs.Qxb6619418a.Huff
open Go.ChangeShapes Go.WideShapes Go.ChangeAt Go.RowKit

theorem hide {p : Prop} (h : p) : Hid p := h
theorem ret_int {k : IntKind} {a b : Int} (h : a = b) : Ending.returned (.int k a) = .returned (.int k b) := by rw [h]

theorem and7 (e : Nat) (he : e < 4294967296) : bits .and .u32 ((e : Int) / 256) 7 = ((e / 256 % 8 : Nat) : Int) := by
  rw [u32_and _ _ (by omega) (by omega) (by omega) (by omega)]
  have h : ((e : Int) / 256).toNat = e / 256 := by omega
  rw [h]
  exact congrArg Int.ofNat (nat_mask3 (e / 256))
theorem and15 (e : Nat) (he : e < 4294967296) : bits .and .u32 ((e : Int) / 16) 15 = ((e / 16 % 16 : Nat) : Int) := by
  rw [u32_and _ _ (by omega) (by omega) (by omega) (by omega)]
  have h : ((e : Int) / 16).toNat = e / 16 := by omega
  rw [h]
  exact congrArg Int.ofNat (nat_mask4 (e / 16))

theorem kind_any (e k : Nat) (w : World) (he : e < 4294967296) (hk : e / 256 % 8 = k) :
    Calls Try.prog 13 #[.int .u32 e] w fun e w' => e = .returned (.int .u32 k) ∧ w' = w := by
  have ha := and7 e he
  rw [hk] at ha
  clear hk
  go_enter Try.func13, Try.ntmps13
  go_wp2
  go_ret
  exact ⟨rfl, rfl⟩
theorem val_any (e v : Nat) (w : World) (hv : e / 65536 = v) :
    Calls Try.prog 14 #[.int .u32 e] w fun e w' => e = .returned (.int .u32 v) ∧ w' = w := by
  have ha : (e : Int) / 65536 = (v : Int) := by omega
  clear hv
  go_enter Try.func14, Try.ntmps14
  go_wp2
  go_ret
  exact ⟨rfl, rfl⟩
theorem ext_any (e x : Nat) (w : World) (he : e < 4294967296) (hx : e / 16 % 16 = x) (hx2 : x ≤ 15) :
    Calls Try.prog 15 #[.int .u32 e] w fun e w' => e = .returned (.int .u64 x) ∧ w' = w := by
  have ha := and15 e he
  rw [hx] at ha
  clear hx
  go_enter Try.func15, Try.ntmps15
  go_wp2
  go_ret
  exact ⟨rfl, rfl⟩

set_option maxHeartbeats 400000 in
/-- lookup where the root's entry is no link. -/
theorem look_plain (bh be n c M b i0 e k : Nat) (w : World) (h0 : w.cell? ⟨bh, 0, none⟩ = some (.slice (some ⟨be, 0, none⟩) n c)) (h2 : w.cell? ⟨bh, 2, none⟩ = some (.int .u64 M))
    (ha : bits .and .u64 (b : Int) (M : Int) = (i0 : Int)) (hi : i0 < n) (he : w.cell? ⟨be, i0, none⟩ = some (.int .u32 e)) (hb : e < 4294967296) (hk : e / 256 % 8 = k) (hk4 : k ≠ 4) :
    Calls Try.prog 10 #[.pointer (some ⟨bh, 0, none⟩), .int .u64 b] w fun e' w' => e' = .returned (.int .u32 e) ∧ ∃ m, w' = w.drewN m := by
  have HK := hide hk; have HB := hide hb
  clear hk hb
  have hkb : ((k : Int) == 4) = false := by simp; omega
  go_enter Try.func10, Try.ntmps10
  go_wp2
  go_quiet (fail)
  go_wp2_with fail
  refine (kind_any e k _ HB.out HK.out).mono ?_
  rintro e' w' ⟨rfl, hw'⟩
  subst hw'
  go_wp2
  go_ret
  exact ⟨rfl, _, rfl⟩

theorem wrap_pow (x : Nat) (hx : x ≤ 15) : IntKind.u64.wrap (2 ^ x) = ((2 ^ x : Nat) : Int) := by
  have h : 2 ^ x ≤ 2 ^ 15 := Nat.pow_le_pow_right (by decide) hx
  have e : ((2 : Int) ^ x) = ((2 ^ x : Nat) : Int) := by simp
  rw [IntKind.wrap_u64, e]
  generalize 2 ^ x = X at *
  omega
theorem and_mask (b r x : Nat) (hb : b < 18446744073709551616) (hx : x ≤ 15) : bits .and .u64 ((b : Int) / 2 ^ r) (((2 ^ x - 1 : Nat)) : Int) = ((b / 2 ^ r % 2 ^ x : Nat) : Int) := by
  have h : 2 ^ x ≤ 2 ^ 15 := Nat.pow_le_pow_right (by decide) hx
  have e : ((b : Int) / 2 ^ r) = ((b / 2 ^ r : Nat) : Int) := by simp
  have h2 : b / 2 ^ r ≤ b := Nat.div_le_self _ _
  rw [e, u64_and_nat _ _ (by omega) (by omega), Nat.and_two_pow_sub_one_eq_mod]
theorem and_low (b y : Nat) (hb : b < 18446744073709551616) (hy : y ≤ 15) : bits .and .u64 (b : Int) (((2 ^ y - 1 : Nat)) : Int) = ((b % 2 ^ y : Nat) : Int) := by
  have h : 2 ^ y ≤ 2 ^ 15 := Nat.pow_le_pow_right (by decide) hy
  rw [u64_and_nat _ _ hb (by omega), Nat.and_two_pow_sub_one_eq_mod]

set_option maxHeartbeats 400000 in
/-- lookup where it is one. -/
theorem look_link (bh be n c r M b i0 e s x p f : Nat) (w : World) (h0 : w.cell? ⟨bh, 0, none⟩ = some (.slice (some ⟨be, 0, none⟩) n c)) (h1 : w.cell? ⟨bh, 1, none⟩ = some (.int .u64 r)) (h2 : w.cell? ⟨bh, 2, none⟩ = some (.int .u64 M))
    (ha : bits .and .u64 (b : Int) (M : Int) = (i0 : Int)) (hi : i0 < n) (he : w.cell? ⟨be, i0, none⟩ = some (.int .u32 e)) (hb : e < 4294967296) (hk : e / 256 % 8 = 4)
    (hs : e / 65536 = s) (hx : e / 16 % 16 = x) (hx2 : x ≤ 15) (hr : r ≤ 15) (hb64 : b < 18446744073709551616) (hp : p = s + b / 2 ^ r % 2 ^ x) (hpn : p < n) (_hn : n ≤ 1048576) (hf : w.cell? ⟨be, p, none⟩ = some (.int .u32 f)) :
    Calls Try.prog 10 #[.pointer (some ⟨bh, 0, none⟩), .int .u64 b] w fun e' w' => e' = .returned (.int .u32 f) ∧ ∃ m, w' = w.drewN m := by
  have hX : 1 ≤ 2 ^ x := Nat.one_le_two_pow
  have hX2 : 2 ^ x ≤ 2 ^ 15 := Nat.pow_le_pow_right (by decide) hx2
  have q1 := wrap_pow x hx2
  have q3 := and_mask b r x hb64 hx2
  obtain ⟨j, hj⟩ : ∃ j, j = b / 2 ^ r % 2 ^ x := ⟨_, rfl⟩
  rw [← hj] at q3 hp
  obtain ⟨X, hXX⟩ : ∃ X, X = 2 ^ x := ⟨_, rfl⟩
  rw [← hXX] at q1 q3 hX hX2
  have q2 : IntKind.u64.wrap ((X : Int) - 1) = ((X - 1 : Nat) : Int) := by rw [IntKind.wrap_u64]; omega
  obtain ⟨Y, hY⟩ : ∃ Y, Y = X - 1 := ⟨_, rfl⟩
  rw [← hY] at q2 q3
  have q4 : IntKind.u32.wrap (j : Int) = (j : Int) := by rw [IntKind.wrap_u32']; omega
  have q5 : IntKind.u32.wrap ((s : Int) + (j : Int)) = (p : Int) := by rw [IntKind.wrap_u32']; omega
  have HK := hide hk; have HB := hide hb; have HS := hide hs; have HX := hide hx
  have Q1 := hide q1; have Q2 := hide q2; have Q3 := hide q3; have Q4 := hide q4; have Q5 := hide q5
  clear hk hb hs hx hX hX2 hXX hY hj hp hb64 q1 q2 q3 q4 q5
  go_enter Try.func10, Try.ntmps10
  go_wp2
  go_quiet (fail)
  go_wp2_with fail
  refine (kind_any e 4 _ HB.out HK.out).mono ?_
  rintro e' w' ⟨rfl, hw'⟩
  subst hw'
  go_wp2
  have g0 : (w.drewN nq).cell? ⟨bh, 0, none⟩ = some (.slice (some ⟨be, 0, none⟩) n c) := h0
  have g1 : (w.drewN nq).cell? ⟨bh, 1, none⟩ = some (.int .u64 r) := h1
  have g2 : (w.drewN nq).cell? ⟨be, p, none⟩ = some (.int .u32 f) := hf
  obtain ⟨W1, hW1⟩ : ∃ W1, W1 = w.drewN nq := ⟨_, rfl⟩
  have HW := hide hW1
  rw [← hW1] at g0 g1 g2 ⊢
  clear hW1 h0 h1 h2 he ha hi hf
  have q1 := Q1.out; have q2 := Q2.out; have q3 := Q3.out; have q4 := Q4.out; have q5 := Q5.out
  go_quiet ((first | (go_at_call 14; exact Calls.quiet_of_same (val_any e s _ HS.out)) | (go_at_call 15; exact Calls.quiet_of_same (ext_any e x _ HB.out HX.out hx2))))
  clear q1 q2 q3 q4 q5
  go_wp2
  go_ret
  refine ⟨rfl, ?_⟩
  rw [HW.out]
  exact ⟨_, World.drewN_drewN _ _ _⟩

/-- What lookup answers over the table E. -/
def LookIs (E : List Nat) (r M b f : Nat) : Prop :=
  ∃ (i0 : Nat) (hi : i0 < E.length), bits .and .u64 (b : Int) (M : Int) = (i0 : Int) ∧ E[i0] < 4294967296 ∧
    ((E[i0] / 256 % 8 ≠ 4 ∧ E[i0] = f) ∨
     (E[i0] / 256 % 8 = 4 ∧ r ≤ 15 ∧ ∃ (p : Nat) (hp : p < E.length), p = E[i0] / 65536 + b / 2 ^ r % 2 ^ (E[i0] / 16 % 16) ∧ E[p] = f))

theorem look_any (bh be c r M b f : Nat) (E : List Nat) (w : World) (h0 : w.cell? ⟨bh, 0, none⟩ = some (.slice (some ⟨be, 0, none⟩) E.length c)) (h1 : w.cell? ⟨bh, 1, none⟩ = some (.int .u64 r)) (h2 : w.cell? ⟨bh, 2, none⟩ = some (.int .u64 M))
    (hn : E.length ≤ 1048576) (hb : b < 18446744073709551616) (hE : ∀ i (h : i < E.length), w.cell? ⟨be, i, none⟩ = some (.int .u32 ((E[i] : Nat) : Int))) (hL : LookIs E r M b f) :
    Calls Try.prog 10 #[.pointer (some ⟨bh, 0, none⟩), .int .u64 b] w fun e' w' => e' = .returned (.int .u32 f) ∧ ∃ m, w' = w.drewN m := by
  obtain ⟨i0, hi, ha, hlt, h | h⟩ := hL
  · obtain ⟨hk, rfl⟩ := h
    exact look_plain bh be E.length c M b i0 _ _ w h0 h2 ha hi (hE i0 hi) hlt rfl hk
  · obtain ⟨hk, hr, p, hp, hpe, rfl⟩ := h
    exact look_link bh be E.length c r M b i0 _ _ _ p _ w h0 h1 h2 ha hi (hE i0 hi) hlt hk rfl rfl (by omega) hr hb hpe hp hn (hE p hp)

theorem info26 : (Try.prog.info? 26).map (fun i => (i.zero, i.size, i.bytes)) = some (some (.int .u32 0), 1, 4) := by kernel_rfl
theorem info34 : (Try.prog.info? 34).map (fun i => (i.zero, i.size, i.bytes)) = some (some (.int .u32 0), 1, 4) := by kernel_rfl

/-- Block b is a row of the words xs, of type t. -/
def Rw (t : TypeId) (w : World) (b : Nat) (xs : List Nat) : Prop := w.rowIs b t xs.length (fun i => .int .u32 ((xs.getD i 0 : Nat) : Int))

section
variable {t : TypeId} {w : World} {b : Nat} {xs : List Nat}
theorem Rw.cell (h : Rw t w b xs) {i : Nat} (hi : i < xs.length) : w.cell? ⟨b, i, none⟩ = some (.int .u32 ((xs[i] : Nat) : Int)) := by
  have := World.rowIs.cell h hi
  rw [this]; simp [List.getD_eq_getElem?_getD, hi]
theorem Rw.any (h : Rw t w b xs) {i : Nat} (hi : i < xs.length) : ∃ v : Int, w.cell? ⟨b, i, none⟩ = some (.int .u32 v) := ⟨_, h.cell hi⟩
theorem Rw.free (h : Rw t w b xs) (i : Nat) : w.frozen? ⟨b, i, none⟩ = false := World.rowIs.frozen h i
theorem Rw.lt (h : Rw t w b xs) : b < w.heap.size := World.rowIs.lt h
theorem Rw.of_block {w' : World} (h : Rw t w b xs) (e : w'.heap[b]? = w.heap[b]?) : Rw t w' b xs := World.rowIs.of_block h e
theorem Rw.set (h : Rw t w b xs) (i : Nat) (v : Nat) : Rw t (w.setCell ⟨b, i, none⟩ (.int .u32 v)) b (xs.set i v) := by
  unfold Rw
  rw [List.length_set]
  refine (World.rowIs.set h i _).congr ?_
  intro j hj
  by_cases e : j = i
  · subst e
    simp [List.getD_eq_getElem?_getD, hj]
  · rw [if_neg e]
    simp [List.getD_eq_getElem?_getD, Ne.symm e]
theorem Rw.below {w' : World} {B : Nat} (h : Rw t w b xs) (hb : Below B w w') (hB : b < B) : Rw t w' b xs := h.of_block (hb.block b hB)
theorem Rw.made (t : TypeId) (w : World) (n : Nat) : Rw t (w.alloc (.cells (madeCells #[.int .u32 0] n) t)) w.heap.size (List.replicate n 0) := by
  unfold Rw
  rw [List.length_replicate]
  refine (World.rowIs_made w (.int .u32 0) n t).congr ?_
  intro i hi
  simp [List.getD_eq_getElem?_getD, hi]
end

theorem lt_of_cell {w : World} {b o : Nat} {v : Value} (h : w.cell? ⟨b, o, none⟩ = some v) : b < w.heap.size := by
  unfold World.cell? at h
  by_cases hb : b < w.heap.size
  · exact hb
  · rw [Array.getElem?_eq_none (by simpa using hb)] at h
    simp at h
theorem take_set_succ (ys : List Nat) (k : Nat) (h : k < ys.length) (v : Nat) : (ys.set k v).take (k + 1) = ys.take k ++ [v] := by
  rw [List.take_succ_eq_append_getElem (by simpa using h)]
  simp [List.take_set_of_le]
theorem below_drewN {B : Nat} {a w : World} (h : Below B a w) (n : Nat) : Below B a (w.drewN n) := ⟨h.os, h.tape, h.output, h.size, h.block⟩

set_option maxHeartbeats 400000 in
theorem zz_any (be c r M b f : Nat) (E : List Nat) (w : World) (hn : E.length ≤ 1048576) (hb : b < 18446744073709551616) (hE : ∀ i (h : i < E.length), w.cell? ⟨be, i, none⟩ = some (.int .u32 ((E[i] : Nat) : Int))) (hL : LookIs E r M b f) :
    Calls Try.prog 6 #[.slice (some ⟨be, 0, none⟩) E.length c, .int .u64 r, .int .u64 M, .int .u64 b] w fun e' w' => e' = .returned (.int .u32 f) ∧ Below w.heap.size w w' := by
  have hmk := run_make_row' (P := Try.prog) 33 34 (.int .u32 0) 4 Try.underlying33 info34 rfl .i64 .i64 E.length (by omega) (by omega)
  have HE := hide hE; have HL := hide hL; have HB := hide hb
  clear hE hL hb
  go_enter Try.func6, Try.ntmps6
  go_wp2
  clear hmk
  go_loopw [10] (fun i wr => ∃ k : Nat, k ≤ E.length ∧ i = .int .i64 k ∧ Below w.heap.size w wr ∧ wr.heap.size = w.heap.size + 1 ∧ ∃ ys : List Nat, ys.length = E.length ∧ ys.take k = E.take k ∧ Rw 34 wr w.heap.size ys)
    (fun i _ => E.length - (intOf i).toNat)
  case atStart => exact ⟨0, Nat.zero_le _, rfl, (Below.refl _ _).alloc (Nat.le_refl _) _, by simp, _, List.length_replicate, by simp, Rw.made _ _ _⟩
  case round =>
    obtain ⟨k, hk, rfl, hbel, hsz, ys, hl, htk, hrw⟩ := hrel
    have H1 := hide hl; have H2 := hide htk
    by_cases hlt : k < E.length
    · have hc0 := HE.out k hlt
      have hbw : be < w.heap.size := lt_of_cell hc0
      have hc1 : wr.cell? ⟨be, k, none⟩ = some (.int .u32 ((E[k] : Nat) : Int)) := (hbel.cell (by exact hbw)).trans hc0
      obtain ⟨v0, hd1⟩ := hrw.any (i := k) (by omega)
      have hf1 := hrw.free k
      clear hl htk hc0
      go_wp2
      go_roundw
      case rel =>
        refine ⟨k + 1, by omega, by go_num, hbel.setCell (by simp) _, by simpa using hsz, ys.set k E[k], by rw [List.length_set]; exact H1.out, ?_, hrw.set k _⟩
        rw [take_set_succ _ _ (by have := H1.out; omega), H2.out, List.take_succ_eq_append_getElem hlt]
      case measure => simp [intOf]; omega
    · have ek : k = E.length := by omega
      have ey : E = ys := by
        rw [ek, List.take_of_length_le (by omega), List.take_of_length_le (by omega)] at htk
        exact htk.symm
      clear hl htk H1 H2
      subst ey
      clear ek
      go_wp2_with fail
      have hblk : (wr.alloc (.cells #[.slice (some ⟨w.heap.size, 0, none⟩) E.length E.length, .int .u64 r, .int .u64 M] 37)).heap[w.heap.size + 1]? = some (.cells #[.slice (some ⟨w.heap.size, 0, none⟩) E.length E.length, .int .u64 r, .int .u64 M] 37) := by
        rw [← hsz]; exact heap_alloc_new _ _
      have hr2 := hrw.below ((Below.refl wr.heap.size wr).alloc (Nat.le_refl _) (.cells #[.slice (some ⟨w.heap.size, 0, none⟩) E.length E.length, .int .u64 r, .int .u64 M] 37)) hrw.lt
      have hb2 := hbel.alloc hbel.size (.cells #[.slice (some ⟨w.heap.size, 0, none⟩) E.length E.length, .int .u64 r, .int .u64 M] 37)
      obtain ⟨W2, hW2⟩ : ∃ W2, W2 = wr.alloc (.cells #[.slice (some ⟨w.heap.size, 0, none⟩) E.length E.length, .int .u64 r, .int .u64 M] 37) := ⟨_, rfl⟩
      rw [← hW2] at hblk hr2 hb2 ⊢
      clear hW2
      refine (look_any (w.heap.size + 1) w.heap.size E.length r M b f E W2 (by simp [World.cell?, hblk]) (by simp [World.cell?, hblk]) (by simp [World.cell?, hblk]) hn HB.out (fun i h => hr2.cell h) HL.out).mono ?_
      rintro e w3 ⟨rfl, m, hm⟩
      have hb3 : Below w.heap.size w w3 := by rw [hm]; exact below_drewN hb2 m
      clear hblk hr2 hb2 hm
      go_wp2
      go_ret
      exact ⟨rfl, hb3⟩
end Go.Proofs.Qxb6619418a.Huff
