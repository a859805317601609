/-
  SHARED BY BOTH LAWS OF THIS SEAT: rows of words in memory, and the walks of the small functions.
-/
import Derived.Test.Qxb6619403aRows
import Derived.WalkKit
import Derived.ProofKit
import Derived.OpenShut
import Derived.Handy
import Derived.WalkSpells
import Derived.Deep.LoopGhost
import Derived.Deep.OwnRows
import Derived.Deep.QuietTactic
import Derived.BigQuiet
namespace Go.Proofs.Qxb6619403a
open Go.ChangeShapes Go.WideShapes Go.ChangeAt Go.RowKit

theorem hide {p : Prop} (h : p) : Hid p := h

theorem info27 : (Try.prog.info? 27).map (fun i => (i.zero, i.size, i.bytes)) = some (some (.int .u64 0), 1, 8) := by kernel_rfl
theorem info3 : (Try.prog.info? 3).map (fun i => (i.zero, i.size, i.bytes)) = some (some (.int .i64 0), 1, 8) := by kernel_rfl

/-- Block b is a row of the words xs. -/
def Rw (w : World) (b : Nat) (xs : List Nat) : Prop := w.rowIs b 27 xs.length (fun i => .int .u64 ((xs.getD i 0 : Nat) : Int))

theorem Rw.cell {w : World} {b : Nat} {xs : List Nat} (h : Rw w b xs) {i : Nat} (hi : i < xs.length) : w.cell? ⟨b, i, none⟩ = some (.int .u64 ((xs[i] : Nat) : Int)) := by
  have := World.rowIs.cell h hi
  rw [this]; simp [List.getD_eq_getElem?_getD, hi]
theorem Rw.any {w : World} {b : Nat} {xs : List Nat} (h : Rw w b xs) {i : Nat} (hi : i < xs.length) : ∃ v : Int, w.cell? ⟨b, i, none⟩ = some (.int .u64 v) := ⟨_, h.cell hi⟩
theorem Rw.free {w : World} {b : Nat} {xs : List Nat} (h : Rw w b xs) (i : Nat) : w.frozen? ⟨b, i, none⟩ = false := World.rowIs.frozen h i
theorem Rw.lt {w : World} {b : Nat} {xs : List Nat} (h : Rw w b xs) : b < w.heap.size := World.rowIs.lt h
theorem Rw.of_block {w w' : World} {b : Nat} {xs : List Nat} (h : Rw w b xs) (e : w'.heap[b]? = w.heap[b]?) : Rw w' b xs := World.rowIs.of_block h e
theorem Rw.set {w : World} {b : Nat} {xs : List Nat} (h : Rw w b xs) (i : Nat) (v : Nat) : Rw (w.setCell ⟨b, i, none⟩ (.int .u64 v)) b (xs.set i v) := by
  unfold Rw
  rw [List.length_set]
  refine (World.rowIs.set h i _).congr ?_
  intro j hj
  by_cases e : j = i
  · subst e
    simp [List.getD_eq_getElem?_getD, hj]
  · rw [if_neg e]
    simp [List.getD_eq_getElem?_getD, Ne.symm e]
theorem Rw.setOther {w : World} {b : Nat} {xs : List Nat} (h : Rw w b xs) {a : Addr} (ha : b ≠ a.block) (v : Value) : Rw (w.setCell a v) b xs := World.rowIs.setOther h ha v
theorem Rw.made (w : World) (n : Nat) : Rw (w.alloc (.cells (madeCells #[.int .u64 0] n) 27)) w.heap.size (List.replicate n 0) := by
  unfold Rw
  rw [List.length_replicate]
  refine (World.rowIs_made w (.int .u64 0) n 27).congr ?_
  intro i hi
  simp [List.getD_eq_getElem?_getD, hi]

theorem lt_of_cell {w : World} {b o : Nat} {v : Value} (h : w.cell? ⟨b, o, none⟩ = some v) : b < w.heap.size := by
  unfold World.cell? at h
  by_cases hb : b < w.heap.size
  · exact hb
  · rw [Array.getElem?_eq_none (by simpa using hb)] at h
    simp at h

theorem take_set_succ (ys : List Nat) (k : Nat) (h : k < ys.length) (v : Nat) : (ys.set k v).take (k + 1) = ys.take k ++ [v] := by
  rw [List.take_succ_eq_append_getElem (by simpa using h)]
  simp [List.take_set_of_le]

/-- Below, behind draws. -/
theorem below_drewN {B : Nat} {a w : World} (h : Below B a w) (n : Nat) : Below B a (w.drewN n) := ⟨h.os, h.tape, h.output, h.size, h.block⟩

set_option maxHeartbeats 400000 in
/-- sbbClone of a slice that is not nil. -/
theorem clone_row (x : Addr) (c : Nat) (xs : List Nat) (w : World) (hn : xs.length ≤ 1048576) (hx : xs ≠ [] → x.spot = none)
    (hc : ∀ i (h : i < xs.length), w.cell? ⟨x.block, x.off + i, none⟩ = some (.int .u64 ((xs[i] : Nat) : Int))) :
    Calls Try.prog 6 #[.slice (some x) xs.length c] w fun e w' => e = .returned (.slice (some ⟨w.heap.size, 0, none⟩) xs.length xs.length) ∧
      Rw w' w.heap.size xs ∧ Below w.heap.size w w' ∧ w'.heap.size = w.heap.size + 1 := by
  have hmk := run_make_row' (P := Try.prog) 22 27 (.int .u64 0) 8 Try.underlying22 info27 rfl .i64 .i64 xs.length (by omega) (by omega)
  have hnil := fun wx => Lib.run_eql_slice_nil (P := Try.prog) wx 22 27 (some x) xs.length c 0 0 Try.underlying22
  obtain ⟨b, off, sp⟩ := x
  go_enter Try.func6, Try.ntmps6
  go_wp2
  clear hnil hmk
  go_loopw [4] (fun i wr => ∃ k : Nat, k ≤ xs.length ∧ i = .int .i64 k ∧ Below w.heap.size w wr ∧ wr.heap.size = w.heap.size + 1 ∧ ∃ ys : List Nat, ys.length = xs.length ∧ ys.take k = xs.take k ∧ Rw wr w.heap.size ys)
    (fun i _ => xs.length - (intOf i).toNat)
  case atStart => exact ⟨0, Nat.zero_le _, rfl, (Below.refl _ _).alloc (Nat.le_refl _) _, by simp, _, List.length_replicate, by simp, Rw.made _ _⟩
  case round =>
    obtain ⟨k, hk, rfl, hbel, hsz, ys, hl, htk, hrw⟩ := hrel
    have H1 := hide hl; have H2 := hide htk; have H3 := hide hc
    by_cases hlt : k < xs.length
    · have hsp : sp = none := hx (by intro h; rw [h] at hlt; simp at hlt)
      subst hsp
      have hc0 := hc k hlt
      have hbw : b < w.heap.size := lt_of_cell hc0
      have hc1 : wr.cell? ⟨b, off + k, none⟩ = some (.int .u64 ((xs[k] : Nat) : Int)) := (hbel.cell (by exact hbw)).trans hc0
      obtain ⟨v0, hd1⟩ := hrw.any (i := k) (by omega)
      have hf1 := hrw.free k
      clear hl htk hc hc0
      go_wp2
      go_roundw
      case rel =>
        refine ⟨k + 1, by omega, by go_num, hbel.setCell (by simp) _, by simpa using hsz, ys.set k xs[k], by rw [List.length_set]; exact H1.out, ?_, hrw.set k _⟩
        rw [take_set_succ _ _ (by have := H1.out; omega), H2.out, List.take_succ_eq_append_getElem hlt]
      case measure => simp [intOf]; omega
    · clear hl htk hc
      go_wp2
      go_ret
      have ek : k = xs.length := by omega
      have ey : ys = xs := by
        have h := H2.out
        rw [ek, List.take_of_length_le (by rw [H1.out]; omega), List.take_of_length_le (by omega)] at h
        exact h
      rw [ey] at hrw
      exact ⟨rfl, hrw, hbel, hsz⟩

/-- sbbClone of nil. -/
theorem clone_nil (c : Nat) (w : World) : Calls Try.prog 6 #[.slice none 0 c] w fun e w' => e = .returned (.slice none 0 0) ∧ w' = w := by
  have hnil := fun wx => Lib.run_eql_slice_nil (P := Try.prog) wx 22 27 none 0 c 0 0 Try.underlying22
  go_enter Try.func6, Try.ntmps6
  go_wp2
  go_ret
  exact ⟨rfl, rfl⟩

/-- The byte of v at shift. -/
def key (s v : Nat) : Nat := v / 2 ^ s % 256
theorem key_lt (s v : Nat) : key s v < 256 := Nat.mod_lt _ (by decide)

theorem key_int (s v : Nat) : ((v : Int) / 2 ^ s % 256) = ((key s v : Nat) : Int) := by simp [key]
theorem key_big (s v : Nat) (hs : 64 ≤ s) (hv : v < 18446744073709551616) : key s v = 0 := by
  unfold key
  have h : 2 ^ 64 ≤ 2 ^ s := Nat.pow_le_pow_right (by decide) hs
  rw [Nat.div_eq_of_lt (Nat.lt_of_lt_of_le hv h)]
theorem ret_int {k : IntKind} {a b : Int} (h : a = b) : Ending.returned (.int k a) = .returned (.int k b) := by rw [h]

/-- sbbKey. -/
theorem key_any (v s : Nat) (w : World) (hv : v < 18446744073709551616) (hs : s < 9223372036854775808) :
    Calls Try.prog 11 #[.int .u64 v, .int .i64 s] w fun e w' => e = .returned (.int .i64 (key s v)) ∧ w' = w := by
  by_cases h : s < 64
  · go_enter Try.func11, Try.ntmps11
    go_wp2
    go_ret
    exact ⟨ret_int (key_int s v), rfl⟩
  · go_enter Try.func11, Try.ntmps11
    go_wp2
    go_ret
    exact ⟨ret_int (by rw [key_big s v (by omega) hv]; rfl), rfl⟩

end Go.Proofs.Qxb6619403a
