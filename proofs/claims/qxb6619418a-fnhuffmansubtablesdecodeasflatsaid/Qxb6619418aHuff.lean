/-
  THE WALK OF FnHuffmanSubTablesDecodeAsFlat.
-/
import Derived.Test.Qxb6619418aLook
import Derived.Laws.CopyOwn
namespace Go.Proofs.Qxb6619418a.Huff
open Go.ChangeShapes Go.WideShapes Go.ChangeAt Go.RowKit

theorem bytes5_yes (a0 a1 a3 : Int) (a : Option Addr) (n c : Nat) (w : World) (h : n ≤ 1048576) :
    Calls Try.prog 5 #[.int .u64 a0, .int .u64 a1, .slice a n c, .int .u64 a3] w fun e w' => e = .returned (.bool true) ∧ w = w' := by
  go_enter Try.func5, Try.ntmps5
  go_wp2
  go_ret
  exact ⟨rfl, rfl⟩
theorem bytes5_no (a0 a1 a3 : Int) (a : Option Addr) (n c : Nat) (w : World) (h : ¬ n ≤ 1048576) :
    Calls Try.prog 5 #[.int .u64 a0, .int .u64 a1, .slice a n c, .int .u64 a3] w fun e w' => e = .returned (.bool false) ∧ w = w' := by
  go_enter Try.func5, Try.ntmps5
  go_wp2
  go_ret
  exact ⟨rfl, rfl⟩

set_option maxRecDepth 100000 in
set_option maxHeartbeats 1000000 in
/-- Out of the bounds: true at once. -/
theorem huff_out (r x b : Nat) (a : Option Addr) (n c : Nat) (w : World) (h : ¬ n ≤ 131072 ∨ (n ≤ 131072 ∧ ¬ r + x ≤ 15)) :
    Calls Try.prog 3 #[.int .u64 r, .int .u64 x, .slice a n c, .int .u64 b] w fun e w' => e = .returned (.bool true) ∧ Below w.heap.size w w' := by
  rcases h with h | ⟨h1, h2⟩
  · by_cases hb : n ≤ 1048576
    · go_enter Try.func3, Try.ntmps3
      go_wp2_with (go_at_call 5; refine (bytes5_yes _ _ _ _ _ _ _ hb).mono ?_; rintro e w' ⟨rfl, rfl⟩)
      go_ret
      exact ⟨rfl, Below.refl _ _⟩
    · go_enter Try.func3, Try.ntmps3
      go_wp2_with (go_at_call 5; refine (bytes5_no _ _ _ _ _ _ _ hb).mono ?_; rintro e w' ⟨rfl, rfl⟩)
      go_ret
      exact ⟨rfl, Below.refl _ _⟩
  · have hb : n ≤ 1048576 := by omega
    by_cases hr : r ≤ 15
    · by_cases hx : x ≤ 15
      · go_enter Try.func3, Try.ntmps3
        go_wp2_with (go_at_call 5; refine (bytes5_yes _ _ _ _ _ _ _ hb).mono ?_; rintro e w' ⟨rfl, rfl⟩)
        go_ret
        exact ⟨rfl, Below.refl _ _⟩
      · go_enter Try.func3, Try.ntmps3
        go_wp2_with (go_at_call 5; refine (bytes5_yes _ _ _ _ _ _ _ hb).mono ?_; rintro e w' ⟨rfl, rfl⟩)
        go_ret
        exact ⟨rfl, Below.refl _ _⟩
    · go_enter Try.func3, Try.ntmps3
      go_wp2_with (go_at_call 5; refine (bytes5_yes _ _ _ _ _ _ _ hb).mono ?_; rintro e w' ⟨rfl, rfl⟩)
      go_ret
      exact ⟨rfl, Below.refl _ _⟩

theorem pow64 (k : Nat) (h : k ≤ 15) : ∃ N : Nat, wrap64 (2 ^ k) = (N : Int) ∧ 1 ≤ N ∧ N ≤ 32768 ∧ N = 2 ^ k := by
  have h2 : 2 ^ k ≤ 2 ^ 15 := Nat.pow_le_pow_right (by decide) h
  refine ⟨2 ^ k, ?_, Nat.one_le_two_pow, h2, rfl⟩
  have e : ((2 : Int) ^ k) = ((2 ^ k : Nat) : Int) := by simp
  rw [e]
  generalize 2 ^ k = X at *
  unfold wrap64
  omega

set_option maxRecDepth 100000 in
set_option maxHeartbeats 1000000 in
/-- nil: its length is no power of two. -/
theorem huff_nil (r x b c : Nat) (w : World) (h : r + x ≤ 15) :
    Calls Try.prog 3 #[.int .u64 r, .int .u64 x, .slice none 0 c, .int .u64 b] w fun e w' => e = .returned (.bool true) ∧ Below w.heap.size w w' := by
  have hnil := fun wx => run_neq_slice_nil_any (P := Try.prog) wx 23 26 none 0 c 0 0 Try.underlying23
  obtain ⟨N, hN, hN1, hN2, hN3⟩ := pow64 (r + x) h
  clear hN3
  have hNb : ((0 : Int) != (N : Int)) = true := by rw [bne_iff_ne]; omega
  go_enter Try.func3, Try.ntmps3
  go_wp2_with (go_at_call 5; refine (bytes5_yes _ _ _ _ _ _ _ (by omega)).mono ?_; rintro e w' ⟨rfl, rfl⟩)
  go_ret
  exact ⟨rfl, Below.refl _ _⟩

theorem lt_of_cell' {w : World} {a : Addr} {v : Value} (h : w.cell? a = some v) : a.block < w.heap.size := by
  unfold World.cell? at h
  by_cases hb : a.block < w.heap.size
  · exact hb
  · rw [Array.getElem?_eq_none (by simpa using hb)] at h
    simp at h

def V (v : Nat) : Value := .int .u32 (v : Int)

theorem splice_all (cur cs : List Value) (h : cur.length = cs.length) : splice cur 0 cs = cs := by
  unfold splice
  rw [List.drop_eq_nil_of_le (by omega)]
  simp

theorem rw_of_block {w : World} {b : Nat} {fl : List Nat} (h : w.heap[b]? = some (.cells (fl.map V).toArray 26 (0, 0))) : Rw 26 w b fl :=
  ⟨_, h, by simp, fun i hi => by simp [V, List.getD_eq_getElem?_getD, hi]⟩

theorem V_oneCell (fl : List Nat) : ∀ v ∈ fl.map V, v.oneCell' = true := by
  intro v hv
  obtain ⟨n, _, rfl⟩ := List.mem_map.1 hv
  rfl

/-- The copy of what came in. -/
theorem copy_runs (ad : Addr) (c : Nat) (fl : List Nat) (w : World) (hc : ∀ j v, (fl.map V)[j]? = some v → w.cell? (ad.add j) = some v) :
    ∃ w2, (Builtin.copy_ #[23, 23] 3 #[.slice (some ⟨w.heap.size, 0, none⟩) fl.length fl.length, .slice (some ad) fl.length c]).run Try.prog (w.alloc (.cells (madeCells #[.int .u32 0] fl.length) 26)) = .ok (.int .i64 fl.length) w2 ∧
      Rw 26 w2 w.heap.size fl ∧ Below w.heap.size w w2 := by
  have hg := heap_alloc_new w (.cells (madeCells #[.int .u32 0] fl.length) 26)
  have hb := (Below.refl w.heap.size w).alloc (Nat.le_refl _) (.cells (madeCells #[.int .u32 0] fl.length) 26)
  have hrun := run_copy_row (P := Try.prog) (w.alloc (.cells (madeCells #[.int .u32 0] fl.length) 26)) 23 23 3 26 w.heap.size 0 fl.length fl.length ad fl.length c _ 26 (fl.map V) Try.underlying23 (by kernel_rfl) hg (by simp)
    (fun j v hv => by have h1 := hc j v hv; exact (hb.cell (lt_of_cell' h1)).trans h1) (by simp [size_madeCells]) (V_oneCell fl)
  rw [List.length_map] at hrun
  refine ⟨_, hrun, ?_, below_setRow hb (Nat.le_refl _) _⟩
  have h2 := setRow_heap (w.alloc (.cells (madeCells #[.int .u32 0] fl.length) 26)) w.heap.size _ (((madeCells #[.int .u32 0] fl.length).toList.take 0 ++ fl.map V ++ (madeCells #[.int .u32 0] fl.length).toList.drop (0 + fl.length)).toArray) 26 _ hg
  rw [List.drop_eq_nil_of_le (by simp [size_madeCells])] at h2 ⊢
  simp only [List.take_zero, List.nil_append, List.append_nil] at h2 ⊢
  exact rw_of_block h2

set_option maxRecDepth 100000 in
set_option maxHeartbeats 1000000 in
/-- A length that is not 1<<(root+x). -/
theorem huff_len (r x b c : Nat) (ad : Addr) (fl : List Nat) (w : World) (h : r + x ≤ 15) (hl : fl.length ≤ 131072) (hc : ∀ j v, (fl.map V)[j]? = some v → w.cell? (ad.add j) = some v) (hne : fl.length ≠ 2 ^ (r + x)) :
    Calls Try.prog 3 #[.int .u64 r, .int .u64 x, .slice (some ad) fl.length c, .int .u64 b] w fun e w' => e = .returned (.bool true) ∧ Below w.heap.size w w' := by
  have hnil := fun wx => run_neq_slice_nil_any (P := Try.prog) wx 23 26 (some ad) fl.length c 0 0 Try.underlying23
  have hmk := run_make_row' (P := Try.prog) 23 26 (.int .u32 0) 4 Try.underlying23 info26 rfl .i64 .i64 fl.length (by omega) (by omega)
  obtain ⟨w2, hcp, hrw, hbel⟩ := copy_runs ad c fl w hc
  obtain ⟨N, hN, hN1, hN2, hN3⟩ := pow64 (r + x) h
  have hNb : ((fl.length : Int) != (N : Int)) = true := by rw [bne_iff_ne]; omega
  clear hc hN3 hne
  go_enter Try.func3, Try.ntmps3
  go_wp2_with fail
  refine (bytes5_yes _ _ _ _ _ _ _ (by omega)).mono ?_
  rintro e w' ⟨rfl, rfl⟩
  go_wp2
  go_ret
  exact ⟨rfl, hbel⟩
end Go.Proofs.Qxb6619418a.Huff
