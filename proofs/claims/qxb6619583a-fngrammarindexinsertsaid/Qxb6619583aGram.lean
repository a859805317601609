/-
  THE WALKS OF Grammar.index, zzIndexSane, zzToGrammar.
-/
import Derived.Test.Qxb6619583aRows
import Derived.Test.Qxb6619583aGramPlain
import Derived.WalkKit
import Derived.ProofKit
import Derived.OpenShut
import Derived.Handy
import Derived.WalkSpells
import Derived.Deep.QuietTactic
import Derived.BigQuiet
import Derived.BigRegion
namespace Go.Proofs.Qxb6619583a.Gram
open Go.ChangeShapes Go.WideShapes Go.ChangeAt Go.RowKit

theorem hide {p : Prop} (h : p) : Hid p := h
theorem ret_int {k : IntKind} {a b : Int} (h : a = b) : Ending.returned (.int k a) = .returned (.int k b) := by rw [h]

/-- Block g, from its head on, holds the lines gs. -/
def Rd (w : World) (g : Nat) (gs : List (Int × Int × Int)) : Prop :=
  ∀ i (h : i < gs.length), w.cell? ⟨g, i * 3, none⟩ = some (.int .u32 gs[i].1) ∧ w.cell? ⟨g, i * 3 + 1, none⟩ = some (.int .i64 gs[i].2.1) ∧ w.cell? ⟨g, i * 3 + 2, none⟩ = some (.int .i64 gs[i].2.2)

def codes (gs : List (Int × Int × Int)) : List Int := gs.map (·.1)

theorem lt_of_cell {w : World} {b o : Nat} {v : Value} (h : w.cell? ⟨b, o, none⟩ = some v) : b < w.heap.size := by
  unfold World.cell? at h
  by_cases hb : b < w.heap.size
  · exact hb
  · rw [Array.getElem?_eq_none (by simpa using hb)] at h
    simp at h
theorem Rd.below {w w' : World} {g : Nat} {gs : List (Int × Int × Int)} (h : Rd w g gs) (hb : Below w.heap.size w w') : Rd w' g gs := by
  intro i hi
  obtain ⟨h1, h2, h3⟩ := h i hi
  have hg := lt_of_cell h1
  exact ⟨(hb.cell (by exact hg)).trans h1, (hb.cell (by exact hg)).trans h2, (hb.cell (by exact hg)).trans h3⟩

theorem codes_get (gs : List (Int × Int × Int)) (i : Nat) (h : i < gs.length) : (codes gs)[i]? = some gs[i].1 := by
  unfold codes; simp [h]

set_option maxHeartbeats 400000 in
theorem index_any (a : Option Addr) (g cp : Nat) (c : Int) (gs : List (Int × Int × Int)) (w : World) (hn : gs.length ≤ 1048576) (hr : gs ≠ [] → a = some ⟨g, 0, none⟩ ∧ Rd w g gs) :
    Calls Try.prog 13 #[.slice a gs.length cp, .int .u32 c] w fun e w' => ∃ r, e = .returned (.int .i64 r) ∧ IsIdx (codes gs) c r ∧ Below w.heap.size w w' := by
  have HR := hide hr
  clear hr
  go_enter Try.func13, Try.ntmps13
  go_wp2
  go_loopw [9] (fun i wr => ∃ k : Nat, k ≤ gs.length ∧ i = .int .i64 k ∧ Below w.heap.size w wr ∧ ∀ j, j < k → (codes gs)[j]? ≠ some c) (fun i _ => gs.length - (intOf i).toNat)
  case atStart => exact ⟨0, Nat.zero_le _, rfl, Below.refl _ _, fun j h => absurd h (by omega)⟩
  case round =>
    obtain ⟨k, hk, rfl, hbel, hno⟩ := hrel
    have HN := hide hno
    clear hno
    by_cases hlt : k < gs.length
    · have hne : gs ≠ [] := by intro h; rw [h] at hlt; simp at hlt
      obtain ⟨ha, hrd⟩ := HR.out hne
      have hcd := codes_get gs k hlt
      obtain ⟨c0, c1, c2⟩ := (hrd.below hbel) k hlt
      obtain ⟨⟨x0, x1, x2⟩, hx⟩ : ∃ x, x = gs[k] := ⟨_, rfl⟩
      rw [← hx] at c0 c1 c2 hcd
      have HC := hide hcd
      clear hne hrd hcd hx
      subst ha
      by_cases hq : x0 = c
      · have hqb : (x0 == c) = true := by simp [hq]
        have HQ := hide hq
        clear hq
        go_wp2
        go_ret
        refine ⟨k, rfl, .inr ⟨k, rfl, by unfold codes; simpa using hlt, by rw [HC.out, HQ.out], HN.out⟩, hbel.alloc hbel.size _⟩
      · have hqb : (x0 == c) = false := by simp [hq]
        have HQ := hide hq
        clear hq
        go_wp2
        go_roundw
        case rel =>
          refine ⟨k + 1, by omega, by go_num, hbel.alloc hbel.size _, fun j hj => ?_⟩
          by_cases e : j = k
          · subst e
            rw [HC.out]
            intro h
            exact HQ.out (Option.some.inj h)
          · exact HN.out j (by omega)
        case measure => simp [intOf]; omega
    · go_wp2
      go_ret
      refine ⟨-1, rfl, .inl ⟨rfl, fun j hj => ?_⟩, hbel⟩
      unfold codes at hj
      exact HN.out j (by simp at hj; omega)

theorem zindex_any (a : Option Addr) (g cp : Nat) (c : Int) (gs : List (Int × Int × Int)) (w : World) (hn : gs.length ≤ 1048576) (hr : gs ≠ [] → a = some ⟨g, 0, none⟩ ∧ Rd w g gs) :
    Calls Try.prog 10 #[.slice a gs.length cp, .int .u32 c] w fun e w' => ∃ r, e = .returned (.int .i64 r) ∧ IsIdx (codes gs) c r ∧ Below w.heap.size w w' := by
  have HR := hide hr
  clear hr
  go_enter Try.func10, Try.ntmps10
  go_wp2_with fail
  refine (index_any a g cp c gs _ hn HR.out).mono ?_
  rintro e w' ⟨r, rfl, hi, hb⟩
  have HI := hide hi
  clear hi
  go_wp2
  go_ret
  exact ⟨r, rfl, HI.out, hb⟩

theorem sane_any (a : Option Addr) (g cp : Nat) (c r : Int) (gs : List (Int × Int × Int)) (w : World) (hn : gs.length ≤ 1048576) (hr : gs ≠ [] → a = some ⟨g, 0, none⟩ ∧ Rd w g gs) (hi : IsIdx (codes gs) c r) :
    Calls Try.prog 11 #[.slice a gs.length cp, .int .u32 c, .int .i64 r] w fun e w' => e = .returned (.bool true) ∧ w = w' := by
  rcases hi with ⟨rfl, _⟩ | ⟨k, rfl, h2, h3, _⟩
  · clear hr
    go_enter Try.func11, Try.ntmps11
    go_wp2
    go_ret
    exact ⟨rfl, rfl⟩
  · have hlt : k < gs.length := by unfold codes at h2; simpa using h2
    have hne : gs ≠ [] := by intro h; rw [h] at hlt; simp at hlt
    obtain ⟨rfl, hrd⟩ := hr hne
    obtain ⟨c0, _, _⟩ := hrd k hlt
    have hcd := codes_get gs k hlt
    rw [h3] at hcd
    rw [← Option.some.inj hcd] at c0
    clear hr hne hrd hcd h3 h2
    go_enter Try.func11, Try.ntmps11
    go_wp2
    go_ret
    exact ⟨rfl, rfl⟩

theorem info36 : (Try.prog.info? 36).map (fun i => (i.zero, i.size, i.bytes)) = some (some (.agg #[.int .u32 0, .int .i64 0, .int .i64 0]), 3, 24) := by kernel_rfl

/-- The cells of the lines. -/
def fl (gs : List (Int × Int × Int)) : List Value := gs.flatMap (fun x => [.int .u32 x.1, .int .i64 x.2.1, .int .i64 x.2.2])

theorem fl_append (a b : List (Int × Int × Int)) : fl (a ++ b) = fl a ++ fl b := by unfold fl; exact List.flatMap_append
theorem fl_length (gs : List (Int × Int × Int)) : (fl gs).length = gs.length * 3 := by
  induction gs with
  | nil => rfl
  | cons x gs ih =>
    have e : fl (x :: gs) = [.int .u32 x.1, .int .i64 x.2.1, .int .i64 x.2.2] ++ fl gs := rfl
    rw [e, List.length_append, ih, List.length_cons]
    simp; omega
theorem fl_take (gs : List (Int × Int × Int)) (k : Nat) : (fl gs).take (k * 3) = fl (gs.take k) := by
  have h : fl gs = fl (gs.take k) ++ fl (gs.drop k) := by rw [← fl_append, List.take_append_drop]
  by_cases hk : k ≤ gs.length
  · rw [h, List.take_append_of_le_length (by rw [fl_length, List.length_take]; omega), List.take_of_length_le (by rw [fl_length, List.length_take]; omega)]
  · rw [List.take_of_length_le (by rw [fl_length]; omega), List.take_of_length_le (by omega)]
theorem fl_drop (gs : List (Int × Int × Int)) (k : Nat) : (fl gs).drop (k * 3) = fl (gs.drop k) := by
  by_cases hk : k ≤ gs.length
  · have h : fl gs = fl (gs.take k) ++ fl (gs.drop k) := by rw [← fl_append, List.take_append_drop]
    have hl : (fl (gs.take k)).length = k * 3 := by rw [fl_length, List.length_take]; omega
    rw [h, List.drop_append_of_le_length (by omega), List.drop_eq_nil_of_le (by omega), List.nil_append]
  · rw [List.drop_eq_nil_of_le (by rw [fl_length]; omega), List.drop_eq_nil_of_le (by omega)]
    rfl
theorem fl_get (gs : List (Int × Int × Int)) (i : Nat) (h : i < gs.length) : (fl gs)[i * 3]? = some (.int .u32 gs[i].1) ∧ (fl gs)[i * 3 + 1]? = some (.int .i64 gs[i].2.1) ∧ (fl gs)[i * 3 + 2]? = some (.int .i64 gs[i].2.2) := by
  have e : (fl gs).drop (i * 3) = .int .u32 gs[i].1 :: .int .i64 gs[i].2.1 :: .int .i64 gs[i].2.2 :: fl (gs.drop (i + 1)) := by
    rw [fl_drop, List.drop_eq_getElem_cons h]; rfl
  have h0 := congrArg (fun l : List Value => l[0]?) e
  have h1 := congrArg (fun l : List Value => l[1]?) e
  have h2 := congrArg (fun l : List Value => l[2]?) e
  simp only [List.getElem?_drop, Nat.add_zero] at h0 h1 h2
  exact ⟨h0, h1, h2⟩

/-- Block b is the row of the cells xs. -/
def Row (w : World) (b : Nat) (xs : List Value) : Prop := w.heap[b]? = some (.cells xs.toArray 36 (0, 0))
section
variable {w : World} {b : Nat} {xs : List Value}
theorem Row.cell (h : Row w b xs) {i : Nat} (hi : i < xs.length) : w.cell? ⟨b, i, none⟩ = some xs[i] := by
  unfold Row at h; simp [World.cell?, h, hi]
theorem Row.get (h : Row w b xs) (i : Nat) : w.cell? ⟨b, i, none⟩ = xs[i]? := by
  unfold Row at h; simp [World.cell?, h]
theorem Row.free (h : Row w b xs) (i : Nat) : w.frozen? ⟨b, i, none⟩ = false := by
  unfold Row at h; simp [World.frozen?, h]
theorem Row.lt (h : Row w b xs) : b < w.heap.size := (Array.getElem?_eq_some_iff.1 h).1
theorem Row.set (h : Row w b xs) (i : Nat) (v : Value) : Row (w.setCell ⟨b, i, none⟩ v) b (xs.set i v) := by
  unfold Row at *
  simp [World.setCell, Array.getElem?_modify, h]
theorem Row.drew (h : Row w b xs) : Row w.drew b xs := h
theorem Row.rd {gs : List (Int × Int × Int)} (h : Row w b (fl gs)) : Rd w b gs := by
  intro i hi
  obtain ⟨h0, h1, h2⟩ := fl_get gs i hi
  exact ⟨(h.get _).trans h0, (h.get _).trans h1, (h.get _).trans h2⟩
end

theorem set3_take (xs : List Value) (k : Nat) (h : k * 3 + 2 < xs.length) (u v z : Value) : (((xs.set (k * 3) u).set (k * 3 + 1) v).set (k * 3 + 2) z).take ((k + 1) * 3) = xs.take (k * 3) ++ [u, v, z] := by
  apply List.ext_getElem?
  intro j
  by_cases h1 : j < k * 3
  · rw [List.getElem?_take_of_lt (by omega), List.getElem?_append_left (by rw [List.length_take]; omega), List.getElem?_take_of_lt h1, List.getElem?_set_ne (by omega), List.getElem?_set_ne (by omega), List.getElem?_set_ne (by omega)]
  · by_cases h2 : j < (k + 1) * 3
    · rw [List.getElem?_take_of_lt h2, List.getElem?_append_right (by rw [List.length_take]; omega), List.length_take, Nat.min_eq_left (by omega)]
      have : j = k * 3 ∨ j = k * 3 + 1 ∨ j = k * 3 + 2 := by omega
      rcases this with rfl | rfl | rfl
      · rw [List.getElem?_set_ne (by omega), List.getElem?_set_ne (by omega), List.getElem?_set_self (by omega)]; simp
      · rw [List.getElem?_set_ne (by omega), List.getElem?_set_self (by rw [List.length_set]; omega)]; simp
      · rw [List.getElem?_set_self (by rw [List.length_set, List.length_set]; omega)]; simp
    · have e1 : ((((xs.set (k * 3) u).set (k * 3 + 1) v).set (k * 3 + 2) z).take ((k + 1) * 3))[j]? = none := by
        rw [List.getElem?_eq_none_iff, List.length_take]; omega
      have e2 : (xs.take (k * 3) ++ [u, v, z])[j]? = none := by
        rw [List.getElem?_eq_none_iff, List.length_append, List.length_take]; simp; omega
      rw [e1, e2]

set_option maxRecDepth 100000 in
set_option maxHeartbeats 1000000 in
/-- zzToGrammar of a slice that is not nil. -/
theorem togram_row (x : Addr) (cp : Nat) (gs : List (Int × Int × Int)) (w : World) (hn : gs.length ≤ 1048576) (hx : gs ≠ [] → x.spot = none)
    (hc : ∀ i (h : i < gs.length), w.cell? ⟨x.block, x.off + i * 3, none⟩ = some (.int .u32 gs[i].1) ∧ w.cell? ⟨x.block, x.off + i * 3 + 1, none⟩ = some (.int .i64 gs[i].2.1) ∧ w.cell? ⟨x.block, x.off + i * 3 + 2, none⟩ = some (.int .i64 gs[i].2.2)) :
    Calls Try.prog 9 #[.slice (some x) gs.length cp] w fun e w' => e = .returned (.slice (some ⟨w.heap.size, 0, none⟩) gs.length gs.length) ∧ Row w' w.heap.size (fl gs) ∧ Below w.heap.size w w' := by
  have hnil := fun wx => Lib.run_eql_slice_nil (P := Try.prog) wx 26 29 (some x) gs.length cp 0 0 Try.underlying26
  obtain ⟨i0, hi, hz0, hz1, hz2⟩ := info_parts info36
  have hmk := fun wx => run_make (P := Try.prog) wx 32 36 i0 (.agg #[.int .u32 0, .int .i64 0, .int .i64 0]) Try.underlying32 hi hz0 .i64 .i64 (gs.length : Int) (gs.length : Int) (by omega) (by omega) (by rw [hz2]; omega) (by omega)
  obtain ⟨b, off, sp⟩ := x
  have HC := hide hc; have HX := hide hx
  clear hc hx
  go_enter Try.func9, Try.ntmps9
  go_wp2
  clear hnil hmk
  go_loopw [4] (fun i wr => ∃ k : Nat, k ≤ gs.length ∧ i = .int .i64 k ∧ Below w.heap.size w wr ∧ ∃ xs : List Value, xs.length = gs.length * 3 ∧ xs.take (k * 3) = fl (gs.take k) ∧ Row wr w.heap.size xs) (fun i _ => gs.length - (intOf i).toNat)
  case atStart =>
    refine ⟨0, Nat.zero_le _, rfl, (Below.refl _ _).alloc (Nat.le_refl _) _, (madeCells #[.int .u32 0, .int .i64 0, .int .i64 0] (gs.length * 3)).toList, by simp [size_madeCells], by simp [fl], ?_⟩
    unfold Row
    rw [Array.toArray_toList]
    exact heap_alloc_new _ _
  case round =>
    obtain ⟨k, hk, rfl, hbel, xs, hl, htk, hrow⟩ := hrel
    have H1 := hide hl; have H2 := hide htk
    by_cases hlt : k < gs.length
    · have hsp : sp = none := HX.out (by intro h; rw [h] at hlt; simp at hlt)
      subst hsp
      obtain ⟨e0, e1, e2⟩ := HC.out k hlt
      have hbw : b < w.heap.size := lt_of_cell e0
      have c0 : wr.cell? ⟨b, off + k * 3, none⟩ = some (.int .u32 gs[k].1) := (hbel.cell (by exact hbw)).trans e0
      have c1 : wr.cell? ⟨b, off + k * 3 + 1, none⟩ = some (.int .i64 gs[k].2.1) := (hbel.cell (by exact hbw)).trans e1
      have c2 : wr.cell? ⟨b, off + k * 3 + 2, none⟩ = some (.int .i64 gs[k].2.2) := (hbel.cell (by exact hbw)).trans e2
      obtain ⟨⟨x0, x1, x2⟩, hx⟩ : ∃ x, x = gs[k] := ⟨_, rfl⟩
      rw [← hx] at c0 c1 c2
      have HG := hide hx
      obtain ⟨v0, d0⟩ : ∃ v, wr.cell? ⟨w.heap.size, k * 3, none⟩ = some v := ⟨_, hrow.cell (i := k * 3) (by omega)⟩
      obtain ⟨v1, d1⟩ : ∃ v, wr.cell? ⟨w.heap.size, k * 3 + 1, none⟩ = some v := ⟨_, hrow.cell (i := k * 3 + 1) (by omega)⟩
      obtain ⟨v2, d2⟩ : ∃ v, wr.cell? ⟨w.heap.size, k * 3 + 2, none⟩ = some v := ⟨_, hrow.cell (i := k * 3 + 2) (by omega)⟩
      have f0 := hrow.free (k * 3)
      have f1 := hrow.free (k * 3 + 1)
      have f2 := hrow.free (k * 3 + 2)
      clear hl htk e0 e1 e2 hx
      go_wp2
      go_region
      go_wp2
      go_roundw
      case rel =>
        refine ⟨k + 1, by omega, by go_num, ?_, ((xs.set (k * 3) (.int .u32 x0)).set (k * 3 + 1) (.int .i64 x1)).set (k * 3 + 2) (.int .i64 x2), by rw [List.length_set, List.length_set, List.length_set]; exact H1.out, ?_, ?_⟩
        · exact ((hbel.drew.setCell (Nat.le_refl _) _).setCell (Nat.le_refl _) _).setCell (Nat.le_refl _) _
        · rw [set3_take xs k (by have := H1.out; omega), H2.out, List.take_succ_eq_append_getElem hlt, fl_append, ← HG.out]
          rfl
        · exact ((hrow.drew.set _ _).set _ _).set _ _
      case measure => simp [intOf]; omega
    · clear hl htk
      go_wp2
      go_ret
      have ek : k = gs.length := by omega
      have ey : xs = fl gs := by
        have h := H2.out
        rw [ek, List.take_length, List.take_of_length_le (by rw [H1.out]; omega)] at h
        exact h
      rw [ey] at hrow
      exact ⟨rfl, hrow, hbel⟩

/-- zzToGrammar of nil. -/
theorem togram_nil (cp : Nat) (w : World) : Calls Try.prog 9 #[.slice none 0 cp] w fun e w' => e = .returned (.slice none 0 0) ∧ w' = w := by
  have hnil := fun wx => Lib.run_eql_slice_nil (P := Try.prog) wx 26 29 none 0 cp 0 0 Try.underlying26
  go_enter Try.func9, Try.ntmps9
  go_wp2
  go_ret
  exact ⟨rfl, rfl⟩
end Go.Proofs.Qxb6619583a.Gram
