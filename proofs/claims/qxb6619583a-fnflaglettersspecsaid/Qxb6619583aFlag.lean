/-
  THE WALKS OF flagLetters, zzRank, zzHasByte AND OF FnFlagLettersSpec.
-/
import Derived.Test.Qxb6619583aRows
import Derived.Test.Qxb6619583aFlagPlain
import Derived.WalkKit
import Derived.ProofKit
import Derived.OpenShut
import Derived.Handy
import Derived.WalkSpells
import Derived.Laws.IdiomStrings
namespace Go.Proofs.Qxb6619583a
open Go.ChangeShapes Go.WideShapes Go.ChangeAt Go.RowKit

theorem hide {p : Prop} (h : p) : Hid p := h
theorem ret_int {k : IntKind} {a b : Int} (h : a = b) : Ending.returned (.int k a) = .returned (.int k b) := by rw [h]
theorem info5 : (Try.prog.info? 5).map (fun i => (i.zero, i.size, i.bytes)) = some (some (.int .u8 0), 1, 1) := by kernel_rfl

def bV (c : UInt8) : Value := .int .u8 (c.toNat : Int)
/-- The table of the flags, as the literal lays it. -/
def tab : Obj := .cells #[.int .u8 128, .int .u8 82, .int .u8 64, .int .u8 80, .int .u8 32, .int .u8 69, .int .u8 16, .int .u8 84] 39

theorem tab_cells {w : World} {b k : Nat} (h : w.heap[b]? = some tab) (hk : k < 4) : w.cell? ⟨b, k * 2, none⟩ = some (.int .u8 (bitv k)) ∧ w.cell? ⟨b, k * 2 + 1, none⟩ = some (.int .u8 ((letv k).toNat : Int)) := by
  have : k = 0 ∨ k = 1 ∨ k = 2 ∨ k = 3 := by omega
  unfold tab at h
  rcases this with rfl | rfl | rfl | rfl <;> simp [World.cell?, h, bitv, letv]

theorem owns_block {w : World} {B n : Nat} {v : Value} {xs : List Value} (h : w.ownsRow B 5 1 v n xs) : ∀ k, v.ownBlock = some k → B ≤ k := by
  intro k hk
  rcases h.2 with ⟨h1, h0⟩ | ⟨g, cap, _, h1, h2, _⟩
  · rw [h1] at hk; simp [Value.ownBlock] at hk
  · rw [h1] at hk; simp [Value.ownBlock] at hk; omega

theorem owns_shape {w : World} {B n : Nat} {v : Value} {xs : List Value} (h : w.ownsRow B 5 1 v n xs) : ∃ a cap, v = .slice a n cap := by
  rcases h.2 with ⟨h1, h0⟩ | ⟨g, cap, _, h1, _⟩
  · exact ⟨none, 0, by rw [h1, h0]⟩
  · exact ⟨_, cap, h1⟩

theorem heap_lt {w : World} {b : Nat} {o : Obj} (h : w.heap[b]? = some o) : b < w.heap.size := (Array.getElem?_eq_some_iff.1 h).1

/-- What flagLetters answers. -/
def outS (a : Nat) : ByteArray := ⟨(if ls a 4 = [] then [45] else ls a 4).toArray⟩
theorem ret_str {s t : ByteArray} (h : s = t) : Ending.returned (.string s) = .returned (.string t) := by rw [h]

set_option maxRecDepth 100000 in
set_option maxHeartbeats 1000000 in
theorem letters_any (a : Nat) (w : World) :
    Calls Try.prog 12 #[.int .u8 a] w fun e w' => e = .returned (.string (outS a)) ∧ Below w.heap.size w w' := by
  obtain ⟨i0, hi, hz0, hz1, hz2⟩ := info_parts info5
  go_enter Try.func12, Try.ntmps12
  go_wp2
  have htab : (w.alloc tab).heap[w.heap.size]? = some tab := heap_alloc_new _ _
  have hb0 := (Below.refl w.heap.size w).alloc (Nat.le_refl _) tab
  go_loopw [3, 12] (fun v i wr => ∃ k : Nat, k ≤ 4 ∧ i = .int .i64 k ∧ wr.ownsRow (w.heap.size + 1) 5 1 v (ls a k).length ((ls a k).map bV) ∧ Below w.heap.size w wr ∧ wr.heap[w.heap.size]? = some tab) (fun _ i _ => 4 - (intOf i).toNat)
  case atStart => exact ⟨0, by omega, rfl, World.ownsRow_nil _ _ _ _, hb0, htab⟩
  case round =>
    clear hb0 htab
    obtain ⟨k, hk, rfl, hown, hbel, htab⟩ := hrel
    have hle := ls_le a k
    have hsz := heap_lt htab
    have HT := hide htab
    clear htab
    by_cases hlt : k < 4
    · obtain ⟨c0, c1⟩ := tab_cells HT.out hlt
      have hsel : (bits .and .u8 (a : Int) (bitv k) != 0) = sel a k := rfl
      cases hs : sel a k with
      | true =>
        rw [hs] at hsel
        have HS := hide hs
        clear hs
        go_wp2_with (at_builtin; refine wpList_append_own _ rfl _ _ 38 rfl (w.heap.size + 1) 5 i0 (.int .u8 0) 1 1 Try.underlying38 hi hz0 hz1 hz2 rfl (by decide) _ _ _ rfl ((hown.alloc _).alloc _) ⟨wr.heap.size + 1, 0, none⟩ 1 1 [.int .u8 ((letv k).toNat : Int)] rfl rfl ?c1 ?c2 ?c3 ?c4 ?c5 ?_)
        case c1 =>
          intro j u hj
          have h1 := cell_one_new (wr.alloc (.cells #[.int .u8 (bitv k), .int .u8 ((letv k).toNat : Int)] 39)) (.int .u8 ((letv k).toNat : Int)) 5 j u hj
          simpa using h1
        case c2 => intro u hu; simp at hu; subst hu; rfl
        case c3 => unfold maxLen; omega
        case c4 => omega
        case c5 => simp; omega
        intro v' w1 hown' hgrow _
        have hb1 := (hbel.alloc hbel.size (.cells #[.int .u8 (bitv k), .int .u8 ((letv k).toNat : Int)] 39)).alloc (by simp; omega) (.cells #[.int .u8 ((letv k).toNat : Int)] 5)
        have hob := owns_block hown
        have hbel' := hb1.grown hgrow (by simp; omega) (fun j hj => by have := hob j hj; omega)
        have htab' : w1.heap[w.heap.size]? = some tab := by
          rw [hgrow.block w.heap.size (by simp; omega) (by intro e; have := hob _ e.symm; omega), Below.heap_alloc _ _ _ (by simp; omega), Below.heap_alloc _ _ _ hsz]
          exact HT.out
        have HT' := hide htab'
        clear hgrow hown hbel hb1 htab' c0 c1 hob
        go_wp2
        go_roundw
        case rel =>
          refine ⟨k + 1, by omega, by go_num, ?_, hbel', HT'.out⟩
          have e1 : ls a (k + 1) = ls a k ++ [letv k] := by show (if sel a k then _ else _) = _; rw [HS.out]; rfl
          rw [e1, List.length_append, List.map_append]
          exact hown'
        case measure => simp [intOf]; omega
      | false =>
        rw [hs] at hsel
        have HS := hide hs
        clear hs
        go_wp2
        go_roundw
        case rel =>
          have e1 : ls a (k + 1) = ls a k := by show (if sel a k then _ else _) = _; rw [HS.out]; rfl
          refine ⟨k + 1, by omega, by go_num, by rw [e1]; exact hown.alloc _, hbel.alloc hbel.size _, ?_⟩
          rw [Below.heap_alloc _ _ _ hsz]; exact HT.out
        case measure => simp [intOf]; omega
    · have hk4 : k = 4 := by omega
      obtain ⟨ao, cap, hv⟩ := owns_shape hown
      rw [hv] at hown ⊢
      by_cases hnil : ls a k = []
      · have hlb : (((ls a k).length : Int) == 0) = true := by rw [hnil]; rfl
        have ho : outS a = ⟨#[45]⟩ := by unfold outS; rw [← hk4, if_pos hnil]
        have HO := hide ho
        clear hnil ho hk4
        go_wp2
        go_ret
        exact ⟨ret_str HO.out.symm, hbel⟩
      · have hl1 : 0 < (ls a k).length := List.length_pos_iff.2 hnil
        have hlb : (((ls a k).length : Int) == 0) = false := by simp; omega
        have ho : outS a = ⟨(ls a k).toArray⟩ := by unfold outS; rw [← hk4, if_neg hnil]
        have hcv : (convert 38 9 (.slice ao (ls a k).length cap)).run Try.prog wr = .ok (.string ⟨(ls a k).toArray⟩) wr := by
          rcases hown.2 with ⟨h1, h0⟩ | ⟨g, cap', cur, h1, _⟩
          · omega
          · simp only [Value.slice.injEq, true_and] at h1
            obtain ⟨rfl, rfl⟩ := h1
            refine run_convert_bytes_back wr 38 9 5 ⟨g, 0, none⟩ cap (ls a k) Try.underlying38 Try.underlying5 Try.underlying9 (fun j hj => ?_)
            rw [Addr.add_lit, Nat.zero_add, hown.cellAt j (by omega)]
            simp [bV, hj]
        have HO := hide ho
        clear hnil ho hk4
        go_wp2
        go_ret
        exact ⟨ret_str HO.out.symm, hbel⟩

theorem zletters_any (a : Nat) (w : World) :
    Calls Try.prog 5 #[.int .u8 a] w fun e w' => e = .returned (.string (outS a)) ∧ Below w.heap.size w w' := by
  go_enter Try.func5, Try.ntmps5
  go_wp2_with fail
  refine (letters_any a _).mono ?_
  rintro e w' ⟨rfl, hb⟩
  go_wp2
  go_ret
  exact ⟨rfl, hb⟩

theorem byte_eq (c d : UInt8) (n : Int) (h : n = (d.toNat : Int)) : ((c.toNat : Int) == n) = decide (c = d) := by
  subst h
  rw [Bool.eq_iff_iff]
  simp only [beq_iff_eq, decide_eq_true_eq]
  constructor
  · intro h
    apply UInt8.toNat.inj
    omega
  · intro h; subst h; rfl

theorem rank_any (c : UInt8) (w : World) :
    Calls Try.prog 6 #[.int .u8 c.toNat] w fun e w' => e = .returned (.int .i64 (rank c)) ∧ w' = w := by
  have e1 := byte_eq c 82 82 rfl
  have e2 := byte_eq c 80 80 rfl
  have e3 := byte_eq c 69 69 rfl
  have e4 := byte_eq c 84 84 rfl
  by_cases h1 : c = 82
  · rw [decide_eq_true h1] at e1
    have hr : rank c = 0 := by unfold rank; rw [if_pos h1]
    rw [hr]
    clear hr h1 e2 e3 e4
    go_enter Try.func6, Try.ntmps6
    go_wp2
    go_ret
    exact ⟨rfl, rfl⟩
  rw [decide_eq_false h1] at e1
  by_cases h2 : c = 80
  · rw [decide_eq_true h2] at e2
    have hr : rank c = 1 := by unfold rank; rw [if_neg h1, if_pos h2]
    rw [hr]
    clear hr h1 h2 e3 e4
    go_enter Try.func6, Try.ntmps6
    go_wp2
    go_ret
    exact ⟨rfl, rfl⟩
  rw [decide_eq_false h2] at e2
  by_cases h3 : c = 69
  · rw [decide_eq_true h3] at e3
    have hr : rank c = 2 := by unfold rank; rw [if_neg h1, if_neg h2, if_pos h3]
    rw [hr]
    clear hr h1 h2 h3 e4
    go_enter Try.func6, Try.ntmps6
    go_wp2
    go_ret
    exact ⟨rfl, rfl⟩
  rw [decide_eq_false h3] at e3
  by_cases h4 : c = 84
  · rw [decide_eq_true h4] at e4
    have hr : rank c = 3 := by unfold rank; rw [if_neg h1, if_neg h2, if_neg h3, if_pos h4]
    rw [hr]
    clear hr h1 h2 h3 h4
    go_enter Try.func6, Try.ntmps6
    go_wp2
    go_ret
    exact ⟨rfl, rfl⟩
  · rw [decide_eq_false h4] at e4
    have hr : rank c = -1 := by unfold rank; rw [if_neg h1, if_neg h2, if_neg h3, if_neg h4]
    rw [hr]
    clear hr h1 h2 h3 h4
    go_enter Try.func6, Try.ntmps6
    go_wp2
    go_ret
    exact ⟨rfl, rfl⟩

theorem bytes_mem (S : ByteArray) (c : UInt8) : S.data.toList.contains c = true ↔ ∃ (j : Nat) (h : j < S.size), S[j] = c := by
  rw [List.contains_iff_mem, List.mem_iff_getElem]
  constructor
  · rintro ⟨j, hj, h⟩
    have hj2 : j < S.size := by simpa using hj
    exact ⟨j, hj2, by rw [← h]; rfl⟩
  · rintro ⟨j, hj, h⟩
    exact ⟨j, by simpa using hj, by rw [← h]; rfl⟩

theorem has_any (S : ByteArray) (c : UInt8) (ci : Int) (hb : Bool) (w : World) (hc : ci = (c.toNat : Int)) (hs : S.size ≤ 4) (hh : S.data.toList.contains c = hb) :
    Calls Try.prog 7 #[.string S, .int .u8 ci] w fun e w' => e = .returned (.bool hb) ∧ w' = w := by
  have HC := hide hc; have HH := hide hh
  clear hc hh
  go_enter Try.func7, Try.ntmps7
  go_wp2
  go_loop [5] (fun i => ∃ k : Nat, k ≤ S.size ∧ i = .int .i64 k ∧ ∀ (j : Nat) (h : j < S.size), j < k → S[j] ≠ c) (fun i => S.size - (intOf i).toNat)
  case atStart => exact ⟨0, Nat.zero_le _, rfl, fun j _ h => absurd h (by omega)⟩
  case round =>
    obtain ⟨k, hk, rfl, hno⟩ := hrel
    have HN := hide hno
    clear hno
    by_cases hlt : k < S.size
    · have he := byte_eq S[k] c ci HC.out
      by_cases hq : S[k] = c
      · rw [decide_eq_true hq] at he
        have ht : hb = true := by rw [← HH.out]; exact (bytes_mem S c).2 ⟨k, hlt, hq⟩
        subst ht
        clear hq
        go_wp2
        go_ret
        exact ⟨rfl, rfl⟩
      · rw [decide_eq_false hq] at he
        have HQ := hide hq
        clear hq
        go_wp2
        go_round
        case rel =>
          refine ⟨k + 1, by omega, by go_num, fun j h1 h2 => ?_⟩
          by_cases e : j = k
          · subst e; exact HQ.out
          · exact HN.out j h1 (by omega)
        case measure => simp [intOf]; omega
    · have ht : hb = false := by
        rw [← HH.out, Bool.eq_false_iff]
        intro h1
        obtain ⟨j, h2, h3⟩ := (bytes_mem S c).1 h1
        exact HN.out j h2 (by omega) h3
      subst ht
      go_wp2
      go_ret
      exact ⟨rfl, rfl⟩

theorem ret_bool {b : Bool} (h : b = true) : Ending.returned (.bool b) = .returned (.bool true) := by rw [h]
theorem outS_full (a : Nat) (h : ls a 4 ≠ []) : (outS a).data.toList = ls a 4 := by unfold outS; rw [if_neg h]
theorem outS_none (a : Nat) (h : ls a 4 = []) : outS a = ⟨#[45]⟩ := by unfold outS; rw [if_pos h]

set_option maxRecDepth 100000 in
set_option maxHeartbeats 1000000 in
theorem flag_walk (a : Nat) (w : World) (ha : a < 256) :
    Calls Try.prog 3 #[.int .u8 a] w fun e w' => e = .returned (.bool true) ∧ Below w.heap.size w w' := by
  have hm := mask_all a ha
  cases hany : (sel a 0 || sel a 1 || sel a 2 || sel a 3) with
  | false =>
    rw [hany] at hm
    have ho := outS_none a (ls_none a hany)
    have HO := hide ho
    clear hany ho
    go_enter Try.func3, Try.ntmps3
    go_wp2_with fail
    refine (zletters_any a _).mono ?_
    rw [HO.out]
    rintro e w' ⟨rfl, hb⟩
    go_wp2
    go_ret
    exact ⟨rfl, hb⟩
  | true =>
    rw [hany] at hm
    have hok := ok_all _ _ _ _ hany
    rw [← ls_four] at hok
    obtain ⟨o1, o2, o3, o4, o5, o6, o7⟩ := ok_parts _ _ _ _ _ hok
    have hne : ls a 4 ≠ [] := by intro e; rw [e] at o2; exact o2 rfl
    have hS := outS_full a hne
    obtain ⟨S, hSS⟩ : ∃ S, S = outS a := ⟨_, rfl⟩
    rw [← hSS] at hS
    rw [← hS] at o1 o2 o3 o4 o5 o6 o7
    have hsz : S.data.toList.length = S.size := by simp
    rw [hsz] at o1 o2 o3
    have q0 : (bits .and .u8 (a : Int) 128 != 0) = sel a 0 := rfl
    have q1 : (bits .and .u8 (a : Int) 64 != 0) = sel a 1 := rfl
    have q2 : (bits .and .u8 (a : Int) 32 != 0) = sel a 2 := rfl
    have q3 : (bits .and .u8 (a : Int) 16 != 0) = sel a 3 := rfl
    have hsb : ((S.size : Int) == 0) = false := beq_eq_false_iff_ne.2 (by omega)
    have O3 := hide o3; have O4 := hide o4; have O5 := hide o5; have O6 := hide o6; have O7 := hide o7; have HSS := hide hSS
    have hgd : ∀ i (h : i < S.size), S.data.toList.getD i 0 = S[i] := fun i h => by simp [List.getD_eq_getElem?_getD, h]; rfl
    have HGD := hide hgd
    clear hany hok hne hS hsz o3 o4 o5 o6 o7 hSS o2 hgd
    go_enter Try.func3, Try.ntmps3
    go_wp2_with fail
    refine (zletters_any a _).mono ?_
    rw [← HSS.out]
    rintro e w' ⟨rfl, hb⟩
    go_wp2_with fail
    go_loop [4, 5] (fun pr i => ∃ k : Nat, k ≤ S.size ∧ i = .int .i64 k ∧ pr = .int .i64 (pv S.data.toList k)) (fun _ i => S.size - (intOf i).toNat)
    case atStart => exact ⟨0, Nat.zero_le _, rfl, rfl⟩
    case round =>
      obtain ⟨k, hk, rfl, rfl⟩ := hrel
      by_cases hlt : k < S.size
      · have h1 := O3.out k hlt
        rw [HGD.out k hlt] at h1
        obtain ⟨h2, h3⟩ := rank_bounds S[k]
        obtain ⟨h4, h5⟩ := pv_bounds S.data.toList k
        go_wp2_with (go_at_call 6; refine (rank_any _ _).mono ?_; rintro e w' ⟨rfl, rfl⟩)
        go_round
        case rel => exact ⟨k + 1, by omega, by go_num, by rw [pv_succ, HGD.out k hlt]⟩
        case measure => simp [intOf]; omega
      · go_wp2_with fail
        refine (has_any S 82 _ (sel a 0) _ rfl o1 O4.out).mono ?_
        rintro e wx ⟨rfl, hwx⟩
        subst hwx
        go_wp2_with fail
        refine (has_any S 80 _ (sel a 1) _ rfl o1 O5.out).mono ?_
        rintro e wy ⟨rfl, hwx⟩
        subst hwx
        go_wp2_with fail
        refine (has_any S 69 _ (sel a 2) _ rfl o1 O6.out).mono ?_
        rintro e wz ⟨rfl, hwx⟩
        subst hwx
        go_wp2_with fail
        refine (has_any S 84 _ (sel a 3) _ rfl o1 O7.out).mono ?_
        rintro e wt ⟨rfl, hwx⟩
        subst hwx
        go_wp2
        go_ret
        exact ⟨ret_bool (by simp), hb⟩
end Go.Proofs.Qxb6619583a
