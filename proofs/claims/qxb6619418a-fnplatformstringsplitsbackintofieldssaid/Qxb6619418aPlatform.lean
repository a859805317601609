/-
  THE WALKS OF Platform.String, platformPartsBack AND THE LAW's OWN.
-/
import Derived.Test.Qxb6619418aSplit
namespace Go.Proofs.Qxb6619418a
open Go.ChangeShapes Go.WideShapes Go.ChangeAt Go.RowKit

theorem empty_bool {v : ByteArray} (h : bs v = []) : v.toList.isEmpty = true := by rw [ByteArray.toList_eq]; unfold bs at h; rw [h]; rfl
theorem full_bool {v : ByteArray} (h : bs v ≠ []) : v.toList.isEmpty = false := by
  rw [ByteArray.toList_eq]; unfold bs at h
  cases e : v.data.toList with
  | nil => exact absurd e h
  | cons _ _ => rfl

/-- What Platform.String writes. -/
def txt (o a v : ByteArray) : List UInt8 := if bs v = [] then bs o ++ 47 :: bs a else bs o ++ 47 :: (bs a ++ 47 :: bs v)

theorem string_any (o a v : ByteArray) (w : World) (ho : o.size ≤ 262144) (ha : a.size ≤ 262144) (hv : v.size ≤ 262144) :
    Calls Try.prog 8 #[.agg #[.string o, .string a, .string v]] w fun e w' => ∃ T, e = .returned (.string T) ∧ bs T = txt o a v ∧ w' = w.alloc (.cells #[.string o, .string a, .string v] 30) := by
  by_cases h : bs v = []
  · have hb := empty_bool h
    have e1 : txt o a v = bs o ++ 47 :: bs a := by unfold txt; rw [if_pos h]
    have E1 := hide e1
    clear h e1
    go_enter Try.func8, Try.ntmps8
    go_wp2
    go_ret
    exact ⟨_, rfl, by rw [E1.out, bs_append, bs_append]; simp [bs], rfl⟩
  · have hb := full_bool h
    have e1 : txt o a v = bs o ++ 47 :: (bs a ++ 47 :: bs v) := by unfold txt; rw [if_neg h]
    have E1 := hide e1
    clear h e1
    go_enter Try.func8, Try.ntmps8
    go_wp2
    go_ret
    exact ⟨_, rfl, by rw [E1.out, bs_append, bs_append, bs_append, bs_append]; simp [bs], rfl⟩

theorem map_bs_inj {P Q : List ByteArray} (h : P.map bs = Q.map bs) : P = Q := by
  induction P generalizing Q with
  | nil => cases Q with
    | nil => rfl
    | cons _ _ => simp at h
  | cons p P ih => cases Q with
    | nil => simp at h
    | cons q Q =>
      simp only [List.map_cons, List.cons.injEq] at h
      rw [bs_inj h.1, ih h.2]

/-- No field holds a slash, no variant: two parts. -/
theorem parts_two (o a v : ByteArray) (P : List ByteArray) (hv : bs v = []) (ho : (bs o).count 47 = 0) (ha : (bs a).count 47 = 0) (h : P.map bs = spl (txt o a v) []) : P = [o, a] := by
  apply map_bs_inj
  rw [h]
  unfold txt
  rw [if_pos hv, spl_cut _ _ _ ho, spl_none _ _ ha]
  rfl
/-- .. with a variant: three. -/
theorem parts_three (o a v : ByteArray) (P : List ByteArray) (hv : ¬ bs v = []) (ho : (bs o).count 47 = 0) (ha : (bs a).count 47 = 0) (hv' : (bs v).count 47 = 0) (h : P.map bs = spl (txt o a v) []) : P = [o, a, v] := by
  apply map_bs_inj
  rw [h]
  unfold txt
  rw [if_neg hv, spl_cut _ _ _ ho, spl_cut _ _ _ ha, spl_none _ _ hv']
  rfl
theorem parts_count (o a v : ByteArray) (P : List ByteArray) (h : P.map bs = spl (txt o a v) []) :
    P.length = (bs o).count 47 + (bs a).count 47 + (bs v).count 47 + 2 + (if bs v = [] then 0 else 1) := by
  have h1 : P.length = (P.map bs).length := by simp
  rw [h1, h, spl_length]
  unfold txt
  by_cases hv : bs v = []
  · rw [if_pos hv, if_pos hv, hv]
    simp; omega
  · rw [if_neg hv, if_neg hv]
    simp; omega
theorem txt_size (o a v s : ByteArray) (h : bs s = txt o a v) : s.size = o.size + a.size + v.size + 1 + (if bs v = [] then 0 else 1) := by
  rw [← bs_length s, h, ← bs_length o, ← bs_length a, ← bs_length v]
  unfold txt
  by_cases hv : bs v = []
  · rw [if_pos hv, if_pos hv, hv]
    simp; omega
  · rw [if_neg hv, if_neg hv]
    simp; omega

theorem owns_cell {w : World} {B g n cap : Nat} {P : List ByteArray} (h : w.ownsRow B 9 1 (.slice (some ⟨g, 0, none⟩) P.length cap) P.length (P.map Value.string)) (hn : P.length = n) (i : Nat) (hi : i < P.length) :
    w.cell? ⟨g, i, none⟩ = some (.string P[i]) := by
  rw [h.cellAt i (by omega)]
  simp [hi]

theorem ret_bool {b : Bool} (h : b = true) : Ending.returned (.bool b) = .returned (.bool true) := by rw [h]

theorem count_is (s : ByteArray) (n : Nat) (h : (bs s).count 47 = n) (w : World) (hs : s.size ≤ 262144) :
    Calls Try.prog 12 #[.string s] w fun e w' => e = .returned (.int .i64 n) ∧ w' = w := by
  subst h
  exact count_any s w (by omega)

set_option maxHeartbeats 1000000 in
/-- No slash in a field. -/
theorem back_plain (s o a v : ByteArray) (w : World) (ho : o.size ≤ 262144) (ha : a.size ≤ 262144) (hv : v.size ≤ 262144) (hs1 : s.size ≤ 1048576) (hs : bs s = txt o a v)
    (h1 : (bs o).count 47 = 0) (h2 : (bs a).count 47 = 0) (h3 : (bs v).count 47 = 0) :
    Calls Try.prog 9 #[.string s, .string o, .string a, .string v] w fun e w' => e = .returned (.bool true) ∧ Below w.heap.size w w' := by
  by_cases he : bs v = []
  · have hb := empty_bool he
    have HE := hide he; have H1 := hide h1; have H2 := hide h2; have H3 := hide h3; have HS := hide hs
    clear he h1 h2 h3 hs
    go_enter Try.func9, Try.ntmps9
    go_wp2_with fail
    refine (split_any s _ hs1).mono ?_
    rintro e w1 ⟨P, g, cap, rfl, hP, hown, hbel⟩
    rw [HS.out] at hP
    obtain rfl := parts_two o a v P HE.out H1.out H2.out hP
    have d0 : w1.cell? ⟨g, 0, none⟩ = some (.string o) := owns_cell hown rfl 0 (by simp)
    have d1 : w1.cell? ⟨g, 1, none⟩ = some (.string a) := owns_cell hown rfl 1 (by simp)
    clear hP hown
    go_wp2_with fail
    refine (count_is o 0 H1.out _ ho).mono ?_
    rintro e wx ⟨rfl, hwx⟩
    subst hwx
    go_wp2_with fail
    refine (count_is a 0 H2.out _ ha).mono ?_
    rintro e wx' ⟨rfl, hwx⟩
    subst hwx
    go_wp2_with fail
    refine (count_is v 0 H3.out _ hv).mono ?_
    rintro e wy ⟨rfl, hwx⟩
    subst hwx
    go_wp2
    go_ret
    exact ⟨rfl, hbel⟩
  · have hb := full_bool he
    have HE := hide he; have H1 := hide h1; have H2 := hide h2; have H3 := hide h3; have HS := hide hs
    clear he h1 h2 h3 hs
    go_enter Try.func9, Try.ntmps9
    go_wp2_with fail
    refine (split_any s _ hs1).mono ?_
    rintro e w1 ⟨P, g, cap, rfl, hP, hown, hbel⟩
    rw [HS.out] at hP
    obtain rfl := parts_three o a v P HE.out H1.out H2.out H3.out hP
    have d0 : w1.cell? ⟨g, 0, none⟩ = some (.string o) := owns_cell hown rfl 0 (by simp)
    have d1 : w1.cell? ⟨g, 1, none⟩ = some (.string a) := owns_cell hown rfl 1 (by simp)
    have d2 : w1.cell? ⟨g, 2, none⟩ = some (.string v) := owns_cell hown rfl 2 (by simp)
    clear hP hown
    go_wp2_with fail
    refine (count_is o 0 H1.out _ ho).mono ?_
    rintro e wx ⟨rfl, hwx⟩
    subst hwx
    go_wp2_with fail
    refine (count_is a 0 H2.out _ ha).mono ?_
    rintro e wx' ⟨rfl, hwx⟩
    subst hwx
    go_wp2_with fail
    refine (count_is v 0 H3.out _ hv).mono ?_
    rintro e wy ⟨rfl, hwx⟩
    subst hwx
    go_wp2
    go_ret
    exact ⟨rfl, hbel⟩

set_option maxHeartbeats 1000000 in
/-- Some field holds a slash. -/
theorem back_slash (s o a v : ByteArray) (no na nv : Nat) (w : World) (ho : o.size ≤ 262144) (ha : a.size ≤ 262144) (hv : v.size ≤ 262144) (hs1 : s.size ≤ 1048576) (hs : bs s = txt o a v)
    (h1 : (bs o).count 47 = no) (h2 : (bs a).count 47 = na) (h3 : (bs v).count 47 = nv) (hn1 : no ≤ 262144) (hn2 : na ≤ 262144) (hn3 : nv ≤ 262144) (hne : 1 ≤ no + na + nv) :
    Calls Try.prog 9 #[.string s, .string o, .string a, .string v] w fun e w' => e = .returned (.bool true) ∧ Below w.heap.size w w' := by
  have hz := txt_size o a v s hs
  have H1 := hide h1; have H2 := hide h2; have H3 := hide h3; have HS := hide hs
  clear h1 h2 h3 hs
  have hnb : (((no : Int) + na + nv) == 0) = false := by simp; omega
  by_cases he : bs v = []
  · have hb := empty_bool he
    rw [if_pos he] at hz
    have hz1 : s.size ≤ o.size + a.size + v.size + 1 := by omega
    have hz2 : o.size + a.size + v.size + 1 ≤ s.size := by omega
    have HE := hide he
    clear he hz
    go_enter Try.func9, Try.ntmps9
    go_wp2_with fail
    refine (split_any s _ hs1).mono ?_
    rintro e w1 ⟨P, g, cap, rfl, hP, hown, hbel⟩
    rw [HS.out] at hP
    have hc := parts_count o a v P hP
    rw [if_pos HE.out, H1.out, H2.out, H3.out] at hc
    have hc1 : P.length ≤ no + na + nv + 2 := by omega
    have hc2 : no + na + nv + 2 ≤ P.length := by omega
    clear hP hown hc
    go_wp2_with fail
    refine (count_is o no H1.out _ ho).mono ?_
    rintro e wx ⟨rfl, hwx⟩
    subst hwx
    go_wp2_with fail
    refine (count_is a na H2.out _ ha).mono ?_
    rintro e wx' ⟨rfl, hwx⟩
    subst hwx
    go_wp2_with fail
    refine (count_is v nv H3.out _ hv).mono ?_
    rintro e wy ⟨rfl, hwx⟩
    subst hwx
    go_wp2
    go_ret
    exact ⟨ret_bool (beq_iff_eq.2 (by omega)), hbel⟩
  · have hb := full_bool he
    rw [if_neg he] at hz
    have hz1 : s.size ≤ o.size + a.size + v.size + 2 := by omega
    have hz2 : o.size + a.size + v.size + 2 ≤ s.size := by omega
    have HE := hide he
    clear he hz
    go_enter Try.func9, Try.ntmps9
    go_wp2_with fail
    refine (split_any s _ hs1).mono ?_
    rintro e w1 ⟨P, g, cap, rfl, hP, hown, hbel⟩
    rw [HS.out] at hP
    have hc := parts_count o a v P hP
    rw [if_neg HE.out, H1.out, H2.out, H3.out] at hc
    have hc1 : P.length ≤ no + na + nv + 3 := by omega
    have hc2 : no + na + nv + 3 ≤ P.length := by omega
    clear hP hown hc
    go_wp2_with fail
    refine (count_is o no H1.out _ ho).mono ?_
    rintro e wx ⟨rfl, hwx⟩
    subst hwx
    go_wp2_with fail
    refine (count_is a na H2.out _ ha).mono ?_
    rintro e wx' ⟨rfl, hwx⟩
    subst hwx
    go_wp2_with fail
    refine (count_is v nv H3.out _ hv).mono ?_
    rintro e wy ⟨rfl, hwx⟩
    subst hwx
    go_wp2
    go_ret
    exact ⟨ret_bool (beq_iff_eq.2 (by omega)), hbel⟩

theorem back_any (s o a v : ByteArray) (w : World) (ho : o.size ≤ 262144) (ha : a.size ≤ 262144) (hv : v.size ≤ 262144) (hs : bs s = txt o a v) :
    Calls Try.prog 9 #[.string s, .string o, .string a, .string v] w fun e w' => e = .returned (.bool true) ∧ Below w.heap.size w w' := by
  have hsz := txt_size o a v s hs
  have hs1 : s.size ≤ 1048576 := by rw [hsz]; split <;> omega
  have co := Nat.le_trans (List.count_le_length (l := bs o) (a := 47)) (Nat.le_of_eq (bs_length o))
  have ca := Nat.le_trans (List.count_le_length (l := bs a) (a := 47)) (Nat.le_of_eq (bs_length a))
  have cv := Nat.le_trans (List.count_le_length (l := bs v) (a := 47)) (Nat.le_of_eq (bs_length v))
  by_cases h0 : (bs o).count 47 + (bs a).count 47 + (bs v).count 47 = 0
  · exact back_plain s o a v w ho ha hv hs1 hs (by omega) (by omega) (by omega)
  · exact back_slash s o a v _ _ _ w ho ha hv hs1 hs rfl rfl rfl (by omega) (by omega) (by omega) (by omega)

theorem bytes7_yes (o a v : ByteArray) (w : World) (h : o.size + a.size + v.size ≤ 1048576) :
    Calls Try.prog 7 #[.string o, .string a, .string v] w fun e w' => e = .returned (.bool true) ∧ w' = w := by
  go_enter Try.func7, Try.ntmps7
  go_wp2
  go_ret
  exact ⟨rfl, rfl⟩
theorem bytes7_no (o a v : ByteArray) (w : World) (h : ¬ o.size + a.size + v.size ≤ 1048576) :
    Calls Try.prog 7 #[.string o, .string a, .string v] w fun e w' => e = .returned (.bool false) ∧ w' = w := by
  by_cases h1 : o.size ≤ 1048576
  · by_cases h2 : a.size ≤ 1048576
    · by_cases h3 : o.size + a.size ≤ 1048576
      · by_cases h4 : v.size ≤ 1048576
        all_goals
          go_enter Try.func7, Try.ntmps7
          go_wp2
          go_ret
          exact ⟨rfl, rfl⟩
      · go_enter Try.func7, Try.ntmps7
        go_wp2
        go_ret
        exact ⟨rfl, rfl⟩
    · go_enter Try.func7, Try.ntmps7
      go_wp2
      go_ret
      exact ⟨rfl, rfl⟩
  · go_enter Try.func7, Try.ntmps7
    go_wp2
    go_ret
    exact ⟨rfl, rfl⟩

theorem platform_out (o a v : ByteArray) (w : World)
    (h : ¬ o.size + a.size + v.size ≤ 1048576 ∨ (o.size + a.size + v.size ≤ 1048576 ∧ ¬ o.size ≤ 262144) ∨ (o.size + a.size + v.size ≤ 1048576 ∧ o.size ≤ 262144 ∧ ¬ a.size ≤ 262144) ∨ (o.size + a.size + v.size ≤ 1048576 ∧ o.size ≤ 262144 ∧ a.size ≤ 262144 ∧ ¬ v.size ≤ 262144)) :
    Calls Try.prog 4 #[.string o, .string a, .string v] w fun e w' => e = .returned (.bool true) ∧ Below w.heap.size w w' := by
  rcases h with h | ⟨h1, h2⟩ | ⟨h1, h2, h3⟩ | ⟨h1, h2, h3, h4⟩
  · go_enter Try.func4, Try.ntmps4
    go_wp2_with (go_at_call 7; refine (bytes7_no _ _ _ _ h).mono ?_; rintro e w' ⟨rfl, rfl⟩)
    go_ret
    exact ⟨rfl, Below.refl _ _⟩
  all_goals
    go_enter Try.func4, Try.ntmps4
    go_wp2_with (go_at_call 7; refine (bytes7_yes _ _ _ _ h1).mono ?_; rintro e w' ⟨rfl, rfl⟩)
    go_ret
    exact ⟨rfl, Below.refl _ _⟩

set_option maxHeartbeats 400000 in
theorem platform_in (o a v : ByteArray) (w : World) (ho : o.size ≤ 262144) (ha : a.size ≤ 262144) (hv : v.size ≤ 262144) :
    Calls Try.prog 4 #[.string o, .string a, .string v] w fun e w' => e = .returned (.bool true) ∧ Below w.heap.size w w' := by
  go_enter Try.func4, Try.ntmps4
  go_wp2_with fail
  refine (bytes7_yes _ _ _ _ (by omega)).mono ?_
  rintro e w' ⟨rfl, hw'⟩
  subst hw'
  go_wp2_with fail
  refine (string_any o a v _ ho ha hv).mono ?_
  rintro e w1 ⟨T, rfl, hT, hw1⟩
  have hb1 : Below w'.heap.size w' w1 := by rw [hw1]; exact ((Below.refl _ _).alloc (Nat.le_refl _) _).alloc (by simp) _
  have HT := hide hT
  clear hT hw1
  go_wp2_with fail
  refine (back_any T o a v _ ho ha hv HT.out).mono ?_
  rintro e w2 ⟨rfl, hb2⟩
  go_wp2
  go_ret
  exact ⟨rfl, hb1.trans (hb2.mono hb1.size)⟩

theorem platform_walk (o a v : ByteArray) (w : World) :
    Calls Try.prog 4 #[.string o, .string a, .string v] w fun e w' => e = .returned (.bool true) ∧ Below w.heap.size w w' := by
  by_cases h : o.size ≤ 262144 ∧ a.size ≤ 262144 ∧ v.size ≤ 262144
  · exact platform_in o a v w h.1 h.2.1 h.2.2
  · exact platform_out o a v w (by omega)
end Go.Proofs.Qxb6619418a
