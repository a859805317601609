/-
  THE PLAIN LAWS OF A BOTTOM-UP MERGE SORT AND OF EIGHT PASSES OF A BUCKET SORT: no Go in sight.
-/
import Derived.Test.Qxb6619403aPlain
namespace Go.Proofs.Qxb6619403a

/-! ### The bucket sort, again and again -/

theorem count_buckN (k : Nat → Nat) (xs : List Nat) (a D : Nat) : (buckN k D xs).count a = if k a < D then xs.count a else 0 := by
  induction D with
  | zero => simp [buckN]
  | succ D ih =>
    rw [buckN_succ, List.count_append, ih]
    by_cases h1 : k a < D
    · have h2 : k a < D + 1 := by omega
      have h3 : (F k D xs).count a = 0 := by
        rw [List.count_eq_zero]
        intro h
        have := (List.mem_filter.1 h).2
        simp at this
        omega
      simp [h1, h2, h3]
    · by_cases h2 : k a = D
      · have h3 : (F k D xs).count a = xs.count a := List.count_filter (by simp [h2])
        have h4 : k a < D + 1 := by omega
        rw [h3, if_neg h1, if_pos h4]; omega
      · have h3 : (F k D xs).count a = 0 := by
          rw [List.count_eq_zero]
          intro h
          have := (List.mem_filter.1 h).2
          simp at this
          omega
        have h4 : ¬ k a < D + 1 := by omega
        simp [h1, h3, h4]

theorem pw_mem {R Q : Nat → Nat → Prop} {l : List Nat} (h : l.Pairwise R) (f : ∀ a b, a ∈ l → b ∈ l → R a b → Q a b) : l.Pairwise Q := by
  rw [List.pairwise_iff_getElem] at *
  intro i j hi hj hij
  exact f _ _ (List.getElem_mem hi) (List.getElem_mem hj) (h i j hi hj hij)

theorem buck_perm (k : Nat → Nat) (xs : List Nat) (hk : ∀ v, k v < 256) : (buck k xs).Perm xs := by
  rw [List.perm_iff_count]
  intro a
  unfold buck
  rw [count_buckN, if_pos (hk a)]

/-- One pass: sorted by the low bits, then bucketed by the next eight: sorted by both. -/
theorem radix_step (M : Nat) (xs : List Nat) (h : xs.Pairwise (fun a b => a % M ≤ b % M)) :
    (buck (fun v => v / M % 256) xs).Pairwise (fun a b => a % (M * 256) ≤ b % (M * 256)) := by
  unfold buck buckN
  rw [List.pairwise_flatMap]
  constructor
  · intro d _
    have h1 : (F (fun v => v / M % 256) d xs).Pairwise (fun a b => a % M ≤ b % M) := h.filter _
    refine pw_mem h1 ?_
    intro a b ha hb hab
    have ea : a / M % 256 = d := by simpa using (List.mem_filter.1 ha).2
    have eb : b / M % 256 = d := by simpa using (List.mem_filter.1 hb).2
    rw [Nat.mod_mul, Nat.mod_mul, ea, eb]
    omega
  · rw [List.pairwise_iff_getElem]
    intro i j hi hj hij x hx y hy
    simp only [List.getElem_range] at hx hy
    have ex : x / M % 256 = i := by simpa using (List.mem_filter.1 hx).2
    have ey : y / M % 256 = j := by simpa using (List.mem_filter.1 hy).2
    rw [Nat.mod_mul, Nat.mod_mul, ex, ey]
    rcases Nat.eq_zero_or_pos M with hM | hM
    · subst hM
      simp at ex ey
      omega
    · have h1 := Nat.mod_lt x hM
      have h2 : M * (i + 1) ≤ M * j := Nat.mul_le_mul_left M hij
      rw [Nat.mul_add] at h2
      omega

/-- The words after p passes. -/
def passN : Nat → List Nat → List Nat
  | 0, xs => xs
  | p + 1, xs => buck (fun v => v / 2 ^ (8 * p) % 256) (passN p xs)

theorem passN_perm (p : Nat) (xs : List Nat) : (passN p xs).Perm xs := by
  induction p with
  | zero => exact List.Perm.refl _
  | succ p ih => exact (buck_perm _ _ (fun v => Nat.mod_lt _ (by decide))).trans ih

theorem passN_sorted (p : Nat) (xs : List Nat) : (passN p xs).Pairwise (fun a b => a % 2 ^ (8 * p) ≤ b % 2 ^ (8 * p)) := by
  induction p with
  | zero => rw [List.pairwise_iff_getElem]; intro i j _ _ _; simp [Nat.mod_one]
  | succ p ih =>
    have h := radix_step (2 ^ (8 * p)) (passN p xs) ih
    have e : 2 ^ (8 * p) * 256 = 2 ^ (8 * (p + 1)) := by
      rw [show 8 * (p + 1) = 8 * p + 8 from by omega, Nat.pow_add]
    rw [e] at h
    exact h

theorem passN_length (p : Nat) (xs : List Nat) : (passN p xs).length = xs.length := (passN_perm p xs).length_eq
theorem passN_lt (p : Nat) (xs : List Nat) (h : ∀ v ∈ xs, v < 18446744073709551616) : ∀ v ∈ passN p xs, v < 18446744073709551616 :=
  fun v hv => h v ((passN_perm p xs).mem_iff.1 hv)

/-! ### The merge sort -/

/-- Every stretch of w words that begins at a multiple of w is in order. -/
def CS (w : Nat) (l : List Nat) : Prop := ∀ i j (hi : i < l.length) (hj : j < l.length), i < j → i / w = j / w → l[i] ≤ l[j]

theorem CS_one (l : List Nat) : CS 1 l := by
  intro i j _ _ hij h
  rw [Nat.div_one, Nat.div_one] at h
  omega

theorem CS_all (w : Nat) (l : List Nat) (h : CS w l) (hw : l.length ≤ w) : l.Pairwise (fun a b => a ≤ b) := by
  rw [List.pairwise_iff_getElem]
  intro i j hi hj hij
  exact h i j hi hj hij (by rw [Nat.div_eq_of_lt (by omega), Nat.div_eq_of_lt (by omega)])

theorem sorted_unique (a b : List Nat) (ha : a.Pairwise (fun x y => x ≤ y)) (hb : b.Pairwise (fun x y => x ≤ y)) (h : a.Perm b) : a = b :=
  List.Perm.eq_of_pairwise (fun _ _ _ _ h1 h2 => Nat.le_antisymm h1 h2) ha hb h

/-- Eight passes give the one list in order. -/
theorem eight (xs ys : List Nat) (hv : ∀ v ∈ xs, v < 18446744073709551616) (hp : ys.Perm xs) (hs : ys.Pairwise (fun x y => x ≤ y)) : passN 8 xs = ys := by
  refine sorted_unique _ _ ?_ hs ((passN_perm 8 xs).trans hp.symm)
  refine pw_mem (passN_sorted 8 xs) ?_
  intro a b ha hb hab
  have h1 := passN_lt 8 xs hv a ha
  have h2 := passN_lt 8 xs hv b hb
  rw [Nat.mod_eq_of_lt (show a < 2 ^ (8 * 8) from h1), Nat.mod_eq_of_lt (show b < 2 ^ (8 * 8) from h2)] at hab
  exact hab

/-- The words of S from i up to m. -/
def seg (S : List Nat) (i m : Nat) : List Nat := (S.take m).drop i
def mg (l r : List Nat) : List Nat := List.merge l r (fun a b => decide (a ≤ b))

theorem seg_length (S : List Nat) (i m : Nat) (hm : m ≤ S.length) : (seg S i m).length = m - i := by
  unfold seg; rw [List.length_drop, List.length_take, Nat.min_eq_left hm]
theorem seg_nil (S : List Nat) (i m : Nat) (h : m ≤ i) : seg S i m = [] := by
  unfold seg; exact List.drop_eq_nil_of_le (Nat.le_trans (List.length_take_le _ _) h)
theorem seg_cons (S : List Nat) (i m : Nat) (h : i < m) (hi : i < S.length) : seg S i m = S[i] :: seg S (i + 1) m := by
  unfold seg
  rw [List.drop_eq_getElem_cons (by rw [List.length_take]; omega)]
  simp
theorem seg_get (S : List Nat) (i m a : Nat) (h : a < (seg S i m).length) (h' : i + a < S.length) : (seg S i m)[a] = S[i + a] := by
  simp [seg]
theorem take_seg (S : List Nat) (i m : Nat) (h : i ≤ m) : S.take i ++ seg S i m = S.take m := by
  unfold seg
  have e : S.take i = (S.take m).take i := by rw [List.take_take, Nat.min_eq_left h]
  rw [e, List.take_append_drop]

theorem mg_nil_left (r : List Nat) : mg [] r = r := List.nil_merge r
theorem mg_left (x : Nat) (l r : List Nat) (h : ∀ y r', r = y :: r' → x ≤ y) : mg (x :: l) r = x :: mg l r := by
  unfold mg
  cases r with
  | nil => simp
  | cons y r' => rw [List.cons_merge_cons, if_pos (by simpa using h y r' rfl)]
theorem mg_right (y : Nat) (l r : List Nat) (h : ∀ x l', l = x :: l' → ¬ x ≤ y) : mg l (y :: r) = y :: mg l r := by
  unfold mg
  cases l with
  | nil => simp
  | cons x l' => rw [List.cons_merge_cons, if_neg (by simpa using h x l' rfl)]
theorem mg_perm (l r : List Nat) : (mg l r).Perm (l ++ r) := List.merge_perm_append _
theorem mg_length (l r : List Nat) : (mg l r).length = l.length + r.length := by rw [(mg_perm l r).length_eq, List.length_append]
theorem mg_sorted (l r : List Nat) (hl : l.Pairwise (fun a b => a ≤ b)) (hr : r.Pairwise (fun a b => a ≤ b)) : (mg l r).Pairwise (fun a b => a ≤ b) := by
  have h := List.pairwise_merge (le := fun a b : Nat => decide (a ≤ b)) (by intro a b c; simp; omega) (by intro a b; simp; omega) l r (by simpa using hl) (by simpa using hr)
  unfold mg
  simpa using h

theorem seg_sorted (w : Nat) (S : List Nat) (h : CS w S) (lo m : Nat) (hm : m ≤ S.length) (hq : ∀ a, lo ≤ a → a < m → a / w = lo / w) : (seg S lo m).Pairwise (fun a b => a ≤ b) := by
  rw [List.pairwise_iff_getElem]
  intro i j hi hj hij
  have hl := seg_length S lo m hm
  rw [seg_get S lo m i hi (by omega), seg_get S lo m j hj (by omega)]
  exact h _ _ _ _ (by omega) (by rw [hq (lo + i) (by omega) (by omega), hq (lo + j) (by omega) (by omega)])

theorem take_set_next (ys : List Nat) (k : Nat) (h : k < ys.length) (v : Nat) : (ys.set k v).take (k + 1) = ys.take k ++ [v] := by
  rw [List.take_succ_eq_append_getElem (by simpa using h)]
  simp [List.take_set_of_le]

/-- The next word comes from the left stretch. -/
theorem step_left (S D R : List Nat) (i j k mid hi : Nat) (hi' : i < S.length) (hk : k < D.length) (h1 : i < mid) (h2 : ∀ h : j < S.length, j < hi → S[i] ≤ S[j])
    (H : D.take k ++ mg (seg S i mid) (seg S j hi) = R) : (D.set k S[i]).take (k + 1) ++ mg (seg S (i + 1) mid) (seg S j hi) = R := by
  rw [take_set_next D k hk, ← H, seg_cons S i mid h1 hi']
  have e : mg (S[i] :: seg S (i + 1) mid) (seg S j hi) = S[i] :: mg (seg S (i + 1) mid) (seg S j hi) := by
    apply mg_left
    intro y r' hr
    by_cases h3 : j < hi ∧ j < S.length
    · rw [seg_cons S j hi h3.1 h3.2] at hr
      have := (List.cons.inj hr).1
      rw [← this]; exact h2 h3.2 h3.1
    · have h4 : seg S j hi = [] := by
        unfold seg
        apply List.drop_eq_nil_of_le
        rw [List.length_take]; omega
      rw [h4] at hr
      exact absurd hr (by simp)
  rw [e]
  simp

/-- The next word comes from the right stretch. -/
theorem step_right (S D R : List Nat) (i j k mid hi : Nat) (hj' : j < S.length) (hk : k < D.length) (h1 : j < hi) (h2 : ∀ h : i < S.length, i < mid → ¬ S[i] ≤ S[j])
    (H : D.take k ++ mg (seg S i mid) (seg S j hi) = R) : (D.set k S[j]).take (k + 1) ++ mg (seg S i mid) (seg S (j + 1) hi) = R := by
  rw [take_set_next D k hk, ← H, seg_cons S j hi h1 hj']
  have e : mg (seg S i mid) (S[j] :: seg S (j + 1) hi) = S[j] :: mg (seg S i mid) (seg S (j + 1) hi) := by
    apply mg_right
    intro x l' hr
    by_cases h3 : i < mid ∧ i < S.length
    · rw [seg_cons S i mid h3.1 h3.2] at hr
      have := (List.cons.inj hr).1
      rw [← this]; exact h2 h3.2 h3.1
    · have h4 : seg S i mid = [] := by
        unfold seg
        apply List.drop_eq_nil_of_le
        rw [List.length_take]; omega
      rw [h4] at hr
      exact absurd hr (by simp)
  rw [e]
  simp

theorem div_block (w a q : Nat) (_hw : 0 < w) (h1 : q * w ≤ a) (h2 : a < q * w + w) : a / w = q := by
  have e : (q + 1) * w = q * w + w := by rw [Nat.add_mul, Nat.one_mul]
  refine Nat.div_eq_of_lt_le h1 ?_
  rw [e]; exact h2

/-- One merge of two neighbouring stretches. -/
theorem merge_chunk (w q : Nat) (hw : 0 < w) (S D' P : List Nat) (mid hi n : Nat) (hS : S.length = n) (hD : D'.length = n) (hcs : CS w S)
    (hlo : q * (2 * w) < n) (hmid : mid = min (q * (2 * w) + w) n) (hhi : hi = min (q * (2 * w) + 2 * w) n)
    (hPl : P.length = q * (2 * w)) (hPp : P.Perm (S.take (q * (2 * w)))) (hPc : CS (2 * w) P)
    (hM : D'.take hi = P ++ mg (seg S (q * (2 * w)) mid) (seg S mid hi)) :
    (D'.take (q * (2 * w) + 2 * w)).Perm (S.take (q * (2 * w) + 2 * w)) ∧ CS (2 * w) (D'.take (q * (2 * w) + 2 * w)) := by
  have eD : D'.take (q * (2 * w) + 2 * w) = D'.take hi := by
    rcases Nat.le_total (q * (2 * w) + 2 * w) n with h | h
    · rw [hhi, Nat.min_eq_left h]
    · rw [hhi, Nat.min_eq_right h, List.take_of_length_le (by omega), List.take_of_length_le (by omega)]
  have eS : S.take (q * (2 * w) + 2 * w) = S.take hi := by
    rcases Nat.le_total (q * (2 * w) + 2 * w) n with h | h
    · rw [hhi, Nat.min_eq_left h]
    · rw [hhi, Nat.min_eq_right h, List.take_of_length_le (by omega), List.take_of_length_le (by omega)]
  have hm1 : q * (2 * w) ≤ mid := by omega
  have hm2 : mid ≤ hi := by omega
  have hm3 : hi ≤ n := by omega
  have e2 : q * (2 * w) = (2 * q) * w := by rw [← Nat.mul_assoc, Nat.mul_comm q 2]
  rw [eD, eS, hM]
  constructor
  · have h1 := (mg_perm (seg S (q * (2 * w)) mid) (seg S mid hi)).append_left P
    refine h1.trans ?_
    rw [← List.append_assoc]
    have h2 : (P ++ seg S (q * (2 * w)) mid).Perm (S.take mid) := by
      rw [← take_seg S (q * (2 * w)) mid hm1]
      exact hPp.append_right _
    rw [← take_seg S mid hi hm2]
    exact h2.append_right _
  · have s1 : (seg S (q * (2 * w)) mid).Pairwise (fun a b => a ≤ b) := by
      refine seg_sorted w S hcs _ _ (by omega) ?_
      intro a h1 h2
      rw [div_block w a (2 * q) hw (by omega) (by omega), div_block w (q * (2 * w)) (2 * q) hw (by omega) (by omega)]
    have s2 : (seg S mid hi).Pairwise (fun a b => a ≤ b) := by
      by_cases hmn : mid = n
      · rw [seg_nil S mid hi (by omega)]; exact List.Pairwise.nil
      · refine seg_sorted w S hcs _ _ (by omega) ?_
        intro a h1 h2
        have e3 : (2 * q + 1) * w = q * (2 * w) + w := by rw [Nat.add_mul, Nat.one_mul, e2]
        rw [div_block w a (2 * q + 1) hw (by omega) (by omega), div_block w mid (2 * q + 1) hw (by omega) (by omega)]
    have sM := mg_sorted _ _ s1 s2
    rw [List.pairwise_iff_getElem] at sM
    have hlM : (mg (seg S (q * (2 * w)) mid) (seg S mid hi)).length = hi - q * (2 * w) := by
      rw [mg_length, seg_length S _ _ (by omega), seg_length S _ _ (by omega)]; omega
    generalize mg (seg S (q * (2 * w)) mid) (seg S mid hi) = M at *
    intro i j hi' hj' hij hd
    rw [List.length_append] at hi' hj'
    by_cases h1 : j < P.length
    · rw [List.getElem_append_left (by omega), List.getElem_append_left h1]
      exact hPc i j (by omega) h1 hij hd
    · by_cases h2 : i < P.length
      · have h3 : i / (2 * w) < q := by rw [Nat.div_lt_iff_lt_mul (by omega)]; omega
        have h4 : q ≤ j / (2 * w) := by rw [Nat.le_div_iff_mul_le (by omega)]; omega
        omega
      · rw [List.getElem_append_right (by omega), List.getElem_append_right (by omega)]
        exact sM _ _ _ _ (by omega)

end Go.Proofs.Qxb6619403a
