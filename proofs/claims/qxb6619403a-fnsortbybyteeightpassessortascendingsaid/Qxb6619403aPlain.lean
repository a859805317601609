/-
  THE PLAIN LAWS OF A STABLE BUCKET SORT: no Go in sight. 'k': the key of a word.
-/
namespace Go.Proofs.Qxb6619403a

/-- The words of xs with key d, in their order. -/
def F (k : Nat → Nat) (d : Nat) (xs : List Nat) : List Nat := xs.filter (fun v => k v == d)
/-- How many words of xs have a key below d. -/
def C (k : Nat → Nat) (d : Nat) (xs : List Nat) : Nat := xs.countP (fun v => k v < d)
/-- The words of xs with key 0, then those with key 1, .. up to D - 1. -/
def buckN (k : Nat → Nat) (D : Nat) (xs : List Nat) : List Nat := (List.range D).flatMap (fun d => F k d xs)
def buck (k : Nat → Nat) (xs : List Nat) : List Nat := buckN k 256 xs

section
variable (k : Nat → Nat) (xs : List Nat)

theorem C_zero : C k 0 xs = 0 := by simp [C]
theorem C_succ (d : Nat) : C k (d + 1) xs = C k d xs + (F k d xs).length := by
  unfold C F
  induction xs with
  | nil => rfl
  | cons x xs ih =>
    simp only [List.countP_cons, List.filter_cons]
    rw [ih]
    by_cases h1 : k x = d
    · simp [h1]; omega
    · by_cases h2 : k x < d
      · have h3 : k x < d + 1 := by omega
        simp [h1, h2, h3]; omega
      · have h3 : ¬ k x < d + 1 := by omega
        simp [h1, h2, h3]
theorem C_mono {d e : Nat} (h : d ≤ e) : C k d xs ≤ C k e xs := by
  induction e with
  | zero => have : d = 0 := by omega
            subst this; exact Nat.le_refl _
  | succ e ih =>
    by_cases he : d = e + 1
    · subst he; exact Nat.le_refl _
    · have := ih (by omega)
      rw [C_succ]; omega
theorem C_all (D : Nat) (h : ∀ v, k v < D) : C k D xs = xs.length := by
  unfold C
  rw [List.countP_eq_length]
  intro a _
  simpa using h a
theorem C_le (D : Nat) : C k D xs ≤ xs.length := List.countP_le_length
theorem buckN_succ (D : Nat) : buckN k (D + 1) xs = buckN k D xs ++ F k D xs := by
  unfold buckN
  rw [List.range_succ, List.flatMap_append]
  simp
theorem buckN_length (D : Nat) : (buckN k D xs).length = C k D xs := by
  induction D with
  | zero => simp [buckN, C_zero]
  | succ D ih => rw [buckN_succ, List.length_append, ih, C_succ]
theorem buck_length (h : ∀ v, k v < 256) : (buck k xs).length = xs.length := by
  unfold buck; rw [buckN_length, C_all k xs 256 h]

theorem buckN_get (D d m : Nat) (hd : d < D) (hm : m < (F k d xs).length) : (buckN k D xs)[C k d xs + m]? = (F k d xs)[m]? := by
  induction D with
  | zero => omega
  | succ D ih =>
    rw [buckN_succ]
    have hl := buckN_length k xs D
    by_cases e : d = D
    · subst e
      rw [List.getElem?_append_right (by omega)]
      congr 1; omega
    · have h1 := C_succ k xs d
      have h2 := C_mono k xs (d := d + 1) (e := D) (by omega)
      rw [List.getElem?_append_left (by omega)]
      exact ih (by omega)

theorem find_key (D i : Nat) (h : i < C k D xs) : ∃ d m, d < D ∧ m < (F k d xs).length ∧ i = C k d xs + m := by
  induction D with
  | zero => rw [C_zero] at h; omega
  | succ D ih =>
    by_cases hi : i < C k D xs
    · obtain ⟨d, m, h1, h2, h3⟩ := ih hi
      exact ⟨d, m, by omega, h2, h3⟩
    · rw [C_succ] at h
      exact ⟨D, i - C k D xs, by omega, by omega, by omega⟩

theorem F_take_succ (d i : Nat) (h : i < xs.length) : F k d (xs.take (i + 1)) = F k d (xs.take i) ++ (if k xs[i] = d then [xs[i]] else []) := by
  unfold F
  rw [List.take_succ_eq_append_getElem h, List.filter_append]
  by_cases e : k xs[i] = d <;> simp [e]

theorem F_take_le (d i : Nat) : (F k d (xs.take i)).length ≤ (F k d xs).length := by
  unfold F
  exact ((List.take_sublist i xs).filter _).length_le

theorem F_take_lt (i : Nat) (h : i < xs.length) : (F k (k xs[i]) (xs.take i)).length < (F k (k xs[i]) xs).length := by
  have h1 := F_take_succ k xs (k xs[i]) i h
  rw [if_pos rfl] at h1
  have h2 := F_take_le k xs (k xs[i]) (i + 1)
  rw [h1, List.length_append] at h2
  simp at h2
  omega

/-- The place of word i. -/
theorem pos_lt (i : Nat) (h : i < xs.length) : C k (k xs[i]) xs + (F k (k xs[i]) (xs.take i)).length < xs.length := by
  have h1 := F_take_lt k xs i h
  have h2 := C_succ k xs (k xs[i])
  have h3 := C_le k xs (k xs[i] + 1)
  omega

/-- After i words have been laid: each key's words so far stand from its start on. -/
def Bp (i : Nat) (ys : List Nat) : Prop := ∀ d m, m < (F k d (xs.take i)).length → ys[C k d xs + m]? = (F k d (xs.take i))[m]?

theorem Bp_zero (ys : List Nat) : Bp k xs 0 ys := by
  intro d m h
  simp [F] at h

theorem Bp_step (ys : List Nat) (i : Nat) (h : i < xs.length) (hl : xs.length ≤ ys.length) (hb : Bp k xs i ys) :
    Bp k xs (i + 1) (ys.set (C k (k xs[i]) xs + (F k (k xs[i]) (xs.take i)).length) xs[i]) := by
  have hp := pos_lt k xs i h
  intro d m hm
  rw [F_take_succ k xs d i h] at hm ⊢
  by_cases e : k xs[i] = d
  · rw [if_pos e] at hm ⊢
    rw [e] at hp ⊢
    simp at hm
    by_cases e2 : m = (F k d (xs.take i)).length
    · subst e2
      rw [List.getElem?_set_self (by omega)]
      simp
    · rw [List.getElem?_set_ne (by omega), List.getElem?_append_left (by omega)]
      exact hb d m (by omega)
  · rw [if_neg e] at hm ⊢
    rw [List.append_nil] at hm ⊢
    have h1 := F_take_lt k xs i h
    have h2 := C_succ k xs (k xs[i])
    have h3 := C_succ k xs d
    have h4 := F_take_le k xs d i
    have hne : C k (k xs[i]) xs + (F k (k xs[i]) (xs.take i)).length ≠ C k d xs + m := by
      rcases Nat.lt_or_gt_of_ne e with h5 | h5
      · have := C_mono k xs (d := k xs[i] + 1) (e := d) h5
        omega
      · have := C_mono k xs (d := d + 1) (e := k xs[i]) h5
        omega
    rw [List.getElem?_set_ne hne]
    exact hb d m hm

/-- All words laid: the whole is the bucket sort. -/
theorem Bp_done (hk : ∀ v, k v < 256) (ys : List Nat) (hl : xs.length ≤ ys.length) (hb : Bp k xs xs.length ys) : ys.take xs.length = buck k xs := by
  apply List.ext_getElem?
  intro i
  by_cases hi : i < xs.length
  · rw [List.getElem?_take_of_lt hi]
    obtain ⟨d, m, h1, h2, h3⟩ := find_key k xs 256 i (by rw [C_all k xs 256 hk]; exact hi)
    have h4 := hb d m (by rw [List.take_length]; exact h2)
    rw [List.take_length] at h4
    subst h3
    rw [h4]
    exact (buckN_get k xs 256 d m h1 h2).symm
  · have e1 : (ys.take xs.length)[i]? = none := by
      rw [List.getElem?_eq_none_iff]
      simp; omega
    have e2 : (buck k xs)[i]? = none := by
      rw [List.getElem?_eq_none_iff, buck_length k xs hk]
      omega
    rw [e1, e2]

end
end Go.Proofs.Qxb6619403a
