/-
  THE PLAIN LAWS OF A SPLIT AT EVERY SLASH: no Go in sight.
-/
namespace Go.Proofs.Qxb6619418a

/-- The parts of l between its slashes; 'cur': what the first part has so far. -/
def spl : List UInt8 → List UInt8 → List (List UInt8)
  | [], cur => [cur]
  | c :: l, cur => if c = 47 then cur :: spl l [] else spl l (cur ++ [c])

theorem spl_cons (c : UInt8) (l cur : List UInt8) : spl (c :: l) cur = if c = 47 then cur :: spl l [] else spl l (cur ++ [c]) := rfl

theorem spl_length (l cur : List UInt8) : (spl l cur).length = l.count 47 + 1 := by
  induction l generalizing cur with
  | nil => simp [spl]
  | cons c l ih =>
    unfold spl
    by_cases h : c = 47
    · rw [if_pos h, List.length_cons, ih, h]; simp
    · rw [if_neg h, ih, List.count_cons_of_ne h]

theorem spl_none (l cur : List UInt8) (h : l.count 47 = 0) : spl l cur = [cur ++ l] := by
  induction l generalizing cur with
  | nil => simp [spl]
  | cons c l ih =>
    have hc : c ≠ 47 := by
      intro e
      rw [e] at h
      simp at h
    rw [List.count_cons_of_ne hc] at h
    unfold spl
    rw [if_neg hc, ih _ h]
    simp

theorem spl_cut (l r cur : List UInt8) (h : l.count 47 = 0) : spl (l ++ 47 :: r) cur = (cur ++ l) :: spl r [] := by
  induction l generalizing cur with
  | nil => simp [spl]
  | cons c l ih =>
    have hc : c ≠ 47 := by
      intro e
      rw [e] at h
      simp at h
    rw [List.count_cons_of_ne hc] at h
    rw [List.cons_append, spl_cons, if_neg hc, ih _ h]
    simp

/-- The bytes of a string. -/
def bs (s : ByteArray) : List UInt8 := s.data.toList
theorem bs_length (s : ByteArray) : (bs s).length = s.size := by simp [bs]
theorem bs_inj {s t : ByteArray} (h : bs s = bs t) : s = t := by
  cases s; cases t
  simp [bs] at h
  rw [h]
theorem bs_append (s t : ByteArray) : bs (s ++ t) = bs s ++ bs t := by simp [bs]
theorem bs_get (s : ByteArray) (i : Nat) (h : i < s.size) : (bs s)[i]'(by rw [bs_length]; exact h) = s[i] := by
  simp only [bs, Array.getElem_toList]; rfl

theorem slash_num (c : UInt8) : ((c.toNat : Int) == 47) = decide (c = 47) := by
  rw [Bool.eq_iff_iff]
  simp only [beq_iff_eq, decide_eq_true_eq]
  constructor
  · intro h
    apply UInt8.toNat.inj
    simp; omega
  · intro h; subst h; rfl

/-- A round at a slash: one part more. -/
theorem step_slash (l : List UInt8) (ps : List (List UInt8)) (i start : Nat) (hi : i < l.length) (hc : l[i] = 47)
    (h : ps ++ spl (l.drop i) ((l.take i).drop start) = spl l []) : (ps ++ [(l.take i).drop start]) ++ spl (l.drop (i + 1)) ((l.take (i + 1)).drop (i + 1)) = spl l [] := by
  rw [← h, List.drop_eq_getElem_cons hi, spl_cons, if_pos hc, List.drop_eq_nil_of_le (Nat.le_trans (List.length_take_le _ _) (Nat.le_refl _))]
  simp

/-- A round at another byte. -/
theorem step_other (l : List UInt8) (ps : List (List UInt8)) (i start : Nat) (hi : i < l.length) (hs : start ≤ i) (hc : ¬ l[i] = 47)
    (h : ps ++ spl (l.drop i) ((l.take i).drop start) = spl l []) : ps ++ spl (l.drop (i + 1)) ((l.take (i + 1)).drop start) = spl l [] := by
  rw [← h, List.drop_eq_getElem_cons hi, spl_cons, if_neg hc, List.take_succ_eq_append_getElem hi, List.drop_append_of_le_length (by rw [List.length_take]; omega)]

theorem step_end (l : List UInt8) (ps : List (List UInt8)) (k start : Nat) (hk : k = l.length) (h : ps ++ spl (l.drop k) ((l.take k).drop start) = spl l []) : ps ++ [(l.take k).drop start] = spl l [] := by
  rw [← h]
  have e : l.drop k = [] := List.drop_eq_nil_of_le (by omega)
  rw [e]
  rfl

theorem extract_bs (s : ByteArray) (a b : Nat) : bs (s.extract a b) = ((bs s).take b).drop a := by
  simp [bs, ByteArray.data_extract, Array.toList_extract, List.extract_eq_drop_take']

end Go.Proofs.Qxb6619418a
