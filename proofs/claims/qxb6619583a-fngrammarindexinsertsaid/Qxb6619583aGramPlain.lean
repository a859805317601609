/-
  THE PLAIN LAWS OF A FIRST PLACE IN A LIST AND OF AN INSERTION: no Go in sight.
-/
namespace Go.Proofs.Qxb6619583a

/-- r is the first place of c in cs, or -1. -/
def IsIdx (cs : List Int) (c r : Int) : Prop :=
  (r = -1 ∧ ∀ j, j < cs.length → cs[j]? ≠ some c) ∨ (∃ k : Nat, r = (k : Int) ∧ k < cs.length ∧ cs[k]? = some c ∧ ∀ j, j < k → cs[j]? ≠ some c)

theorem IsIdx.unique {cs : List Int} {c r s : Int} (hr : IsIdx cs c r) (hs : IsIdx cs c s) : r = s := by
  rcases hr with ⟨rfl, h1⟩ | ⟨k, rfl, h2, h3, h4⟩
  · rcases hs with ⟨rfl, _⟩ | ⟨k, rfl, h2, h3, h4⟩
    · rfl
    · exact absurd h3 (h1 k h2)
  · rcases hs with ⟨rfl, h1⟩ | ⟨m, rfl, g2, g3, g4⟩
    · exact absurd h3 (h1 k h2)
    · rcases Nat.lt_trichotomy k m with h | h | h
      · exact absurd h3 (g4 k h)
      · rw [h]
      · exact absurd g3 (h4 m h)

/-- The list with o put in at place p. -/
def ins (cs : List Int) (p : Nat) (o : Int) : List Int := cs.take p ++ (o :: cs.drop p)

theorem ins_length (cs : List Int) (p : Nat) (o : Int) (h : p ≤ cs.length) : (ins cs p o).length = cs.length + 1 := by
  unfold ins; simp; omega
theorem ins_lt (cs : List Int) (p : Nat) (o : Int) (h : p ≤ cs.length) {j : Nat} (hj : j < p) : (ins cs p o)[j]? = cs[j]? := by
  unfold ins
  rw [List.getElem?_append_left (by rw [List.length_take]; omega), List.getElem?_take_of_lt hj]
theorem ins_eq (cs : List Int) (p : Nat) (o : Int) (h : p ≤ cs.length) : (ins cs p o)[p]? = some o := by
  unfold ins
  rw [List.getElem?_append_right (by rw [List.length_take]; omega), List.length_take, Nat.min_eq_left h]
  simp
theorem ins_gt (cs : List Int) (p : Nat) (o : Int) (h : p ≤ cs.length) {j : Nat} (hj : p ≤ j) : (ins cs p o)[j + 1]? = cs[j]? := by
  unfold ins
  rw [List.getElem?_append_right (by rw [List.length_take]; omega), List.length_take, Nat.min_eq_left h, show j + 1 - p = (j - p) + 1 from by omega, List.getElem?_cons_succ, List.getElem?_drop]
  congr 1; omega

/-- Where the code is found after the insertion. -/
def want (r : Int) (p : Nat) (same : Bool) : Int := if same then (if r = -1 ∨ (p : Int) ≤ r then (p : Int) else r) else (if (p : Int) ≤ r then r + 1 else r)

theorem idx_insert (cs : List Int) (p : Nat) (o c r r2 : Int) (h : p ≤ cs.length) (hr : IsIdx cs c r) (hr2 : IsIdx (ins cs p o) c r2) : r2 = want r p (decide (o = c)) := by
  apply hr2.unique
  have hl := ins_length cs p o h
  unfold want
  by_cases ho : o = c
  · subst ho
    rw [decide_eq_true rfl, if_pos rfl]
    by_cases hc : r = -1 ∨ (p : Int) ≤ r
    · rw [if_pos hc]
      refine .inr ⟨p, rfl, by omega, ins_eq cs p o h, fun j hj => ?_⟩
      rw [ins_lt cs p o h hj]
      rcases hr with ⟨_, h1⟩ | ⟨k, rfl, h2, h3, h4⟩
      · exact h1 j (by omega)
      · exact h4 j (by omega)
    · rw [if_neg hc]
      rcases hr with ⟨h0, h1⟩ | ⟨k, rfl, h2, h3, h4⟩
      · exact absurd (.inl h0) hc
      · refine .inr ⟨k, rfl, by omega, by rw [ins_lt cs p o h (by omega)]; exact h3, fun j hj => ?_⟩
        rw [ins_lt cs p o h (by omega)]
        exact h4 j hj
  · rw [decide_eq_false ho, if_neg (by decide)]
    by_cases hc : (p : Int) ≤ r
    · rw [if_pos hc]
      rcases hr with ⟨h0, h1⟩ | ⟨k, rfl, h2, h3, h4⟩
      · omega
      · refine .inr ⟨k + 1, by omega, by omega, by rw [ins_gt cs p o h (by omega)]; exact h3, fun j hj => ?_⟩
        by_cases e1 : j < p
        · rw [ins_lt cs p o h e1]; exact h4 j (by omega)
        · by_cases e2 : j = p
          · subst e2; rw [ins_eq cs j o h]; simpa using ho
          · obtain ⟨m, rfl⟩ : ∃ m, j = m + 1 := ⟨j - 1, by omega⟩
            rw [ins_gt cs p o h (by omega)]; exact h4 m (by omega)
    · rw [if_neg hc]
      rcases hr with ⟨rfl, h1⟩ | ⟨k, rfl, h2, h3, h4⟩
      · refine .inl ⟨rfl, fun j hj => ?_⟩
        by_cases e1 : j < p
        · rw [ins_lt cs p o h e1]; exact h1 j (by omega)
        · by_cases e2 : j = p
          · subst e2; rw [ins_eq cs j o h]; simpa using ho
          · obtain ⟨m, rfl⟩ : ∃ m, j = m + 1 := ⟨j - 1, by omega⟩
            rw [ins_gt cs p o h (by omega)]; exact h1 m (by omega)
      · refine .inr ⟨k, rfl, by omega, by rw [ins_lt cs p o h (by omega)]; exact h3, fun j hj => ?_⟩
        rw [ins_lt cs p o h (by omega)]
        exact h4 j hj

end Go.Proofs.Qxb6619583a
