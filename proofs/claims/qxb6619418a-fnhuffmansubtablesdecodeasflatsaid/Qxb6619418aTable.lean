/-
  THE PLAIN LAWS OF A TABLE WITH SUB-TABLES: what lookup answers over it.
-/
import Derived.Test.Qxb6619418aLook
namespace Go.Proofs.Qxb6619418a.Huff

/-- A link to the sub-table that begins at s. -/
def linkE (s x y : Nat) : Nat := s * 65536 + 1024 + x * 16 + y

/-- The root's entry i stands for the R-th words of fl from i on. -/
def Good (fl : List Nat) (R X x y : Nat) (E : List Nat) (i : Nat) : Prop :=
  (∃ v, (∀ k, k < X → fl[i + k * R]? = some v) ∧ E[i]? = some v) ∨
  (∃ s, R ≤ s ∧ s ≤ 65535 ∧ E[i]? = some (linkE s x y) ∧ ∀ k, k < X → ∃ v, fl[i + k * R]? = some v ∧ E[s + k]? = some v)

theorem get_append {E ys : List Nat} {i v : Nat} (h : E[i]? = some v) : (E ++ ys)[i]? = some v := by
  obtain ⟨hi, _⟩ := List.getElem?_eq_some_iff.1 h
  rw [List.getElem?_append_left hi]; exact h
theorem get_set {E : List Nat} {i j v u : Nat} (h : E[i]? = some v) (hne : j ≠ i) : (E.set j u)[i]? = some v := by
  rw [List.getElem?_set_ne hne]; exact h

section
variable {fl : List Nat} {R X x y : Nat} {E : List Nat} {i : Nat}

theorem Good.append (h : Good fl R X x y E i) (ys : List Nat) : Good fl R X x y (E ++ ys) i := by
  rcases h with ⟨v, h1, h2⟩ | ⟨s, h1, h2, h3, h4⟩
  · exact .inl ⟨v, h1, get_append h2⟩
  · refine .inr ⟨s, h1, h2, get_append h3, fun k hk => ?_⟩
    obtain ⟨v, h5, h6⟩ := h4 k hk
    exact ⟨v, h5, get_append h6⟩

theorem Good.set (h : Good fl R X x y E i) {j : Nat} (hj : j < R) (hne : j ≠ i) (u : Nat) : Good fl R X x y (E.set j u) i := by
  rcases h with ⟨v, h1, h2⟩ | ⟨s, h1, h2, h3, h4⟩
  · exact .inl ⟨v, h1, get_set h2 hne⟩
  · refine .inr ⟨s, h1, h2, get_set h3 hne, fun k hk => ?_⟩
    obtain ⟨v, h5, h6⟩ := h4 k hk
    exact ⟨v, h5, get_set h6 (by omega)⟩

theorem Good.same (v : Nat) (h : ∀ k, k < X → fl[i + k * R]? = some v) (hi : i < E.length) : Good fl R X x y (E.set i v) i :=
  .inl ⟨v, h, by rw [List.getElem?_set_self hi]⟩

theorem Good.link (hR : R ≤ E.length) (hL : E.length ≤ 65535) (hi : i < R) (hf : ∀ k, k < X → i + k * R < fl.length) :
    Good fl R X x y (E.set i (linkE E.length x y) ++ (List.range X).map (fun k => fl.getD (i + k * R) 0)) i := by
  refine .inr ⟨E.length, hR, hL, get_append (by rw [List.getElem?_set_self (by omega)]), fun k hk => ?_⟩
  have h1 := hf k hk
  refine ⟨fl[i + k * R], List.getElem?_eq_getElem h1, ?_⟩
  rw [List.getElem?_append_right (by rw [List.length_set]; omega), List.length_set]
  simp [hk, List.getD_eq_getElem?_getD, h1]
end

theorem split_mod (b R X : Nat) : b % (R * X) = b % R + (b / R % X) * R := by
  rw [Nat.mod_mul, Nat.mul_comm R]

theorem look_two (fl E : List Nat) (r x b f : Nat) (hrx : r + x ≤ 15) (hb : b < 18446744073709551616)
    (hk : ∀ v ∈ fl, v < 4294967296 ∧ v / 256 % 8 ≠ 4) (hG : ∀ i, i < 2 ^ r → Good fl (2 ^ r) (2 ^ x) x (r + x) E i) (hf : fl[b % 2 ^ (r + x)]? = some f) : LookIs E r (2 ^ r - 1) b f := by
  have hR : 0 < 2 ^ r := Nat.two_pow_pos r
  have hX : 0 < 2 ^ x := Nat.two_pow_pos x
  have e1 : b % 2 ^ (r + x) = b % 2 ^ r + (b / 2 ^ r % 2 ^ x) * 2 ^ r := by rw [Nat.pow_add, split_mod]
  have hj : b / 2 ^ r % 2 ^ x < 2 ^ x := Nat.mod_lt _ hX
  have hi : b % 2 ^ r < 2 ^ r := Nat.mod_lt _ hR
  have ha := and_low b r hb (by omega)
  rw [e1] at hf
  rcases hG (b % 2 ^ r) hi with ⟨v, h1, h2⟩ | ⟨s, h1, h2, h3, h4⟩
  · obtain ⟨hlt, h5⟩ := List.getElem?_eq_some_iff.1 h2
    have h6 := h1 _ hj
    rw [h6] at hf
    obtain rfl := Option.some.inj hf
    have h7 := hk v (List.mem_of_getElem? h6)
    refine ⟨b % 2 ^ r, hlt, ha, by rw [h5]; exact h7.1, .inl ⟨by rw [h5]; exact h7.2, h5⟩⟩
  · obtain ⟨hlt, h5⟩ := List.getElem?_eq_some_iff.1 h3
    obtain ⟨v, h6, h7⟩ := h4 _ hj
    rw [h6] at hf
    obtain rfl := Option.some.inj hf
    obtain ⟨hp, h8⟩ := List.getElem?_eq_some_iff.1 h7
    have l1 : linkE s x (r + x) < 4294967296 := by unfold linkE; omega
    have l2 : linkE s x (r + x) / 256 % 8 = 4 := by unfold linkE; omega
    have l3 : linkE s x (r + x) / 65536 = s := by unfold linkE; omega
    have l4 : linkE s x (r + x) / 16 % 16 = x := by unfold linkE; omega
    refine ⟨b % 2 ^ r, hlt, ha, by rw [h5]; exact l1, .inr ⟨by rw [h5]; exact l2, by omega, s + b / 2 ^ r % 2 ^ x, hp, ?_, h8⟩⟩
    rw [h5, l3, l4]

theorem look_one (fl : List Nat) (y b f r : Nat) (hy : y ≤ 15) (hb : b < 18446744073709551616)
    (hk : ∀ v ∈ fl, v < 4294967296 ∧ v / 256 % 8 ≠ 4) (hf : fl[b % 2 ^ y]? = some f) : LookIs fl r (2 ^ y - 1) b f := by
  obtain ⟨hlt, h5⟩ := List.getElem?_eq_some_iff.1 hf
  have h7 := hk f (List.mem_of_getElem? hf)
  exact ⟨b % 2 ^ y, hlt, and_low b y hb hy, by rw [h5]; exact h7.1, .inl ⟨by rw [h5]; exact h7.2, h5⟩⟩

end Go.Proofs.Qxb6619418a.Huff
