/-
  THE PLAIN LAWS: no Go in sight. 'Least s off o': o is the least index at or after off whose byte is no white space (s.size where there is none).
-/
namespace Go.Proofs.Qxb6618156a

def isSp (c : UInt8) : Bool := c == 32 || c == 9 || c == 10 || c == 13

theorem isSp_num (c : UInt8) : isSp c = (((c.toNat : Int) == 32) || ((c.toNat : Int) == 9) || ((c.toNat : Int) == 10) || ((c.toNat : Int) == 13)) := by
  have e : ∀ n : Nat, n < 256 → (c == UInt8.ofNat n) = ((c.toNat : Int) == (n : Int)) := by
    intro n hn
    rw [Bool.eq_iff_iff]
    simp only [beq_iff_eq]
    constructor
    · intro h; subst h; simp; omega
    · intro h
      apply UInt8.toNat.inj
      simp; omega
  have e1 := e 32 (by decide); have e2 := e 9 (by decide); have e3 := e 10 (by decide); have e4 := e 13 (by decide)
  unfold isSp
  simp at e1 e2 e3 e4 ⊢
  rw [e1, e2, e3, e4]

structure Least (s : ByteArray) (off o : Nat) : Prop where
  lo : off ≤ o
  hi : o ≤ s.size
  sp : ∀ i (h : i < s.size), off ≤ i → i < o → isSp s[i] = true
  stop : ∀ h : o < s.size, isSp s[o] = false

theorem Least.unique {s : ByteArray} {off a b : Nat} (ha : Least s off a) (hb : Least s off b) : a = b := by
  rcases Nat.lt_trichotomy a b with h | h | h
  · have hlt : a < s.size := Nat.lt_of_lt_of_le h hb.hi
    have h1 := hb.sp a hlt ha.lo h
    have h2 := ha.stop hlt
    rw [h1] at h2; exact absurd h2 (by decide)
  · exact h
  · have hlt : b < s.size := Nat.lt_of_lt_of_le h ha.hi
    have h1 := ha.sp b hlt hb.lo h
    have h2 := hb.stop hlt
    rw [h1] at h2; exact absurd h2 (by decide)

theorem Least.again {s : ByteArray} {off a b : Nat} (ha : Least s off a) (hb : Least s a b) : b = a := by
  rcases Nat.lt_or_ge a b with h | h
  · have hlt : a < s.size := Nat.lt_of_lt_of_le h hb.hi
    have h1 := hb.sp a hlt (Nat.le_refl _) h
    have h2 := ha.stop hlt
    rw [h1] at h2; exact absurd h2 (by decide)
  · exact Nat.le_antisymm h hb.lo

theorem app_size (p q : ByteArray) : (p ++ q).size = p.size + q.size := ByteArray.size_append

theorem app_left (p q : ByteArray) (i : Nat) (h : i < p.size) (h' : i < (p ++ q).size) : (p ++ q)[i] = p[i] := ByteArray.getElem_append_left h

/-- Where the first part alone stops inside itself, the joined text stops there too. -/
theorem Least.cut_in {p q : ByteArray} {off op oj : Nat} (hp : Least p off op) (hin : op < p.size) (hj : Least (p ++ q) off oj) : oj = op := by
  refine hj.unique ⟨hp.lo, by rw [app_size]; omega, ?_, ?_⟩
  · intro i h h1 h2
    rw [app_left p q i (by omega) h]
    exact hp.sp i (by omega) h1 h2
  · intro h
    rw [app_left p q op hin h]
    exact hp.stop hin

/-- Where the first part is all white space from off on, the joined text stops where it stops from the joint on. -/
theorem Least.cut_out {p q : ByteArray} {off oj oq : Nat} (hp : Least p off p.size) (hj : Least (p ++ q) off oj) (hq : Least (p ++ q) p.size oq) : oj = oq := by
  refine hj.unique ⟨Nat.le_trans hp.lo hq.lo, hq.hi, ?_, hq.stop⟩
  intro i h h1 h2
  by_cases hi : i < p.size
  · rw [app_left p q i hi h]
    exact hp.sp i hi h1 hi
  · exact hq.sp i h (by omega) h2

end Go.Proofs.Qxb6618156a
