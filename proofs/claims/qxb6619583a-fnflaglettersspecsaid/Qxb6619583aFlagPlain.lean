/-
  THE PLAIN LAWS OF THE FLAG LETTERS: no Go in sight.
-/
import Derived.WalkKit
namespace Go.Proofs.Qxb6619583a

def bitv (k : Nat) : Int := [128, 64, 32, 16].getD k 0
def letv (k : Nat) : UInt8 := [82, 80, 69, 84].getD k 0

/-- Is flag k set? -/
def sel (a k : Nat) : Bool := bits .and .u8 (a : Int) (bitv k) != 0

/-- The letters of the flags below k that are set. -/
def ls (a : Nat) : Nat → List UInt8
  | 0 => []
  | k + 1 => if sel a k then ls a k ++ [letv k] else ls a k

/-- The place of a letter in R, P, E, T; -1 for another byte. -/
def rank (c : UInt8) : Int := if c = 82 then 0 else if c = 80 then 1 else if c = 69 then 2 else if c = 84 then 3 else -1

/-- What the law asks of the letters. -/
def okL (l : List UInt8) (r p e t : Bool) : Bool :=
  (l.length ≤ 4) && (l.length != 0) && (List.range l.length).all (fun i => decide ((if i = 0 then -1 else rank (l.getD (i - 1) 0)) < rank (l.getD i 0))) &&
  (l.contains 82 == r) && (l.contains 80 == p) && (l.contains 69 == e) && (l.contains 84 == t)

def ls4 (r p e t : Bool) : List UInt8 := (if r then [82] else []) ++ (if p then [80] else []) ++ (if e then [69] else []) ++ (if t then [84] else [])

theorem ls_four (a : Nat) : ls a 4 = ls4 (sel a 0) (sel a 1) (sel a 2) (sel a 3) := by
  simp only [ls, ls4]
  cases sel a 0 <;> cases sel a 1 <;> cases sel a 2 <;> cases sel a 3 <;> decide

theorem ok_all (r p e t : Bool) (h : (r || p || e || t) = true) : okL (ls4 r p e t) r p e t = true := by
  revert h
  cases r <;> cases p <;> cases e <;> cases t <;> decide

theorem ls_none (a : Nat) (h : (sel a 0 || sel a 1 || sel a 2 || sel a 3) = false) : ls a 4 = [] := by
  rw [ls_four]
  revert h
  cases sel a 0 <;> cases sel a 1 <;> cases sel a 2 <;> cases sel a 3 <;> decide

theorem bit_sel (a k : Nat) (ha : a < 256) (hk : k < 4) : sel a k = (a &&& (2 ^ (7 - k)) != 0) := by
  unfold sel
  have e : bitv k = ((2 ^ (7 - k) : Nat) : Int) := by
    have : k = 0 ∨ k = 1 ∨ k = 2 ∨ k = 3 := by omega
    rcases this with rfl | rfl | rfl | rfl <;> rfl
  have h2 : 2 ^ (7 - k) ≤ 2 ^ 7 := Nat.pow_le_pow_right (by decide) (by omega)
  rw [e, u8_and_nat a _ ha (by omega), Bool.eq_iff_iff]
  simp only [bne_iff_ne]
  omega

theorem mask_fin : ∀ a : Fin 256, ((a.val &&& 240) == 0) = !((a.val &&& 2 ^ 7 != 0) || (a.val &&& 2 ^ 6 != 0) || (a.val &&& 2 ^ 5 != 0) || (a.val &&& 2 ^ 4 != 0)) := by decide +kernel

theorem mask_all (a : Nat) (ha : a < 256) : (bits .and .u8 (a : Int) 240 == 0) = !(sel a 0 || sel a 1 || sel a 2 || sel a 3) := by
  have h := mask_fin ⟨a, ha⟩
  rw [bit_sel a 0 ha (by omega), bit_sel a 1 ha (by omega), bit_sel a 2 ha (by omega), bit_sel a 3 ha (by omega), ← h]
  have e : (240 : Int) = ((240 : Nat) : Int) := rfl
  rw [e, u8_and_nat a 240 ha (by omega), Bool.eq_iff_iff]
  simp only [beq_iff_eq]
  omega

theorem ls_le (a k : Nat) : (ls a k).length ≤ k := by
  induction k with
  | zero => exact Nat.le_refl _
  | succ k ih =>
    unfold ls
    split
    · rw [List.length_append]; simp; exact ih
    · omega


/-- The rank of the letter before place i. -/
def pv (l : List UInt8) (i : Nat) : Int := if i = 0 then -1 else rank (l.getD (i - 1) 0)
theorem pv_zero (l : List UInt8) : pv l 0 = -1 := rfl
theorem pv_succ (l : List UInt8) (i : Nat) : pv l (i + 1) = rank (l.getD i 0) := by unfold pv; rw [if_neg (by omega)]; rfl
theorem rank_bounds (c : UInt8) : -1 ≤ rank c ∧ rank c ≤ 3 := by unfold rank; split <;> (try split) <;> (try split) <;> (try split) <;> omega
theorem pv_bounds (l : List UInt8) (i : Nat) : -1 ≤ pv l i ∧ pv l i ≤ 3 := by
  unfold pv
  split
  · omega
  · exact rank_bounds _

theorem ok_parts (l : List UInt8) (r p e t : Bool) (h : okL l r p e t = true) :
    l.length ≤ 4 ∧ l.length ≠ 0 ∧ (∀ i, i < l.length → pv l i < rank (l.getD i 0)) ∧ l.contains 82 = r ∧ l.contains 80 = p ∧ l.contains 69 = e ∧ l.contains 84 = t := by
  unfold okL at h
  simp only [Bool.and_eq_true, decide_eq_true_eq, bne_iff_ne, beq_iff_eq, List.all_eq_true, List.mem_range] at h
  obtain ⟨⟨⟨⟨⟨⟨h1, h2⟩, h3⟩, h4⟩, h5⟩, h6⟩, h7⟩ := h
  exact ⟨h1, h2, h3, h4, h5, h6, h7⟩

end Go.Proofs.Qxb6619583a
