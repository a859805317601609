/-
  WHAT BOTH LAWS' OWN WALKS USE: the arguments as lists of words; clone and sort whatever the slices' make (nil, empty, other).
-/
import Derived.Test.Qxb6619403aModel
namespace Go.Proofs.Qxb6619403a
open Go.ChangeShapes Go.WideShapes Go.ChangeAt Go.RowKit

theorem Rw.below {w w' : World} {b B : Nat} {xs : List Nat} (h : Rw w b xs) (hb : Below B w w') (hB : b < B) : Rw w' b xs := h.of_block (hb.block b hB)
theorem Rw.drewN {w : World} {b : Nat} {xs : List Nat} (h : Rw w b xs) (n : Nat) : Rw (w.drewN n) b xs := h.of_block rfl

theorem cell_spot0 {w : World} {x : Addr} {v : Value} (h : w.cell? (x.add 0) = some v) : x.spot = none := by
  have h0 : (x.add 0).spot = none := World.cell?_spot h
  obtain ⟨b, o, sp⟩ := x
  simpa [Addr.add] using h0
theorem cell_plain {w : World} {b o i : Nat} {v : Value} (h : w.cell? ((⟨b, o, none⟩ : Addr).add i) = some v) : w.cell? ⟨b, o + i, none⟩ = some v := by
  by_cases e : i = 0
  · subst e; simpa [Addr.add] using h
  · simpa [Addr.add, e] using h

/-- An argument as a list of words. -/
theorem view (w : World) (a : Option Addr) (len cap : Nat) (zs : List Int)
    (h : (a = none ∧ len = 0 ∧ cap = 0 ∧ zs = []) ∨ ∃ x, a = some x ∧ len ≤ cap ∧ cap ≤ maxLen ∧ zs.length = cap ∧ (∀ i, i < zs.length → w.cell? (x.add i) = some (.int .u64 (zs.getD i 0))) ∧ ∀ n ∈ zs, (Lit.int .u64 n).wf = true) :
    ∃ xs : List Nat, xs.length = len ∧ (∀ v ∈ xs, v < 18446744073709551616) ∧ (xs ≠ [] → ∃ b off, a = some ⟨b, off, none⟩ ∧ ∀ i (h : i < xs.length), w.cell? ⟨b, off + i, none⟩ = some (.int .u64 ((xs[i] : Nat) : Int))) := by
  rcases h with ⟨rfl, rfl, rfl, rfl⟩ | ⟨x, rfl, hl, _, hz, hc, hw⟩
  · exact ⟨[], rfl, by simp, fun h => absurd rfl h⟩
  · have hb : ∀ n ∈ zs, 0 ≤ n ∧ n ≤ 18446744073709551615 := fun n hn => bounds_u64 (hw n hn)
    refine ⟨(zs.take len).map Int.toNat, by simp; omega, ?_, ?_⟩
    · intro v hv
      obtain ⟨n, hn, rfl⟩ := List.mem_map.1 hv
      have := hb n (List.mem_of_mem_take hn)
      omega
    · intro hne
      have hl0 : 0 < len := by
        rcases Nat.eq_zero_or_pos len with h | h
        · subst h; simp at hne
        · exact h
      have h0 := cell_spot0 (hc 0 (by omega))
      obtain ⟨b, off, sp⟩ := x
      obtain rfl : sp = none := h0
      refine ⟨b, off, rfl, ?_⟩
      intro i hi
      simp at hi
      have hi2 : i < zs.length := by omega
      have h1 := cell_plain (hc i hi2)
      have h2 := hb zs[i] (List.getElem_mem hi2)
      rw [h1]
      simp [List.getD_eq_getElem?_getD, hi2]
      omega

theorem clone_any (a : Option Addr) (c : Nat) (xs : List Nat) (w : World) (hn : xs.length ≤ 1048576)
    (hv : xs ≠ [] → ∃ b off, a = some ⟨b, off, none⟩ ∧ ∀ i (h : i < xs.length), w.cell? ⟨b, off + i, none⟩ = some (.int .u64 ((xs[i] : Nat) : Int))) :
    Calls Try.prog 6 #[.slice a xs.length c] w fun e w' => ∃ a', e = .returned (.slice a' xs.length xs.length) ∧ Below w.heap.size w w' ∧ (xs ≠ [] → a' = some ⟨w.heap.size, 0, none⟩ ∧ Rw w' w.heap.size xs) := by
  by_cases hne : xs = []
  · subst hne
    cases a with
    | none =>
      refine (clone_nil c w).mono ?_
      rintro e w' ⟨rfl, rfl⟩
      exact ⟨none, rfl, Below.refl _ _, fun h => absurd rfl h⟩
    | some x =>
      refine (clone_row x c [] w (by simp) (fun h => absurd rfl h) (fun i h => absurd h (by simp))).mono ?_
      rintro e w' ⟨rfl, h1, h2, h3⟩
      exact ⟨_, rfl, h2, fun h => absurd rfl h⟩
  · obtain ⟨b, off, rfl, hc⟩ := hv hne
    refine (clone_row ⟨b, off, none⟩ c xs w hn (fun _ => rfl) hc).mono ?_
    rintro e w' ⟨rfl, h1, h2, h3⟩
    exact ⟨_, rfl, h2, fun _ => ⟨rfl, h1⟩⟩

/-- A slice that the call made itself, cloned. -/
theorem own_cells {w : World} {a : Option Addr} {b : Nat} {xs : List Nat} (h : xs ≠ [] → a = some ⟨b, 0, none⟩ ∧ Rw w b xs) :
    xs ≠ [] → ∃ b off, a = some ⟨b, off, none⟩ ∧ ∀ i (h : i < xs.length), w.cell? ⟨b, off + i, none⟩ = some (.int .u64 ((xs[i] : Nat) : Int)) :=
  fun hne => ⟨b, 0, (h hne).1, fun i hi => by rw [Nat.zero_add]; exact (h hne).2.cell hi⟩

theorem own_below {w w' : World} {a : Option Addr} {b : Nat} {xs : List Nat} (h : xs ≠ [] → a = some ⟨b, 0, none⟩ ∧ Rw w b xs) (hb : Below w.heap.size w w') :
    xs ≠ [] → a = some ⟨b, 0, none⟩ ∧ Rw w' b xs := fun hne => ⟨(h hne).1, (h hne).2.below hb (h hne).2.lt⟩

theorem zsort_all (a t : Option Addr) (s ca ct bf bt : Nat) (xs ys : List Nat) (w : World) (hn : xs.length ≤ 1048576) (hl : xs.length ≤ ys.length) (hv : ∀ v ∈ xs, v < 18446744073709551616)
    (hx : xs ≠ [] → a = some ⟨bf, 0, none⟩ ∧ Rw w bf xs) (hy : ys ≠ [] → t = some ⟨bt, 0, none⟩ ∧ Rw w bt ys) (hne : xs ≠ [] → bf ≠ bt) :
    Calls Try.prog 8 #[.slice a xs.length ca, .slice t ys.length ct, .int .i64 s] w fun e w' => e = .returned (.tuple #[]) ∧
      Kpt w.heap.size bt w w' ∧ (ys ≠ [] → t = some ⟨bt, 0, none⟩ ∧ Rw w' bt (buck (key s) xs ++ ys.drop xs.length)) := by
  by_cases h : xs = []
  · refine (zsort_any a t s ca ct 0 w.heap.size xs ys w hn hl (fun h' => absurd h h')).mono ?_
    rintro e w' ⟨rfl, h1, h2, h3⟩
    refine ⟨rfl, ⟨h1.os, h1.tape, h1.output, h1.size, fun k hk _ => h1.block k hk (by omega)⟩, fun hy' => ⟨(hy hy').1, ?_⟩⟩
    subst h
    have hr := (hy hy').2
    have e1 : buck (key s) [] ++ ys.drop ([] : List Nat).length = ys := by simp [buck, buckN, F]
    rw [e1]
    exact hr.of_block (h1.block bt hr.lt (Nat.ne_of_lt hr.lt))
  · have hy' : ys ≠ [] := by intro e; rw [e] at hl; simp at hl; exact h hl
    refine (zsort_any a t s ca ct bf bt xs ys w hn hl (fun _ => ⟨(hx h).1, (hy hy').1, hne h, (hx h).2, (hy hy').2, hv⟩)).mono ?_
    rintro e w' ⟨rfl, h1, h2, h3⟩
    exact ⟨rfl, h1, fun _ => ⟨(hy hy').1, h3 h⟩⟩
end Go.Proofs.Qxb6619403a
