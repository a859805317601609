/-
  THE WALK OF sortByByte: it lays in 'to' the bucket sort of 'from'.
-/
import Derived.Test.Qxb6619403aBase
import Derived.Test.Qxb6619403aPlain
namespace Go.Proofs.Qxb6619403a
open Go.ChangeShapes Go.WideShapes Go.ChangeAt Go.RowKit

/-- Below S, no block but bt has turned. -/
structure Kpt (S bt : Nat) (w w' : World) : Prop where
  os : w'.os = w.os
  tape : w'.tape = w.tape
  output : w'.output = w.output
  size : w.heap.size ≤ w'.heap.size
  block : ∀ k, k < S → k ≠ bt → w'.heap[k]? = w.heap[k]?
theorem Kpt.refl (S bt : Nat) (w : World) : Kpt S bt w w := ⟨rfl, rfl, rfl, Nat.le_refl _, fun _ _ _ => rfl⟩
theorem Kpt.trans {S bt : Nat} {a b c : World} (h : Kpt S bt a b) (k : Kpt S bt b c) : Kpt S bt a c :=
  ⟨k.os.trans h.os, k.tape.trans h.tape, k.output.trans h.output, Nat.le_trans h.size k.size, fun i hi hn => (k.block i hi hn).trans (h.block i hi hn)⟩
theorem Kpt.alloc {S bt : Nat} {a w : World} (h : Kpt S bt a w) (hS : S ≤ w.heap.size) (o : Obj) : Kpt S bt a (w.alloc o) :=
  h.trans ⟨rfl, rfl, rfl, by simp, fun k hk _ => Below.heap_alloc _ _ _ (by omega)⟩
theorem Kpt.setCell {S bt : Nat} {a w : World} (h : Kpt S bt a w) {p : Addr} (hp : S ≤ p.block ∨ p.block = bt) (u : Value) : Kpt S bt a (w.setCell p u) :=
  h.trans ⟨rfl, rfl, rfl, by simp [World.setCell], fun k hk hn => Below.heap_setCell _ _ _ _ (by omega)⟩
theorem Kpt.below {S bt B : Nat} {w w' : World} (h : Kpt S bt w w') (h1 : B ≤ S) (h2 : B ≤ bt) : Below B w w' :=
  ⟨h.os, h.tape, h.output, h.size, fun k hk => h.block k (by omega) (by omega)⟩

theorem zero32 : ∃ zs : Array Value, (∀ w, (zeroValue 32).run Try.prog w = .ok (.agg zs) w) ∧ zs.size = 256 ∧ ∀ i, i < 256 → zs[i]? = some (.int .i64 0) :=
  ⟨Array.replicate 256 (.int .i64 0), fun _ => by kernel_rfl, by simp, fun i hi => by simp [hi]⟩

/-- Block S is an array of 256 counts. -/
def St (w : World) (S : Nat) (f : Nat → Nat) : Prop := w.rowIs S 32 256 (fun d => .int .i64 ((f d : Nat) : Int))

theorem St.cell {w : World} {S : Nat} {f : Nat → Nat} (h : St w S f) {d : Nat} (hd : d < 256) : w.cell? ⟨S, d, none⟩ = some (.int .i64 ((f d : Nat) : Int)) := World.rowIs.cell h hd
theorem St.free {w : World} {S : Nat} {f : Nat → Nat} (h : St w S f) (d : Nat) : w.frozen? ⟨S, d, none⟩ = false := World.rowIs.frozen h d
theorem St.congr {w : World} {S : Nat} {f g : Nat → Nat} (h : St w S f) (e : ∀ d, d < 256 → f d = g d) : St w S g := World.rowIs.congr h (fun i hi => by rw [e i hi])
theorem St.setOther {w : World} {S : Nat} {f : Nat → Nat} (h : St w S f) {a : Addr} (ha : S ≠ a.block) (v : Value) : St (w.setCell a v) S f := World.rowIs.setOther h ha v
theorem St.set {w : World} {S : Nat} {f g : Nat → Nat} (h : St w S f) (d v : Nat) (he : ∀ e, e < 256 → g e = if e = d then v else f e) : St (w.setCell ⟨S, d, none⟩ (.int .i64 v)) S g := by
  refine (World.rowIs.set h d (.int .i64 v)).congr ?_
  intro i hi
  rw [he i hi]
  by_cases e : i = d <;> simp [e]

theorem key_min (s v : Nat) (hv : v < 18446744073709551616) : ((v : Int) / 2 ^ (min s 64) % 256) = ((key s v : Nat) : Int) := by
  by_cases h : s < 64
  · rw [Nat.min_eq_left (by omega)]; exact key_int s v
  · rw [Nat.min_eq_right (by omega), key_int, key_big s v (by omega) hv, key_big 64 v (by omega) hv]
theorem info32 : (Try.prog.info? 32).map (·.size) = some 256 := by kernel_rfl
theorem index32 (cs : Array Value) (j v : Nat) (hj : j < 256) (h : cs[j]? = some (.int .i64 v)) (w : World) :
    (Instr.index 32 (.agg cs) (.int .i64 j)).run Try.prog w = .ok (.int .i64 v) w := by
  have hi := info3
  obtain ⟨i3, hi3, hs3⟩ := Option.map_eq_some_iff.1 hi
  simp only [Prod.mk.injEq] at hs3
  have hj' : ¬ 256 ≤ j := by omega
  simp [Instr.index, asIntOf, run_underlying Try.underlying32, run_underlying Try.underlying3, part, isAgg, sizeOf, typeInfo, hi3, hs3.2.1, hj', h]
theorem F_len (k : Nat → Nat) (d : Nat) (xs : List Nat) : (F k d xs).length ≤ xs.length := List.length_filter_le _ _

set_option maxRecDepth 100000 in
set_option maxHeartbeats 400000 in
theorem sort_any (a t : Option Addr) (s ca ct bf bt : Nat) (xs ys : List Nat) (w : World) (hn : xs.length ≤ 1048576) (hl : xs.length ≤ ys.length)
    (hx : xs ≠ [] → a = some ⟨bf, 0, none⟩ ∧ t = some ⟨bt, 0, none⟩ ∧ bf ≠ bt ∧ Rw w bf xs ∧ Rw w bt ys ∧ ∀ v ∈ xs, v < 18446744073709551616) :
    Calls Try.prog 12 #[.slice a xs.length ca, .slice t ys.length ct, .int .i64 s] w fun e w' => e = .returned (.tuple #[]) ∧
      Kpt w.heap.size bt w w' ∧ w'.heap.size = w.heap.size + 1 ∧ (xs ≠ [] → Rw w' bt (buck (key s) xs ++ ys.drop xs.length)) := by
  obtain ⟨zs, hz, hzs, hzc⟩ := zero32
  have hzn : ¬ zs = #[] := by intro h; rw [h] at hzs; simp at hzs
  have HX := hide hx
  clear hx
  go_enter Try.func12, Try.ntmps12
  go_wp2
  go_loopw [17] (fun i wr => ∃ j : Nat, j ≤ xs.length ∧ i = .int .i64 j ∧ Kpt w.heap.size bt w wr ∧ wr.heap.size = w.heap.size + 1 ∧ (xs ≠ [] → Rw wr bf xs ∧ Rw wr bt ys) ∧ St wr w.heap.size (fun d => (F (key s) d (xs.take j)).length))
    (fun i _ => xs.length - (intOf i).toNat)
  case atStart =>
    refine ⟨0, Nat.zero_le _, rfl, (Kpt.refl _ _ _).alloc (Nat.le_refl _) _, by simp, fun h => ⟨((HX.out h).2.2.2.1).of_block (Below.heap_alloc _ _ _ (HX.out h).2.2.2.1.lt), ((HX.out h).2.2.2.2.1).of_block (Below.heap_alloc _ _ _ (HX.out h).2.2.2.2.1.lt)⟩, ?_⟩
    unfold St
    have h := World.rowIs_alloc w zs 32 (fun d => .int .i64 (((fun d => (F (key s) d (xs.take 0)).length) d : Nat) : Int)) (by intro i hi; rw [hzs] at hi; rw [hzc i hi]; simp [F])
    rw [hzs] at h
    exact h
  case round =>
    clear hz hzs hzc hzn
    obtain ⟨j, hj, rfl, hkp, hsz, hrw, hst⟩ := hrel
    have HR := hide hrw
    clear hrw
    by_cases hlt : j < xs.length
    · have hne : xs ≠ [] := by intro h; rw [h] at hlt; simp at hlt
      obtain ⟨ha, ht, hft, hr1, hr2, hv⟩ := HX.out hne
      have hbf := hr1.lt
      have hbt := hr2.lt
      clear hr1 hr2
      obtain ⟨hrf, hrt⟩ := HR.out hne
      have c1 := hrf.cell hlt
      have hvj : xs[j] < 18446744073709551616 := hv _ (List.getElem_mem hlt)
      have hky := key_min s xs[j] hvj
      have hkl := key_lt s xs[j]
      have c2 := hst.cell hkl
      have f2 := hst.free (key s xs[j])
      have hcl : (F (key s) (key s xs[j]) (List.take j xs)).length ≤ 1048576 := Nat.le_trans (F_len _ _ _) (by rw [List.length_take]; omega)
      have HT := hide ht; have HV := hide hv
      clear ht hv hne hvj HX HR
      go_wp2
      go_roundw
      case rel =>
        refine ⟨j + 1, by omega, by go_num, hkp.setCell (Or.inl (Nat.le_refl _)) _, by simpa using hsz, fun _ => ⟨hrf.setOther (Nat.ne_of_lt hbf) _, hrt.setOther (Nat.ne_of_lt hbt) _⟩, ?_⟩
        refine hst.set (key s xs[j]) ((F (key s) (key s xs[j]) (List.take j xs)).length + 1) ?_
        intro e he
        rw [F_take_succ (key s) xs e j hlt]
        by_cases h1 : e = key s xs[j]
        · subst h1; simp
        · simp [h1, Ne.symm h1]
      case measure => simp [intOf]; omega
    · have hje : j = xs.length := by omega
      subst hje
      rw [List.take_length] at hst
      obtain ⟨cs, hcs, hcz, hcc⟩ := id hst
      have hcz' : (Try.prog.info? 32).map (·.size) = some cs.size := by rw [hcz]; exact info32
      have HC := hide hcc; have HC1 := hide hcs; have HC2 := hide hcz'
      clear hcc hcs hcz' hcz hlt
      go_wp2_with (refine wpList_load_row rfl 32 _ rfl w.heap.size rfl 32 cs (0, 0) _ HC1.out Try.underlying32 rfl HC2.out ?_)
      obtain ⟨wo, hwo⟩ : ∃ wo : World, wo = wr := ⟨_, rfl⟩
      rw [← hwo] at hkp hsz hst HR ⊢
      clear hwo HC1
      go_loopw [9, 31] (fun at' i wr => ∃ j : Nat, j ≤ 256 ∧ at' = .int .i64 (C (key s) j xs : Nat) ∧ i = .int .i64 j ∧ Kpt w.heap.size bt w wr ∧ wr.heap.size = w.heap.size + 1 ∧ (xs ≠ [] → Rw wr bf xs ∧ Rw wr bt ys) ∧
          St wr w.heap.size (fun d => if d < j then C (key s) d xs else (F (key s) d xs).length))
        (fun _ i _ => 256 - (intOf i).toNat)
      case atStart =>
        refine ⟨0, by omega, by rw [C_zero]; rfl, rfl, hkp, hsz, HR.out, hst.congr ?_⟩
        intro d _
        simp
      case round =>
        clear hkp hsz hst HR
        obtain ⟨j, hj, rfl, rfl, hkp, hsz, hrw, hst⟩ := hrel
        have HR := hide hrw
        clear hrw
        have hC := C_le (key s) xs j
        by_cases hlt : j < 256
        · have hF := F_len (key s) j xs
          have hix := fun wx => index32 cs j (F (key s) j xs).length hlt (HC.out j hlt) wx
          have c2 := hst.cell hlt
          have f2 := hst.free j
          go_wp2
          go_roundw
          case rel =>
            refine ⟨j + 1, by omega, by rw [C_succ]; go_num, by go_num, hkp.setCell (Or.inl (Nat.le_refl _)) _, by simpa using hsz, fun h => ⟨(HR.out h).1.setOther (Nat.ne_of_lt (HX.out h).2.2.2.1.lt) _, (HR.out h).2.setOther (Nat.ne_of_lt (HX.out h).2.2.2.2.1.lt) _⟩, ?_⟩
            refine hst.set j (C (key s) j xs) ?_
            intro e he
            by_cases h1 : e = j
            · subst h1; simp
            · by_cases h2 : e < j
              · have h3 : e < j + 1 := by omega
                simp [h1, h2, h3]
              · have h3 : ¬ e < j + 1 := by omega
                simp [h1, h2, h3]
          case measure => simp [intOf]; omega
        · go_wp2
          have hj' : j = 256 := by omega
          subst hj'
          clear HC HC2 hC hlt hj
          obtain ⟨wp, hwp⟩ : ∃ wp : World, wp = wr := ⟨_, rfl⟩
          rw [← hwp] at hkp hsz hst HR ⊢
          clear hwp
          go_loopw [44] (fun i wr => ∃ j : Nat, j ≤ xs.length ∧ i = .int .i64 j ∧ Kpt w.heap.size bt w wr ∧ wr.heap.size = w.heap.size + 1 ∧
              St wr w.heap.size (fun d => C (key s) d xs + (F (key s) d (xs.take j)).length) ∧ ∃ ts : List Nat, ts.length = ys.length ∧ ts.drop xs.length = ys.drop xs.length ∧ Bp (key s) xs j ts ∧ (xs ≠ [] → Rw wr bf xs ∧ Rw wr bt ts))
            (fun i _ => xs.length - (intOf i).toNat)
          case atStart =>
            refine ⟨0, Nat.zero_le _, rfl, hkp, hsz, hst.congr ?_, ys, rfl, rfl, Bp_zero _ _ _, HR.out⟩
            intro d hd
            simp [hd, F]
          case round =>
            clear hkp hsz hst HR
            obtain ⟨j, hj, rfl, hkp, hsz, hst, ts, htl, htd, hbp, hrw⟩ := hrel
            have HR := hide hrw; have HT1 := hide htl; have HT2 := hide htd; have HB := hide hbp
            clear hrw htd hbp
            by_cases hlt : j < xs.length
            · have hne : xs ≠ [] := by intro h; rw [h] at hlt; simp at hlt
              obtain ⟨ha, ht, hft, hr1, hr2, hv⟩ := HX.out hne
              have hbf := hr1.lt
              have hbt := hr2.lt
              clear hr1 hr2
              obtain ⟨hrf, hrt⟩ := HR.out hne
              have c1 := hrf.cell hlt
              have hvj : xs[j] < 18446744073709551616 := hv _ (List.getElem_mem hlt)
              have hky := key_min s xs[j] hvj
              have hkl := key_lt s xs[j]
              have hpl := pos_lt (key s) xs j hlt
              obtain ⟨p, hp⟩ : ∃ p, p = C (key s) (key s xs[j]) xs + (F (key s) (key s xs[j]) (xs.take j)).length := ⟨_, rfl⟩
              rw [← hp] at hpl
              have c2 : wr.cell? ⟨w.heap.size, key s xs[j], none⟩ = some (.int .i64 (p : Nat)) := by rw [hp]; exact hst.cell hkl
              have f2 := hst.free (key s xs[j])
              obtain ⟨v3, c3⟩ := hrt.any (i := p) (by omega)
              have f3 := hrt.free p
              have hply : p < ys.length := by omega
              have HP := hide hp
              clear htl hv hne hp hvj
              go_wp2
              go_roundw
              case rel =>
                refine ⟨j + 1, by omega, by go_num, (hkp.setCell (Or.inr rfl) _).setCell (Or.inl (Nat.le_refl _)) _, by simpa using hsz, ?_, ts.set p xs[j], by rw [List.length_set]; exact HT1.out, ?_, ?_,
                  fun _ => ⟨(hrf.setOther (by simpa using hft) _).setOther (Nat.ne_of_lt hbf) _, (hrt.set p _).setOther (Nat.ne_of_lt hbt) _⟩⟩
                · refine (hst.setOther (Nat.ne_of_gt hbt) _).set (key s xs[j]) (p + 1) ?_
                  intro e he
                  rw [F_take_succ (key s) xs e j hlt, HP.out]
                  by_cases h1 : e = key s xs[j]
                  · subst h1; simp; omega
                  · simp [h1, Ne.symm h1]
                · rw [List.drop_set_of_lt hpl]; exact HT2.out
                · rw [HP.out]; exact Bp_step (key s) xs ts j hlt (by rw [HT1.out]; exact hl) HB.out
              case measure => simp [intOf]; omega
            · clear htl
              go_wp2
              go_end0
              refine ⟨rfl, hkp, hsz, fun h => ?_⟩
              have hje : j = xs.length := by omega
              subst hje
              have h1 := Bp_done (key s) xs (key_lt s) ts (by rw [HT1.out]; exact hl) HB.out
              rw [← h1, ← HT2.out, List.take_append_drop]
              exact (HR.out h).2

/-- ZZsortByByte hands on. -/
theorem zsort_any (a t : Option Addr) (s ca ct bf bt : Nat) (xs ys : List Nat) (w : World) (hn : xs.length ≤ 1048576) (hl : xs.length ≤ ys.length)
    (hx : xs ≠ [] → a = some ⟨bf, 0, none⟩ ∧ t = some ⟨bt, 0, none⟩ ∧ bf ≠ bt ∧ Rw w bf xs ∧ Rw w bt ys ∧ ∀ v ∈ xs, v < 18446744073709551616) :
    Calls Try.prog 8 #[.slice a xs.length ca, .slice t ys.length ct, .int .i64 s] w fun e w' => e = .returned (.tuple #[]) ∧
      Kpt w.heap.size bt w w' ∧ w'.heap.size = w.heap.size + 1 ∧ (xs ≠ [] → Rw w' bt (buck (key s) xs ++ ys.drop xs.length)) := by
  have HX := hide hx
  clear hx
  go_enter Try.func8, Try.ntmps8
  go_wp2_with fail
  refine (sort_any a t s ca ct bf bt xs ys w hn hl HX.out).mono ?_
  rintro e w' ⟨rfl, h1, h2, h3⟩
  have H3 := hide h3
  clear h3
  go_wp2
  go_end0
  exact ⟨rfl, h1, h2, H3.out⟩
end Go.Proofs.Qxb6619403a
