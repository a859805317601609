import Derived.Test.Qxb6618156aWalks
namespace Go.Proofs.Qxb6618156a
open Go.ChangeShapes Go.WideShapes Go.ChangeAt Go.RowKit

/-- What was there is as it was; no frozen mark has turned. -/
def G (W w' : World) : Prop := Below W.heap.size W w' ∧ ∀ a, w'.frozen? a = W.frozen? a
theorem G.refl (W : World) : G W W := ⟨Below.refl _ _, fun _ => rfl⟩
theorem G.grown {W w' : World} (h : G W w') : Grown W w' := ⟨h.1.frame _, h.2, h.1.size⟩
theorem G.drewN {W w' : World} (h : G W w') (n : Nat) : G W (w'.drewN n) := ⟨⟨h.1.os, h.1.tape, h.1.output, h.1.size, h.1.block⟩, h.2⟩
theorem G.alloc {W w' : World} (h : G W w') (c : Array Value) (t : TypeId) : G W (w'.alloc (.cells c t)) :=
  ⟨h.1.alloc h.1.size _, ((Grown.alloc h.grown c t)).2.1⟩
theorem G.kept {W w w' : World} {b : Nat} {s : ByteArray} {off off' depth : Int} {first : Bool} (h : G W w) (hb : W.heap.size ≤ b) (hd : Dec w b s off depth first) (hd' : Dec w' b s off' depth first) (hk : Kept b w w') : G W w' := by
  refine ⟨h.1.trans (hk.below hb), fun a => ?_⟩
  rw [← h.2 a]
  by_cases e : a.block = b
  · unfold Dec at hd hd'
    simp [World.frozen?, e, hd, hd']
  · exact World.frozen?_of_block (w := w) (hk.block a.block e)

theorem new_any (s : ByteArray) (off depth : Int) (first : Bool) (w : World) :
    Calls Try.prog 6 #[.string s, .int .i64 off, .int .i64 depth, .bool first] w fun e w' => e = .returned (.pointer (some ⟨w.heap.size, 0, none⟩)) ∧ w' = w.alloc (.cells #[.string s, .int .i64 off, .int .i64 depth, .bool first] 30) := by
  go_enter Try.func6, Try.ntmps6
  go_wp2
  go_ret
  exact ⟨rfl, rfl⟩

theorem zzskip_any (s : ByteArray) (off : Nat) (depth : Int) (first : Bool) (b : Nat) (w : World) (hs : s.size ≤ 1048576) (ho : off ≤ s.size) (hd : Dec w b s off depth first) :
    Calls Try.prog 7 #[.pointer (some ⟨b, 0, none⟩)] w fun e w' => ∃ o : Nat, Least s off o ∧ e = .returned (.bool (decide (o < s.size))) ∧ Dec w' b s o depth first ∧ Kept b w w' := by
  go_enter Try.func7, Try.ntmps7
  go_wp2_with fail
  refine (skip_any s off depth first b w hs ho hd).mono ?_
  rintro e w' ⟨o, hl, rfl, hd', hk⟩
  go_wp2
  go_ret
  exact ⟨o, hl, rfl, hd', hk⟩

theorem fields_any (s : ByteArray) (off depth : Int) (first : Bool) (b : Nat) (w : World) (hd : Dec w b s off depth first) :
    Calls Try.prog 8 #[.pointer (some ⟨b, 0, none⟩)] w fun e w' => e = .returned (.tuple #[.string s, .int .i64 off, .int .i64 depth, .bool first]) ∧ ∃ n, w' = w.drewN n := by
  have c0 := hd.cell0
  have c1 := hd.cell1
  have c2 := hd.cell2
  have c3 := hd.cell3
  go_enter Try.func8, Try.ntmps8
  go_wp2
  go_quiet (fail)
  go_wp2
  exact bodyPost_ret (v := .tuple #[.string s, .int .i64 off, .int .i64 depth, .bool first]) (by simp [results, Try.results8, go_sem]) rfl ⟨rfl, _, rfl⟩

theorem fixed_any (s : ByteArray) (off o : Nat) (w : World) (hs : s.size ≤ 1048576) (hl : Least s off o) :
    Calls Try.prog 9 #[.string s, .int .i64 off, .int .i64 o, .bool (decide (o < s.size))] w fun e w' => e = .returned (.bool true) ∧ w' = w := by
  have h1 := hl.lo
  have h2 := hl.hi
  have b1 : decide ((off : Int) < 0) = false := by simp
  have b2 : decide (o < off) = false := by simp; omega
  have b3 : decide (s.size < o) = false := by simp; omega
  go_enter Try.func9, Try.ntmps9
  go_wp2
  go_loop [9] (fun i => ∃ k : Nat, off ≤ k ∧ k ≤ o ∧ i = .int .i64 k) (fun i => o - (intOf i).toNat)
  case atStart => exact ⟨off, Nat.le_refl _, h1, rfl⟩
  case round =>
    obtain ⟨k, hk1, hk2, rfl⟩ := hrel
    by_cases hlt : k < o
    · have hks : k < s.size := by omega
      have hsp : isSp s[k] = true := hl.sp k hks hk1 hlt
      go_wp2_with (go_at_call 12; refine (isSpace_any _ _).mono ?_; rintro e w' ⟨rfl, rfl⟩)
      go_round
      case rel => exact ⟨k + 1, by omega, by omega, by go_num⟩
      case measure => simp [intOf]; omega
    · by_cases ho : o < s.size
      · have hsp : isSp s[o] = false := hl.stop ho
        go_wp2_with (go_at_call 12; refine (isSpace_any _ _).mono ?_; rintro e w' ⟨rfl, rfl⟩)
        go_ret
        exact ⟨rfl, rfl⟩
      · go_wp2
        go_ret
        exact ⟨rfl, rfl⟩
end Go.Proofs.Qxb6618156a
