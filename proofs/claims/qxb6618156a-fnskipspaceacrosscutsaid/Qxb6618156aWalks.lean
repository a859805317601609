import Derived.Test.Qxb6618156aRows
import Derived.Test.Qxb6618156aPlain
import Derived.WalkKit
import Derived.ProofKit
import Derived.OpenShut
import Derived.ShutString
import Derived.Handy
import Derived.Deep.LoopGhost
import Derived.Deep.QuietTactic
import Derived.BigQuiet
namespace Go.Proofs.Qxb6618156a
open Go.ChangeShapes Go.WideShapes Go.ChangeAt Go.RowKit

theorem hide {p : Prop} (h : p) : Hid p := h

/-- Block b is the Decoder with these four fields. -/
def Dec (w : World) (b : Nat) (s : ByteArray) (off depth : Int) (first : Bool) : Prop :=
  w.heap[b]? = some (.cells #[.string s, .int .i64 off, .int .i64 depth, .bool first] 30 (0, 0))

/-- Only block b may have turned. -/
structure Kept (b : Nat) (w w' : World) : Prop where
  os : w'.os = w.os
  tape : w'.tape = w.tape
  output : w'.output = w.output
  size : w'.heap.size = w.heap.size
  block : ∀ k, k ≠ b → w'.heap[k]? = w.heap[k]?

theorem Kept.refl (b : Nat) (w : World) : Kept b w w := ⟨rfl, rfl, rfl, rfl, fun _ _ => rfl⟩
theorem Kept.trans {b : Nat} {a c d : World} (h : Kept b a c) (k : Kept b c d) : Kept b a d :=
  ⟨k.os.trans h.os, k.tape.trans h.tape, k.output.trans h.output, k.size.trans h.size, fun i hi => (k.block i hi).trans (h.block i hi)⟩
theorem Kept.drewN {b : Nat} {a w : World} (h : Kept b a w) (n : Nat) : Kept b a (w.drewN n) := ⟨h.os, h.tape, h.output, h.size, h.block⟩
theorem Kept.setCell {b : Nat} {a w : World} (h : Kept b a w) (o : Nat) (u : Value) : Kept b a (w.setCell ⟨b, o, none⟩ u) :=
  h.trans ⟨rfl, rfl, rfl, by simp [World.setCell], fun k hk => Below.heap_setCell _ _ _ _ (by simpa using hk)⟩
theorem Kept.below {b B : Nat} {w w' : World} (h : Kept b w w') (hb : B ≤ b) : Below B w w' :=
  ⟨h.os, h.tape, h.output, Nat.le_of_eq h.size.symm, fun k hk => h.block k (by omega)⟩

section
variable {w : World} {b : Nat} {s : ByteArray} {off depth : Int} {first : Bool}
theorem Dec.cell0 (h : Dec w b s off depth first) : w.cell? ⟨b, 0, none⟩ = some (.string s) := by
  unfold Dec at h; simp [World.cell?, h]
theorem Dec.cell1 (h : Dec w b s off depth first) : w.cell? ⟨b, 1, none⟩ = some (.int .i64 off) := by
  unfold Dec at h; simp [World.cell?, h]
theorem Dec.cell2 (h : Dec w b s off depth first) : w.cell? ⟨b, 2, none⟩ = some (.int .i64 depth) := by
  unfold Dec at h; simp [World.cell?, h]
theorem Dec.cell3 (h : Dec w b s off depth first) : w.cell? ⟨b, 3, none⟩ = some (.bool first) := by
  unfold Dec at h; simp [World.cell?, h]
theorem Dec.free (h : Dec w b s off depth first) (o : Nat) : w.frozen? ⟨b, o, none⟩ = false := by
  unfold Dec at h; simp [World.frozen?, h]
theorem Dec.drewN (h : Dec w b s off depth first) (n : Nat) : Dec (w.drewN n) b s off depth first := h
theorem Dec.set (h : Dec w b s off depth first) (o : Int) : Dec (w.setCell ⟨b, 1, none⟩ (.int .i64 o)) b s o depth first := by
  unfold Dec at *
  simp [World.setCell, Array.getElem?_modify, h]
theorem Dec.born (w : World) (s : ByteArray) (off depth : Int) (first : Bool) : Dec (w.alloc (.cells #[.string s, .int .i64 off, .int .i64 depth, .bool first] 30)) w.heap.size s off depth first := by
  unfold Dec
  show (w.heap.push _)[w.heap.size]? = _
  simp
end

theorem step_sp {s : ByteArray} {off o : Nat} (h : ∀ i (h : i < s.size), off ≤ i → i < o → isSp s[i] = true) (hlt : o < s.size) (hz : isSp s[o] = true) :
    ∀ i (h : i < s.size), off ≤ i → i < o + 1 → isSp s[i] = true := by
  intro i hi h1 h2
  by_cases e : i = o
  · subst e; exact hz
  · exact h i hi h1 (by omega)

/-- zzJtIsSpace. -/
theorem isSpace_any (c : UInt8) (w : World) :
    Calls Try.prog 12 #[.int .u8 c.toNat] w fun e w' => e = .returned (.bool (isSp c)) ∧ w' = w := by
  rw [isSp_num]
  go_enter Try.func12, Try.ntmps12
  go_wp2
  all_goals (go_ret; exact ⟨by simp [*], rfl⟩)

set_option maxHeartbeats 400000 in
theorem skip_any (s : ByteArray) (off : Nat) (depth : Int) (first : Bool) (b : Nat) (w : World) (hs : s.size ≤ 1048576) (ho : off ≤ s.size) (hd : Dec w b s off depth first) :
    Calls Try.prog 11 #[.pointer (some ⟨b, 0, none⟩)] w fun e w' => ∃ o : Nat, Least s off o ∧ e = .returned (.bool (decide (o < s.size))) ∧ Dec w' b s o depth first ∧ Kept b w w' := by
  go_enter Try.func11, Try.ntmps11
  go_wp2
  go_loopg [] (s.size - off) (fun k wr => ∃ o : Nat, off ≤ o ∧ o ≤ s.size ∧ k = s.size - o ∧ (∀ i (h : i < s.size), off ≤ i → i < o → isSp s[i] = true) ∧ Dec wr b s o depth first ∧ Kept b w wr)
  case atStart => exact ⟨off, Nat.le_refl _, ho, rfl, fun i _ h1 h2 => by omega, hd, Kept.refl _ _⟩
  case round =>
    obtain ⟨o, h1, h2, hk, hsp, hdr, hkr⟩ := hrel
    have HK := hide hk; clear hk
    have HSP := hide hsp; clear hsp
    have c0 := hdr.cell0
    have c1 := hdr.cell1
    have fz := hdr.free 1
    by_cases hlt : o < s.size
    · have HN := hide (isSp_num s[o])
      go_wp2
      go_quiet (fail)
      go_wp2
      go_quiet (fail)
      go_wp2
      all_goals first
        | (have hz : isSp s[o] = true := by rw [HN.out]; simp [*]
           go_roundg (s.size - (o + 1))
           case measure => rw [HK.out]; omega
           case rel => exact ⟨o + 1, by omega, by omega, rfl, step_sp HSP.out hlt hz, (hdr.drewN _).set _, (hkr.drewN _).setCell _ _⟩)
        | (have hz : isSp s[o] = false := by rw [HN.out]; simp [*]
           go_ret
           exact ⟨o, ⟨h1, h2, HSP.out, fun _ => hz⟩, by simp [hlt], hdr.drewN _, hkr.drewN _⟩)
    · go_wp2
      go_quiet (fail)
      go_wp2
      go_ret
      exact ⟨o, ⟨h1, h2, HSP.out, fun h => absurd h hlt⟩, by simp [hlt], hdr.drewN _, hkr.drewN _⟩
end Go.Proofs.Qxb6618156a
