/-
  THE WALKS OF countSlash, splitSlash.
-/
import Derived.Test.Qxb6619418aRows
import Derived.Test.Qxb6619418aSplitPlain
import Derived.WalkKit
import Derived.ProofKit
import Derived.OpenShut
import Derived.Handy
import Derived.WalkSpells
import Derived.Deep.QuietTactic
import Derived.BigQuiet
namespace Go.Proofs.Qxb6619418a
open Go.ChangeShapes Go.WideShapes Go.ChangeAt Go.RowKit

theorem hide {p : Prop} (h : p) : Hid p := h
theorem ret_int {k : IntKind} {a b : Int} (h : a = b) : Ending.returned (.int k a) = .returned (.int k b) := by rw [h]

theorem take_snoc (s : ByteArray) (k : Nat) (h : k < s.size) : (bs s).take (k + 1) = (bs s).take k ++ [s[k]] := by
  rw [List.take_succ_eq_append_getElem (by rw [bs_length]; exact h), bs_get s k h]

theorem count_any (s : ByteArray) (w : World) (hs : s.size ≤ 1048576) :
    Calls Try.prog 12 #[.string s] w fun e w' => e = .returned (.int .i64 ((bs s).count 47 : Nat)) ∧ w' = w := by
  go_enter Try.func12, Try.ntmps12
  go_wp2
  go_loop [3, 4] (fun c i => ∃ k : Nat, k ≤ s.size ∧ i = .int .i64 k ∧ c = .int .i64 (((bs s).take k).count 47 : Nat)) (fun _ i => s.size - (intOf i).toNat)
  case atStart => exact ⟨0, Nat.zero_le _, rfl, rfl⟩
  case round =>
    obtain ⟨k, hk, rfl, rfl⟩ := hrel
    have hle : ((bs s).take k).count 47 ≤ 1048576 := Nat.le_trans List.count_le_length (by rw [List.length_take, bs_length]; omega)
    by_cases hlt : k < s.size
    · have HT := hide (take_snoc s k hlt)
      have hn := slash_num s[k]
      by_cases hc : s[k] = 47
      · rw [decide_eq_true hc] at hn
        have HC := hide hc
        clear hc
        go_wp2
        go_round
        case rel => exact ⟨k + 1, by omega, by go_num, by rw [HT.out, List.count_append, HC.out]; simp⟩
        case measure => simp [intOf]; omega
      · rw [decide_eq_false hc] at hn
        have HC := hide hc
        clear hc
        go_wp2
        go_round
        case rel => exact ⟨k + 1, by omega, by go_num, by rw [HT.out, List.count_append, List.count_cons_of_ne HC.out]; simp⟩
        case measure => simp [intOf]; omega
    · go_wp2
      go_ret
      exact ⟨ret_int (by rw [List.take_of_length_le (by rw [bs_length]; omega)]), rfl⟩

theorem info9 : (Try.prog.info? 9).map (fun i => (i.zero, i.size, i.bytes)) = some (some (.string ByteArray.empty), 1, 16) := by kernel_rfl

theorem owns_shape {w : World} {B n : Nat} {v : Value} {xs : List Value} (h : w.ownsRow B 9 1 v n xs) (hn : 0 < n) : ∃ g cap, v = .slice (some ⟨g, 0, none⟩) n cap := by
  rcases h.2 with ⟨_, h0⟩ | ⟨g, cap, _, h1, _⟩
  · omega
  · exact ⟨g, cap, h1⟩

theorem owns_block {w : World} {B n : Nat} {v : Value} {xs : List Value} (h : w.ownsRow B 9 1 v n xs) : ∀ k, v.ownBlock = some k → B ≤ k := by
  intro k hk
  rcases h.2 with ⟨h1, h0⟩ | ⟨g, cap, _, h1, h2, _⟩
  · rw [h1] at hk; simp [Value.ownBlock] at hk
  · rw [h1] at hk; simp [Value.ownBlock] at hk; omega

set_option maxRecDepth 100000 in
set_option maxHeartbeats 1000000 in
theorem split_any (s : ByteArray) (w : World) (hs : s.size ≤ 1048576) :
    Calls Try.prog 11 #[.string s] w fun e w' => ∃ (P : List ByteArray) (g cap : Nat), e = .returned (.slice (some ⟨g, 0, none⟩) P.length cap) ∧ P.map bs = spl (bs s) [] ∧
      w'.ownsRow w.heap.size 9 1 (.slice (some ⟨g, 0, none⟩) P.length cap) P.length (P.map Value.string) ∧ Below w.heap.size w w' := by
  obtain ⟨i0, hi, hz0, hz1, hz2⟩ := info_parts info9
  go_enter Try.func11, Try.ntmps11
  go_wp2
  go_loopw [3, 4, 5] (fun v st i wr => ∃ k start : Nat, ∃ P : List ByteArray, k ≤ s.size ∧ start ≤ k ∧ P.length ≤ k ∧ st = .int .i64 start ∧ i = .int .i64 k ∧ wr.ownsRow w.heap.size 9 1 v P.length (P.map Value.string) ∧
      Below w.heap.size w wr ∧ P.map bs ++ spl ((bs s).drop k) (((bs s).take k).drop start) = spl (bs s) []) (fun _ _ i _ => s.size - (intOf i).toNat)
  case atStart => exact ⟨0, 0, [], Nat.zero_le _, Nat.le_refl _, Nat.le_refl _, rfl, rfl, World.ownsRow_nil _ _ _ _, Below.refl _ _, by simp⟩
  case round =>
    obtain ⟨k, start, P, hk, hst, hP, rfl, rfl, hown, hbel, hsp⟩ := hrel
    have HS := hide hsp
    clear hsp
    by_cases hlt : k < s.size
    · have hn := slash_num s[k]
      by_cases hc : s[k] = 47
      · rw [decide_eq_true hc] at hn
        have HC := hide hc
        clear hc
        go_wp2_with (at_builtin; refine wpList_append_own _ rfl _ _ 39 rfl w.heap.size 9 i0 (.string ByteArray.empty) 1 16 Try.underlying39 hi hz0 hz1 hz2 rfl (by decide) _ _ _ rfl (hown.alloc _) ⟨wr.heap.size, 0, none⟩ 1 1 [.string (s.extract start k)] rfl rfl ?c1 ?c2 ?c3 ?c4 ?c5 ?_)
        case c1 => exact cell_one_new _ _ _
        case c2 => intro u hu; simp at hu; subst hu; rfl
        case c3 => unfold maxLen; omega
        case c4 => omega
        case c5 => have := hbel.size; simp; omega
        intro v' w1 hown' hgrow _
        have hbel' := (hbel.alloc hbel.size (.cells #[.string (s.extract start k)] 9)).grown hgrow (by have := hbel.size; simp; omega) (owns_block hown)
        clear hgrow hown hbel
        go_wp2
        go_roundw
        case rel =>
          refine ⟨k + 1, k + 1, P ++ [s.extract start k], by omega, by omega, by simp; omega, by go_num, by go_num, by simpa using hown', hbel', ?_⟩
          rw [List.map_append, List.map_cons, List.map_nil, extract_bs]
          exact step_slash _ _ _ _ (by rw [bs_length]; exact hlt) (by rw [bs_get s k hlt]; exact HC.out) HS.out
        case measure => simp [intOf]; omega
      · rw [decide_eq_false hc] at hn
        have HC := hide hc
        clear hc
        go_wp2
        go_roundw
        case rel => exact ⟨k + 1, start, P, by omega, by omega, by omega, rfl, by go_num, hown, hbel, step_other _ _ _ _ (by rw [bs_length]; exact hlt) hst (by rw [bs_get s k hlt]; exact HC.out) HS.out⟩
        case measure => simp [intOf]; omega
    · have hke : k = s.size := by omega
      have HK := hide hke
      clear hke
      go_wp2_with (at_builtin; refine wpList_append_own _ rfl _ _ 39 rfl w.heap.size 9 i0 (.string ByteArray.empty) 1 16 Try.underlying39 hi hz0 hz1 hz2 rfl (by decide) _ _ _ rfl (hown.alloc _) ⟨wr.heap.size, 0, none⟩ 1 1 [.string (s.extract start s.size)] rfl rfl ?d1 ?d2 ?d3 ?d4 ?d5 ?_)
      case d1 => exact cell_one_new _ _ _
      case d2 => intro u hu; simp at hu; subst hu; rfl
      case d3 => unfold maxLen; omega
      case d4 => omega
      case d5 => have := hbel.size; simp; omega
      intro v' w1 hown' hgrow _
      have hbel' := (hbel.alloc hbel.size (.cells #[.string (s.extract start s.size)] 9)).grown hgrow (by have := hbel.size; simp; omega) (owns_block hown)
      clear hgrow hown hbel
      obtain ⟨g, cap, hv⟩ := owns_shape hown' (by omega)
      rw [hv] at hown' ⊢
      go_wp2
      go_ret
      refine ⟨P ++ [s.extract start s.size], g, cap, by simp, ?_, by simpa using hown', hbel'⟩
      rw [List.map_append, List.map_cons, List.map_nil, extract_bs, ← HK.out]
      exact step_end _ _ _ _ (by rw [bs_length]; exact HK.out) HS.out
end Go.Proofs.Qxb6619418a
