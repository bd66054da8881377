/-
  validUTF8: where it says true, the text is good.
-/
import Derived.Test.Qxb6000831aUtf
namespace Go.Proofs.Qxb6000831a
open Go.ChangeShapes Go.WideShapes Go.ChangeAt Go.RowKit
set_option linter.unusedVariables false

/-- A truth value comes back; true only where G holds. -/
def Says (e : Ending) (G : Prop) : Prop := ∃ r : Bool, e = .returned (.bool r) ∧ (r = true → G)

theorem says_false (G : Prop) : Says (.returned (.bool false)) G := ⟨false, rfl, fun h => by cases h⟩

theorem okN_at {s : ByteArray} {pos n : Nat} (h : pos + n < s.size) (g : Good s pos → Good s 0)
    (hn : OkN n (s.get! pos).toNat (s.get! (pos + 1)).toNat (s.get! (pos + 2)).toNat (s.get! (pos + 3)).toNat) : Good s (pos + (n + 1)) → Good s 0 :=
  fun h2 => g (.step pos n ⟨h, hn⟩ h2)

set_option maxHeartbeats 8000000 in
set_option maxRecDepth 1000000 in
theorem valid_any (s : ByteArray) (w : World) (hs : s.size ≤ 1048576) :
    Calls Try.prog 14 #[.string s] w fun e w' => Says e (Good s 0) ∧ w' = w := by
  go_enter Try.func14, Try.ntmps14
  go_wp2
  go_loop [3] (fun i => ∃ k : Nat, k ≤ s.size ∧ i = .int .i64 k ∧ (Good s k → Good s 0)) (fun i => s.size - (intOf i).toNat)
  case atStart => exact ⟨0, Nat.zero_le _, rfl, id⟩
  case round =>
    obtain ⟨k, hk, rfl, hg⟩ := hrel
    have HG : Hid (Good s k → Good s 0) := hg
    clear hg
    by_cases hkl : k < s.size
    · have hbl := UInt8.toNat_lt s[k]
      by_cases h128 : s[k].toNat < 128
      · have HG2 : Hid (Good s (k + 1) → Good s 0) := okN_at (n := 0) hkl HG.out (.inl ⟨rfl, by rw [get_at s k hkl]; exact h128⟩)
        go_wp2
        go_round
        case rel => exact ⟨k + 1, by omega, by go_num, HG2.out⟩
        case measure => simp [intOf]; omega
      · by_cases c1 : s[k].toNat < 194
        · go_wp2
          go_ret
          exact ⟨says_false _, rfl⟩
        by_cases c2 : s[k].toNat ≤ 223
        · go_wp2
          all_goals first | (go_ret; exact ⟨says_false _, rfl⟩) | skip
          refine wp_loop_rounds 1 ?_
          rw [rounds_succ]
          go_wp2
          go_round
          case rel => exact ⟨k + 2, by omega, by go_num, okN_at (n := 1) (by omega) HG.out (.inr (.inl ⟨rfl, by rw [get_at s k hkl, get_at s (k + 1) (by omega)]; omega⟩))⟩
          case measure => simp [intOf]; omega
        by_cases c3 : s[k].toNat = 224
        · go_wp2
          all_goals first | (go_ret; exact ⟨says_false _, rfl⟩) | skip
          refine wp_loop_rounds 2 ?_
          rw [rounds_succ]
          go_wp2
          all_goals first | (go_ret; exact ⟨says_false _, rfl⟩) | skip
          rw [rounds_succ]
          go_wp2
          go_round
          case rel => exact ⟨k + 3, by omega, by go_num, okN_at (n := 2) (by omega) HG.out (.inr (.inr (.inl ⟨rfl, by rw [get_at s k hkl, get_at s (k + 1) (by omega), get_at s (k + 2) (by omega)]; omega⟩)))⟩
          case measure => simp [intOf]; omega
        by_cases c4 : s[k].toNat ≤ 236
        · go_wp2
          all_goals first | (go_ret; exact ⟨says_false _, rfl⟩) | skip
          refine wp_loop_rounds 2 ?_
          rw [rounds_succ]
          go_wp2
          all_goals first | (go_ret; exact ⟨says_false _, rfl⟩) | skip
          rw [rounds_succ]
          go_wp2
          go_round
          case rel => exact ⟨k + 3, by omega, by go_num, okN_at (n := 2) (by omega) HG.out (.inr (.inr (.inl ⟨rfl, by rw [get_at s k hkl, get_at s (k + 1) (by omega), get_at s (k + 2) (by omega)]; omega⟩)))⟩
          case measure => simp [intOf]; omega
        by_cases c5 : s[k].toNat = 237
        · go_wp2
          all_goals first | (go_ret; exact ⟨says_false _, rfl⟩) | skip
          refine wp_loop_rounds 2 ?_
          rw [rounds_succ]
          go_wp2
          all_goals first | (go_ret; exact ⟨says_false _, rfl⟩) | skip
          rw [rounds_succ]
          go_wp2
          go_round
          case rel => exact ⟨k + 3, by omega, by go_num, okN_at (n := 2) (by omega) HG.out (.inr (.inr (.inl ⟨rfl, by rw [get_at s k hkl, get_at s (k + 1) (by omega), get_at s (k + 2) (by omega)]; omega⟩)))⟩
          case measure => simp [intOf]; omega
        by_cases c6 : s[k].toNat ≤ 239
        · go_wp2
          all_goals first | (go_ret; exact ⟨says_false _, rfl⟩) | skip
          refine wp_loop_rounds 2 ?_
          rw [rounds_succ]
          go_wp2
          all_goals first | (go_ret; exact ⟨says_false _, rfl⟩) | skip
          rw [rounds_succ]
          go_wp2
          go_round
          case rel => exact ⟨k + 3, by omega, by go_num, okN_at (n := 2) (by omega) HG.out (.inr (.inr (.inl ⟨rfl, by rw [get_at s k hkl, get_at s (k + 1) (by omega), get_at s (k + 2) (by omega)]; omega⟩)))⟩
          case measure => simp [intOf]; omega
        by_cases c7 : s[k].toNat = 240
        · go_wp2
          all_goals first | (go_ret; exact ⟨says_false _, rfl⟩) | skip
          refine wp_loop_rounds 3 ?_
          rw [rounds_succ]
          go_wp2
          all_goals first | (go_ret; exact ⟨says_false _, rfl⟩) | skip
          rw [rounds_succ]
          go_wp2
          all_goals first | (go_ret; exact ⟨says_false _, rfl⟩) | skip
          rw [rounds_succ]
          go_wp2
          go_round
          case rel => exact ⟨k + 4, by omega, by go_num, okN_at (n := 3) (by omega) HG.out (.inr (.inr (.inr ⟨rfl, by rw [get_at s k hkl, get_at s (k + 1) (by omega), get_at s (k + 2) (by omega), get_at s (k + 3) (by omega)]; omega⟩)))⟩
          case measure => simp [intOf]; omega
        by_cases c8 : s[k].toNat ≤ 243
        · go_wp2
          all_goals first | (go_ret; exact ⟨says_false _, rfl⟩) | skip
          refine wp_loop_rounds 3 ?_
          rw [rounds_succ]
          go_wp2
          all_goals first | (go_ret; exact ⟨says_false _, rfl⟩) | skip
          rw [rounds_succ]
          go_wp2
          all_goals first | (go_ret; exact ⟨says_false _, rfl⟩) | skip
          rw [rounds_succ]
          go_wp2
          go_round
          case rel => exact ⟨k + 4, by omega, by go_num, okN_at (n := 3) (by omega) HG.out (.inr (.inr (.inr ⟨rfl, by rw [get_at s k hkl, get_at s (k + 1) (by omega), get_at s (k + 2) (by omega), get_at s (k + 3) (by omega)]; omega⟩)))⟩
          case measure => simp [intOf]; omega
        by_cases c9 : s[k].toNat = 244
        · go_wp2
          all_goals first | (go_ret; exact ⟨says_false _, rfl⟩) | skip
          refine wp_loop_rounds 3 ?_
          rw [rounds_succ]
          go_wp2
          all_goals first | (go_ret; exact ⟨says_false _, rfl⟩) | skip
          rw [rounds_succ]
          go_wp2
          all_goals first | (go_ret; exact ⟨says_false _, rfl⟩) | skip
          rw [rounds_succ]
          go_wp2
          go_round
          case rel => exact ⟨k + 4, by omega, by go_num, okN_at (n := 3) (by omega) HG.out (.inr (.inr (.inr ⟨rfl, by rw [get_at s k hkl, get_at s (k + 1) (by omega), get_at s (k + 2) (by omega), get_at s (k + 3) (by omega)]; omega⟩)))⟩
          case measure => simp [intOf]; omega
        go_wp2
        go_ret
        exact ⟨says_false _, rfl⟩
    · obtain rfl : k = s.size := by omega
      have HS : Hid (Good s 0) := HG.out .done
      go_wp2
      go_ret
      exact ⟨⟨true, rfl, fun _ => HS.out⟩, rfl⟩
end Go.Proofs.Qxb6000831a
