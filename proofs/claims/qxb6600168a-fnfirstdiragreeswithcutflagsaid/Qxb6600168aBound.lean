/-
  The bounds on lengths: zzBytes of the two laws on firstDir.
-/
import Derived.Test.Qxb6600168aBase
namespace Go.Proofs.Qxb6600168a
open Go.ChangeShapes Go.WideShapes Go.ChangeAt Go.RowKit
set_option linter.unusedVariables false

/-- A bool comes back; where it is true, P holds. -/
def Answers (e : Ending) (P : Prop) : Prop := ∃ r : Bool, e = .returned (.bool r) ∧ (r = true → P)
theorem answers_no {e : Ending} {P : Prop} (h : e = .returned (.bool false)) : Answers e P := ⟨false, h, fun h => by cases h⟩
theorem answers_yes {e : Ending} {P : Prop} (h : e = .returned (.bool true)) (hp : P) : Answers e P := ⟨true, h, fun _ => hp⟩

/-- The sizes are small. -/
def Small (n : Nat) (ss : List ByteArray) : Prop := n ≤ 1048576 ∧ ∀ i, i < n → (ss.getD i ⟨#[]⟩).size ≤ 1048576

set_option maxHeartbeats 2000000 in
theorem bound18 (dir : ByteArray) (a : Option Addr) (n c : Nat) (ss : List ByteArray) (w : World) (hd : dir.size ≤ maxLen) (hn : n ≤ maxLen) (hS : Strs w a n ss) :
    Calls Try.prog 18 #[.string dir, .slice a n c] w fun e w' => Answers e (dir.size ≤ 1048576 ∧ Small n ss) ∧ w' = w := by
  unfold maxLen at hd hn
  by_cases c1 : (1048576 : Int) < dir.size
  · clear hS
    go_enter Try.func18, Try.ntmps18
    go_wp2
    go_ret
    exact ⟨answers_no rfl, rfl⟩
  by_cases c2 : (1048576 : Int) < n
  · clear hS
    go_enter Try.func18, Try.ntmps18
    go_wp2
    go_ret
    exact ⟨answers_no rfl, rfl⟩
  by_cases c3 : (1048576 : Int) < dir.size + n
  · clear hS
    go_enter Try.func18, Try.ntmps18
    go_wp2
    go_ret
    exact ⟨answers_no rfl, rfl⟩
  have d1 : decide ((1048576 : Int) < dir.size) = false := decide_eq_false c1
  have d2 : decide ((1048576 : Int) < n) = false := decide_eq_false c2
  have d3 : decide ((1048576 : Int) < dir.size + n) = false := decide_eq_false c3
  obtain ⟨hlen, hS⟩ := hS
  have HS : Hid (n = 0 ∨ ∃ b off, a = some ⟨b, off, none⟩ ∧ ∀ i, i < n → w.cell? ⟨b, off + i, none⟩ = some (.string (ss.getD i ⟨#[]⟩))) := hS
  clear hS hlen
  go_enter Try.func18, Try.ntmps18
  go_wp2
  go_loop [5, 6] (fun z i => ∃ (k : Nat) (q : Int), k ≤ n ∧ i = .int .i64 k ∧ z = .int .i64 q ∧ 0 ≤ q ∧ q ≤ 1048576 ∧ ∀ t, t < k → (ss.getD t ⟨#[]⟩).size ≤ 1048576) (fun _ i => n - (intOf i).toNat)
  case atStart => exact ⟨0, dir.size + n, Nat.zero_le _, rfl, by go_num, by omega, by omega, fun t ht => absurd ht (by omega)⟩
  case round =>
    obtain ⟨k, q, hk, rfl, rfl, hq0, hq1, hsm⟩ := hrel
    by_cases hkn : k < n
    · rcases HS.out with h | ⟨b, off, rfl, hc⟩
      · omega
      have hck := hc k hkn
      have hkI : (k : Int) < (n : Int) := by omega
      have hk0 : (0 : Int) ≤ (k : Int) := by omega
      obtain ⟨s, hs⟩ : ∃ s, ss.getD k ⟨#[]⟩ = s := ⟨_, rfl⟩
      rw [hs] at hck
      clear hc
      by_cases e1 : (1048576 : Int) < s.size
      · clear hsm hs
        go_wp2
        go_ret
        exact ⟨answers_no rfl, rfl⟩
      by_cases e2 : (1048576 : Int) < q + s.size
      · clear hsm hs
        go_wp2
        go_ret
        exact ⟨answers_no rfl, rfl⟩
      have HN : Hid (∀ t, t < k + 1 → (ss.getD t ⟨#[]⟩).size ≤ 1048576) := by
        intro t ht
        by_cases htk : t = k
        · subst htk; rw [hs]; omega
        · exact hsm t (by omega)
      clear hsm hs
      go_wp2
      go_round
      case rel => exact ⟨k + 1, q + s.size, by omega, by go_num, by go_num, by omega, by omega, HN.out⟩
      case measure => simp [intOf]; omega
    · have HN : Hid (∀ t, t < n → (ss.getD t ⟨#[]⟩).size ≤ 1048576) := fun t ht => hsm t (by omega)
      clear hsm
      go_wp2
      go_ret
      exact ⟨answers_yes rfl ⟨by omega, by omega, HN.out⟩, rfl⟩

end Go.Proofs.Qxb6600168a
