/-
  firstDir: what it answers, way by way.
-/
import Derived.Test.Qxb6600168aBound
import Derived.Test.Qxb6600168aShelf
namespace Go.Proofs.Qxb6600168a
open Go.ChangeShapes Go.WideShapes Go.ChangeAt Go.RowKit
set_option linter.unusedVariables false

theorem firstDir_none (a : Option Addr) (c : Nat) (w : World) :
    Calls Try.prog 32 #[.slice a 0 c] w fun e w' => e = .returned (.tuple #[.string ⟨#[]⟩, .int .i64 0]) ∧ w' = w := by
  go_enter Try.func32, Try.ntmps32
  go_wp2
  go_ret2
  exact ⟨rfl, rfl⟩

set_option maxHeartbeats 1000000 in
theorem firstDir_two (b off n c : Nat) (a s1 : ByteArray) (w : World) (hn : 2 ≤ n) (hc0 : w.cell? ⟨b, off, none⟩ = some (.string a)) (hc1 : w.cell? ⟨b, off + 1, none⟩ = some (.string s1))
    (ha : (a.toList == [45, 67]) = true ∨ (a.toList == [45, 45, 67]) = true) :
    Calls Try.prog 32 #[.slice (some ⟨b, off, none⟩) n c] w fun e w' => e = .returned (.tuple #[.string s1, .int .i64 2]) ∧ w' = w := by
  have h0 : ((n : Int) == 0) = false := beq_eq_false_iff_ne.2 (by omega)
  have h1 : (1 : Int) < n := by omega
  have h1' : decide ((1 : Int) < n) = true := decide_eq_true h1
  have h2 : (0 : Int) < n := by omega
  by_cases e1 : (a.toList == [45, 67]) = true
  · clear ha
    go_enter Try.func32, Try.ntmps32
    go_wp2
    go_ret2
    exact ⟨rfl, rfl⟩
  · have e2 : (a.toList == [45, 45, 67]) = true := by rcases ha with h | h; exact absurd h e1; exact h
    have e1' : (a.toList == [45, 67]) = false := by simpa using e1
    clear ha e1
    go_enter Try.func32, Try.ntmps32
    go_wp2
    go_ret2
    exact ⟨rfl, rfl⟩

set_option maxHeartbeats 2000000 in
theorem firstDir_one (b off n c : Nat) (a x y : ByteArray) (z : Bool) (w : World) (hn : 1 ≤ n) (hc0 : w.cell? ⟨b, off, none⟩ = some (.string a)) (e1 : (a.toList == [45, 67]) = false) (e2 : (a.toList == [45, 45, 67]) = false)
    (hp : Lib.hasPrefix a.data.toList [45, 67, 61] = true ∨ (Lib.hasPrefix a.data.toList [45, 67, 61] = false ∧ Lib.hasPrefix a.data.toList [45, 45, 67, 61] = true))
    (hcut : Calls Try.prog 35 #[.string a, .string ⟨#[61]⟩] w fun e w' => e = .returned (.tuple #[.string x, .string y, .bool z]) ∧ ∃ q, w' = w.drewN q) :
    Calls Try.prog 32 #[.slice (some ⟨b, off, none⟩) n c] w fun e w' => e = .returned (.tuple #[.string y, .int .i64 1]) ∧ ∃ q, w' = w.drewN q := by
  have h0 : ((n : Int) == 0) = false := beq_eq_false_iff_ne.2 (by omega)
  have h2 : (0 : Int) < n := by omega
  obtain ⟨p1, hp1⟩ : ∃ p, Lib.hasPrefix a.data.toList [45, 67, 61] = p := ⟨_, rfl⟩
  obtain ⟨p2, hp2⟩ : ∃ p, Lib.hasPrefix a.data.toList [45, 45, 67, 61] = p := ⟨_, rfl⟩
  have c1 : Calls Try.prog 37 #[.string a, .string ⟨#[45, 67, 61]⟩] w fun e w' => e = .returned (.bool p1) ∧ w' = w := by
    have := Any.strings_HasPrefix Try.lays99 a ⟨#[45, 67, 61]⟩ w
    rw [← hp1]; exact this
  have c2 : Calls Try.prog 37 #[.string a, .string ⟨#[45, 45, 67, 61]⟩] w fun e w' => e = .returned (.bool p2) ∧ w' = w := by
    have := Any.strings_HasPrefix Try.lays99 a ⟨#[45, 45, 67, 61]⟩ w
    rw [← hp2]; exact this
  rw [hp1, hp2] at hp
  clear hp1 hp2
  have hpp : (p1 = true) ∨ (p1 = false ∧ p2 = true) := hp
  clear hp
  rcases hpp with rfl | ⟨rfl, rfl⟩
  · go_enter Try.func32, Try.ntmps32
    go_wp2_with (first
      | (go_at_call_of 37 (Value.string ⟨#[45, 67, 61]⟩); refine c1.mono ?_; rintro e w' ⟨rfl, hw⟩; have hw' := hw.symm; subst hw')
      | (go_at_call 35; refine hcut.mono ?_; rintro e w' ⟨rfl, q, rfl⟩))
    go_ret2
    exact ⟨rfl, _, rfl⟩
  · go_enter Try.func32, Try.ntmps32
    go_wp2_with (first
      | (go_at_call_of 37 (Value.string ⟨#[45, 67, 61]⟩); refine c1.mono ?_; rintro e w' ⟨rfl, hw⟩; have hw' := hw.symm; subst hw')
      | (go_at_call_of 37 (Value.string ⟨#[45, 45, 67, 61]⟩); refine c2.mono ?_; rintro e w' ⟨rfl, hw⟩; have hw' := hw.symm; subst hw')
      | (go_at_call 35; refine hcut.mono ?_; rintro e w' ⟨rfl, q, rfl⟩))
    go_ret2
    exact ⟨rfl, _, rfl⟩

set_option maxHeartbeats 2000000 in
theorem firstDir_no (b off n c : Nat) (a : ByteArray) (w : World) (hn : 1 ≤ n) (hc0 : w.cell? ⟨b, off, none⟩ = some (.string a)) (ha : ((a.toList == [45, 67]) = false ∧ (a.toList == [45, 45, 67]) = false) ∨ n = 1)
    (hp1 : Lib.hasPrefix a.data.toList [45, 67, 61] = false) (hp2 : Lib.hasPrefix a.data.toList [45, 45, 67, 61] = false) :
    Calls Try.prog 32 #[.slice (some ⟨b, off, none⟩) n c] w fun e w' => e = .returned (.tuple #[.string ⟨#[]⟩, .int .i64 0]) ∧ w' = w := by
  have h0 : ((n : Int) == 0) = false := beq_eq_false_iff_ne.2 (by omega)
  have h2 : (0 : Int) < n := by omega
  have c1 : Calls Try.prog 37 #[.string a, .string ⟨#[45, 67, 61]⟩] w fun e w' => e = .returned (.bool false) ∧ w' = w := by
    have := Any.strings_HasPrefix Try.lays99 a ⟨#[45, 67, 61]⟩ w
    rw [← hp1]; exact this
  have c2 : Calls Try.prog 37 #[.string a, .string ⟨#[45, 45, 67, 61]⟩] w fun e w' => e = .returned (.bool false) ∧ w' = w := by
    have := Any.strings_HasPrefix Try.lays99 a ⟨#[45, 45, 67, 61]⟩ w
    rw [← hp2]; exact this
  clear hp1 hp2
  rcases ha with ⟨e1, e2⟩ | h1
  · go_enter Try.func32, Try.ntmps32
    go_wp2_with (first
      | (go_at_call_of 37 (Value.string ⟨#[45, 67, 61]⟩); refine c1.mono ?_; rintro e w' ⟨rfl, hw⟩; have hw' := hw.symm; subst hw')
      | (go_at_call_of 37 (Value.string ⟨#[45, 45, 67, 61]⟩); refine c2.mono ?_; rintro e w' ⟨rfl, hw⟩; have hw' := hw.symm; subst hw'))
    go_ret2
    exact ⟨rfl, rfl⟩
  · subst h1
    obtain ⟨u1, hu1⟩ : ∃ u, (a.toList == [45, 67]) = u := ⟨_, rfl⟩
    obtain ⟨u2, hu2⟩ : ∃ u, (a.toList == [45, 45, 67]) = u := ⟨_, rfl⟩
    cases u1 <;> cases u2
    all_goals
      go_enter Try.func32, Try.ntmps32
      go_wp2_with (first
        | (go_at_call_of 37 (Value.string ⟨#[45, 67, 61]⟩); refine c1.mono ?_; rintro e w' ⟨rfl, hw⟩; have hw' := hw.symm; subst hw')
        | (go_at_call_of 37 (Value.string ⟨#[45, 45, 67, 61]⟩); refine c2.mono ?_; rintro e w' ⟨rfl, hw⟩; have hw' := hw.symm; subst hw'))
      go_ret2
      exact ⟨rfl, rfl⟩

/-- ZZFirstDir hands on what firstDir gives. -/
theorem zz_firstDir (v : Value) (d : ByteArray) (k : Int) (w : World) (h : Calls Try.prog 32 #[v] w fun e w' => e = .returned (.tuple #[.string d, .int .i64 k]) ∧ ∃ q, w' = w.drewN q) :
    Calls Try.prog 21 #[v] w fun e w' => e = .returned (.tuple #[.string d, .int .i64 k]) ∧ ∃ q, w' = w.drewN q := by
  go_enter Try.func21, Try.ntmps21
  go_wp2_with (go_at_call 32; refine h.mono ?_; rintro e w' ⟨rfl, q, rfl⟩)
  go_ret2
  exact ⟨rfl, _, rfl⟩

theorem zz_same (v : Value) (d : ByteArray) (k : Int) (w : World) (h : Calls Try.prog 32 #[v] w fun e w' => e = .returned (.tuple #[.string d, .int .i64 k]) ∧ w' = w) :
    Calls Try.prog 21 #[v] w fun e w' => e = .returned (.tuple #[.string d, .int .i64 k]) ∧ ∃ q, w' = w.drewN q :=
  zz_firstDir v d k w (h.mono fun e w' ⟨he, hw⟩ => ⟨he, 0, hw⟩)

end Go.Proofs.Qxb6600168a
