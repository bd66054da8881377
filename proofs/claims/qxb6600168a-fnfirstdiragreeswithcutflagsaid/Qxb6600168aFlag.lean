/-
  cutFlag: what it answers, way by way; hasByte; the bound on two strings.
-/
import Derived.Test.Qxb6600168aBase
import Derived.Test.Qxb6600168aShelf
namespace Go.Proofs.Qxb6600168a
open Go.ChangeShapes Go.WideShapes Go.ChangeAt Go.RowKit
set_option linter.unusedVariables false

set_option maxHeartbeats 1000000 in
theorem cutFlag_yes (a r1 r2 x y : ByteArray) (z : Bool) (w : World) (hx : 0 < x.size) (h45 : ((x[0].toNat : Int) == 45) = false)
    (c1 : Calls Try.prog 34 #[.string a, .string ⟨#[45]⟩] w fun e w' => e = .returned (.tuple #[.string r1, .bool true]) ∧ w' = w)
    (c2 : Calls Try.prog 36 #[.string r1, .string ⟨#[45]⟩] w fun e w' => e = .returned (.string r2) ∧ w' = w)
    (c3 : Calls Try.prog 35 #[.string r2, .string ⟨#[61]⟩] w fun e w' => e = .returned (.tuple #[.string x, .string y, .bool z]) ∧ ∃ q, w' = w.drewN q) :
    Calls Try.prog 31 #[.string a] w fun e w' => e = .returned (.tuple #[.string x, .string y, .bool z]) ∧ ∃ q, w' = w.drewN q := by
  have he : x.toList.isEmpty = false := by
    rw [Lib.toList_data]
    cases hh : x.data.toList with
    | nil => have hl : x.data.toList.length = x.size := by simp
             rw [hh] at hl; simp at hl; omega
    | cons => rfl
  have hxI : (0 : Int) < x.size := by omega
  go_enter Try.func31, Try.ntmps31
  go_wp2_with (first
    | (go_at_call 34; refine c1.mono ?_; rintro e w' ⟨rfl, hw⟩; have hw' := hw.symm; subst hw')
    | (go_at_call 36; refine c2.mono ?_; rintro e w' ⟨rfl, hw⟩; have hw' := hw.symm; subst hw')
    | (go_at_call 35; refine c3.mono ?_; rintro e w' ⟨rfl, q, rfl⟩))
  go_ret3
  exact ⟨rfl, _, rfl⟩

set_option maxHeartbeats 1000000 in
theorem cutFlag_no (a r1 : ByteArray) (w : World)
    (c1 : Calls Try.prog 34 #[.string a, .string ⟨#[45]⟩] w fun e w' => e = .returned (.tuple #[.string r1, .bool false]) ∧ w' = w) :
    Calls Try.prog 31 #[.string a] w fun e w' => e = .returned (.tuple #[.string ⟨#[]⟩, .string ⟨#[]⟩, .bool false]) ∧ ∃ q, w' = w.drewN q := by
  go_enter Try.func31, Try.ntmps31
  go_wp2_with (go_at_call 34; refine c1.mono ?_; rintro e w' ⟨rfl, hw⟩; have hw' := hw.symm; subst hw')
  go_ret3
  exact ⟨rfl, 0, rfl⟩

set_option maxHeartbeats 1000000 in
theorem cutFlag_bad (a r1 r2 x y : ByteArray) (z : Bool) (w : World) (hx : x.size = 0 ∨ ∃ h : 0 < x.size, ((x[0].toNat : Int) == 45) = true)
    (c1 : Calls Try.prog 34 #[.string a, .string ⟨#[45]⟩] w fun e w' => e = .returned (.tuple #[.string r1, .bool true]) ∧ w' = w)
    (c2 : Calls Try.prog 36 #[.string r1, .string ⟨#[45]⟩] w fun e w' => e = .returned (.string r2) ∧ w' = w)
    (c3 : Calls Try.prog 35 #[.string r2, .string ⟨#[61]⟩] w fun e w' => e = .returned (.tuple #[.string x, .string y, .bool z]) ∧ ∃ q, w' = w.drewN q) :
    Calls Try.prog 31 #[.string a] w fun e w' => e = .returned (.tuple #[.string ⟨#[]⟩, .string ⟨#[]⟩, .bool false]) ∧ ∃ q, w' = w.drewN q := by
  rcases hx with h0 | ⟨h0, h45⟩
  · have he : x.toList.isEmpty = true := by
      rw [Lib.toList_data, List.isEmpty_iff_length_eq_zero]
      simpa using h0
    clear h0
    go_enter Try.func31, Try.ntmps31
    go_wp2_with (first
      | (go_at_call 34; refine c1.mono ?_; rintro e w' ⟨rfl, hw⟩; have hw' := hw.symm; subst hw')
      | (go_at_call 36; refine c2.mono ?_; rintro e w' ⟨rfl, hw⟩; have hw' := hw.symm; subst hw')
      | (go_at_call 35; refine c3.mono ?_; rintro e w' ⟨rfl, q, rfl⟩))
    go_ret3
    exact ⟨rfl, _, rfl⟩
  · have he : x.toList.isEmpty = false := by
      rw [Lib.toList_data]
      cases hh : x.data.toList with
      | nil => have hl : x.data.toList.length = x.size := by simp
               rw [hh] at hl; simp at hl; omega
      | cons => rfl
    have hxI : (0 : Int) < x.size := by omega
    go_enter Try.func31, Try.ntmps31
    go_wp2_with (first
      | (go_at_call 34; refine c1.mono ?_; rintro e w' ⟨rfl, hw⟩; have hw' := hw.symm; subst hw')
      | (go_at_call 36; refine c2.mono ?_; rintro e w' ⟨rfl, hw⟩; have hw' := hw.symm; subst hw')
      | (go_at_call 35; refine c3.mono ?_; rintro e w' ⟨rfl, q, rfl⟩))
    go_ret3
    exact ⟨rfl, _, rfl⟩

theorem zz_cutFlag (a x y : ByteArray) (z : Bool) (w : World) (h : Calls Try.prog 31 #[.string a] w fun e w' => e = .returned (.tuple #[.string x, .string y, .bool z]) ∧ ∃ q, w' = w.drewN q) :
    Calls Try.prog 15 #[.string a] w fun e w' => e = .returned (.tuple #[.string x, .string y, .bool z]) ∧ ∃ q, w' = w.drewN q := by
  go_enter Try.func15, Try.ntmps15
  go_wp2_with (go_at_call 31; refine h.mono ?_; rintro e w' ⟨rfl, q, rfl⟩)
  go_ret3
  exact ⟨rfl, _, rfl⟩

/-- cutFlag, on lists of bytes. -/
def flagOf (L : List UInt8) : List UInt8 × List UInt8 × Bool :=
  if Lib.hasPrefix L [45] then
    match Lib.cut (Lib.trimPrefix (Lib.trimPrefix L [45]) [45]) [61] with
    | ([], _, _) => ([], [], false)
    | (x :: X, Y, z) => if x = 45 then ([], [], false) else (x :: X, Y, z)
  else ([], [], false)

theorem trim_le (L p : List UInt8) : (Lib.trimPrefix L p).length ≤ L.length := by
  unfold Lib.trimPrefix
  split
  · simp
  · exact Nat.le_refl _

theorem cutFlag_any (a : ByteArray) (w : World) (m : Int) (hm : w.cell? ⟨0, 0, none⟩ = some (.int .i64 m)) (hs : a.size < 4294967281) :
    Calls Try.prog 15 #[.string a] w fun e w' => e = .returned (.tuple #[.string ⟨(flagOf a.data.toList).1.toArray⟩, .string ⟨(flagOf a.data.toList).2.1.toArray⟩, .bool (flagOf a.data.toList).2.2]) ∧ ∃ q, w' = w.drewN q := by
  have c1 := Any.strings_CutPrefix Try.lays103 a ⟨#[45]⟩ w
  have e45 : (⟨#[45]⟩ : ByteArray).data.toList = [45] := rfl
  rw [e45] at c1
  refine zz_cutFlag _ _ _ _ _ ?_
  cases hp : Lib.hasPrefix a.data.toList [45] with
  | false =>
    rw [hp] at c1
    have e : flagOf a.data.toList = ([], [], false) := by unfold flagOf; rw [hp]; rfl
    rw [e]
    exact cutFlag_no a _ w c1
  | true =>
    rw [hp] at c1
    have c2 := Any.strings_TrimPrefix Try.lays101 ⟨(Lib.trimPrefix a.data.toList [45]).toArray⟩ ⟨#[45]⟩ w
    rw [e45] at c2
    have ed : (⟨(Lib.trimPrefix a.data.toList [45]).toArray⟩ : ByteArray).data.toList = Lib.trimPrefix a.data.toList [45] := rfl
    rw [ed] at c2
    obtain ⟨R, hR⟩ : ∃ R, Lib.trimPrefix (Lib.trimPrefix a.data.toList [45]) [45] = R := ⟨_, rfl⟩
    rw [hR] at c2
    have hRl : R.length ≤ a.size := by
      rw [← hR]
      have h1 := trim_le (Lib.trimPrefix a.data.toList [45]) [45]
      have h2 := trim_le a.data.toList [45]
      have h3 : a.data.toList.length = a.size := by simp
      omega
    have hRs : (⟨R.toArray⟩ : ByteArray).size = R.length := rfl
    have c3 := Any.strings_Cut { Try.laysM145 with } ⟨R.toArray⟩ ⟨#[61]⟩ m w (by omega) hm
    have e61 : (⟨#[61]⟩ : ByteArray).data.toList = [61] := rfl
    have eR : (⟨R.toArray⟩ : ByteArray).data.toList = R := rfl
    rw [e61, eR] at c3
    obtain ⟨X, Y, z, hc⟩ : ∃ X Y z, Lib.cut R [61] = (X, Y, z) := ⟨_, _, _, rfl⟩
    rw [hc] at c3
    have ef : flagOf a.data.toList = (match (X, Y, z) with | ([], _, _) => ([], [], false) | (x :: X, Y, z) => if x = 45 then ([], [], false) else (x :: X, Y, z)) := by
      unfold flagOf
      rw [hp, hR, hc]
      rfl
    cases X with
    | nil =>
      have ef2 : flagOf a.data.toList = ([], [], false) := ef
      rw [ef2]
      exact cutFlag_bad a _ _ _ _ z w (.inl rfl) c1 c2 c3
    | cons x X =>
      have ef2 : flagOf a.data.toList = if x = 45 then ([], [], false) else (x :: X, Y, z) := ef
      rw [ef2]
      by_cases hx : x = 45
      · rw [if_pos hx]
        subst hx
        exact cutFlag_bad a _ _ ⟨(45 :: X).toArray⟩ _ z w (.inr ⟨Nat.succ_pos X.length, rfl⟩) c1 c2 c3
      · rw [if_neg hx]
        refine cutFlag_yes a _ _ ⟨(x :: X).toArray⟩ _ z w (Nat.succ_pos X.length) ?_ c1 c2 c3
        rw [beq_eq_false_iff_ne]
        intro h
        have h' : (x.toNat : Int) = 45 := h
        exact hx (UInt8.toNat.inj (by show x.toNat = 45; omega))

/-! ### Plain laws -/
theorem index_sep_none (c : UInt8) : ∀ L : List UInt8, (∀ b ∈ L, b ≠ c) → Lib.index L [c] = -1
  | [], _ => by simp [Lib.index]
  | b :: L, h => by
    have hb : b ≠ c := h b (by simp)
    have ih := index_sep_none c L (fun x hx => h x (by simp [hx]))
    have hp : List.isPrefixOf [c] (b :: L) = false := by simp [List.isPrefixOf]; exact fun e => hb e.symm
    rw [Lib.index, hp, ih]
    rfl

theorem index_sep_some (c : UInt8) (V : List UInt8) : ∀ L : List UInt8, (∀ b ∈ L, b ≠ c) → Lib.index (L ++ c :: V) [c] = L.length
  | [], _ => by simp [Lib.index, List.isPrefixOf]
  | b :: L, h => by
    have hb : b ≠ c := h b (by simp)
    have ih := index_sep_some c V L (fun x hx => h x (by simp [hx]))
    have hp : List.isPrefixOf [c] (b :: (L ++ c :: V)) = false := by simp [List.isPrefixOf]; exact fun e => hb e.symm
    have hn : ((L.length : Int) == -1) = false := by simp
    rw [List.cons_append, Lib.index, hp, ih, hn]
    simp

theorem cut_none (c : UInt8) (L : List UInt8) (h : ∀ b ∈ L, b ≠ c) : Lib.cut L [c] = (L, [], false) := by
  unfold Lib.cut
  rw [index_sep_none c L h]
  simp

theorem cut_some (c : UInt8) (L V : List UInt8) (h : ∀ b ∈ L, b ≠ c) : Lib.cut (L ++ c :: V) [c] = (L, V, true) := by
  unfold Lib.cut
  rw [index_sep_some c V L h]
  simp

/-- What is left of the dashes. -/
theorem undash (x : UInt8) (N : List UInt8) (hx : x ≠ 45) : Lib.hasPrefix (45 :: x :: N) [45] = true ∧ Lib.trimPrefix (Lib.trimPrefix (45 :: x :: N) [45]) [45] = x :: N ∧
    Lib.hasPrefix (45 :: 45 :: x :: N) [45] = true ∧ Lib.trimPrefix (Lib.trimPrefix (45 :: 45 :: x :: N) [45]) [45] = x :: N := by
  have h1 : (45 == x) = false := by simpa using fun e => hx e.symm
  refine ⟨rfl, ?_, rfl, ?_⟩
  · simp [Lib.trimPrefix, Lib.hasPrefix, List.isPrefixOf, h1]
  · simp [Lib.trimPrefix, Lib.hasPrefix, List.isPrefixOf]

theorem flag_bare (x : UInt8) (N : List UInt8) (hx : x ≠ 45) (h : ∀ b ∈ x :: N, b ≠ 61) : flagOf (45 :: x :: N) = (x :: N, [], false) ∧ flagOf (45 :: 45 :: x :: N) = (x :: N, [], false) := by
  obtain ⟨u1, u2, u3, u4⟩ := undash x N hx
  constructor
  · unfold flagOf
    rw [u1, u2, cut_none 61 _ h]
    simp [hx]
  · unfold flagOf
    rw [u3, u4, cut_none 61 _ h]
    simp [hx]

theorem flag_value (x : UInt8) (N V : List UInt8) (hx : x ≠ 45) (h : ∀ b ∈ x :: N, b ≠ 61) : flagOf (45 :: (x :: N ++ 61 :: V)) = (x :: N, V, true) ∧ flagOf (45 :: 45 :: (x :: N ++ 61 :: V)) = (x :: N, V, true) := by
  obtain ⟨u1, u2, u3, u4⟩ := undash x (N ++ 61 :: V) hx
  have hc : Lib.cut (x :: (N ++ 61 :: V)) [61] = (x :: N, V, true) := cut_some 61 (x :: N) V h
  constructor
  · rw [List.cons_append]
    unfold flagOf
    rw [u1, u2, hc]
    simp [hx]
  · rw [List.cons_append]
    unfold flagOf
    rw [u3, u4, hc]
    simp [hx]

end Go.Proofs.Qxb6600168a
