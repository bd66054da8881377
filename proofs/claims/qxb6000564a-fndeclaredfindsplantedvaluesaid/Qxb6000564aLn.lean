/-
  The contracts on the road of the two statements on localName: bytes.IndexByte, localName, ZZlocalName, and the two bounds on lengths.
-/
import Derived.Test.Qxb6000564aRows
import Derived.WalkKit
import Derived.ProofKit
import Derived.OpenShut
import Derived.ShutString
import Derived.ChangeOld
import Derived.Below
import Derived.Lib.BytesEntry
import Derived.Test.Qxb6000564aStr
import Derived.Laws.Externs
import Derived.Deep.QuietTactic
import Derived.BigQuiet
import Derived.Outline
namespace Go.Proofs.Qxb6000564a
open Go.ChangeShapes Go.WideShapes Go.ChangeAt Go.RowKit

theorem indexByte_at (b off n c : Nat) (xs : List Int) (cv : Int) (w : World) (hx : xs.length = n) (hc : ∀ i, i < n → w.cell? ⟨b, off + i, none⟩ = some (.int .u8 (xs.getD i 0))) :
    Calls Try.prog 26 #[.slice (some ⟨b, off, none⟩) n c, .int .u8 cv] w fun e w' => e = .returned (.int .i64 (Lib.indexByte (Lib.bytesOf xs) cv.toNat.toUInt8)) ∧ w' = w := by
  go_enter Try.func26, Try.ntmps26
  go_wp2
  rw [run_callFunc_extern Try.func28 (by kernel_rfl) (by kernel_rfl) (by kernel_rfl) (e := Extern.BytealgIndexByte.indexByte) (by kernel_rfl), Lib.run_indexByteSlice w b off n c xs hx hc cv]
  simp only [Result.andThen]
  rw [Oper.upon_value]
  go_wp2
  go_ret
  exact ⟨rfl, rfl⟩

theorem indexByte_nil (cv : Int) (w : World) :
    Calls Try.prog 26 #[.slice none 0 0, .int .u8 cv] w fun e w' => e = .returned (.int .i64 (-1)) ∧ w' = w := by
  go_enter Try.func26, Try.ntmps26
  go_wp2
  rw [run_callFunc_extern Try.func28 (by kernel_rfl) (by kernel_rfl) (by kernel_rfl) (e := Extern.BytealgIndexByte.indexByte) (by kernel_rfl), Lib.run_indexByteNil w 0 0 cv]
  simp only [Result.andThen]
  rw [Oper.upon_value]
  go_wp2
  go_ret
  exact ⟨rfl, rfl⟩

/-- localName where the first colon stands inside. -/
theorem localName_cut (b off n c : Nat) (xs : List Int) (w : World) (hx : xs.length = n) (hc : ∀ i, i < n → w.cell? ⟨b, off + i, none⟩ = some (.int .u8 (xs.getD i 0)))
    (hcap : n ≤ c) (hbig : c ≤ 9223372036854775807) (k : Nat) (hk : Lib.indexByte (Lib.bytesOf xs) 58 = k) (k0 : 0 < k) (k1 : k + 1 < n) :
    Calls Try.prog 24 #[.slice (some ⟨b, off, none⟩) n c] w fun e w' => e = .returned (.slice (some ⟨b, off + (k + 1), none⟩) (n - (k + 1)) (c - (k + 1))) ∧ w' = w := by
  have hcon := indexByte_at b off n c xs 58 w hx hc
  have e58 : (58 : Int).toNat.toUInt8 = 58 := rfl
  rw [e58, hk] at hcon
  clear hc hk e58
  go_enter Try.func24, Try.ntmps24
  go_wp2_with (go_at_call 26; refine hcon.mono ?_; rintro e w' ⟨rfl, rfl⟩)
  go_ret
  exact ⟨rfl, rfl⟩

/-- localName elsewhere: the name itself. -/
theorem localName_same (b off n c : Nat) (xs : List Int) (w : World) (hx : xs.length = n) (hc : ∀ i, i < n → w.cell? ⟨b, off + i, none⟩ = some (.int .u8 (xs.getD i 0)))
    (hbig : n ≤ 9223372036854775807) (k : Int) (hk : Lib.indexByte (Lib.bytesOf xs) 58 = k) (hno : k ≤ 0 ∨ (n : Int) ≤ k + 1) :
    Calls Try.prog 24 #[.slice (some ⟨b, off, none⟩) n c] w fun e w' => e = .returned (.slice (some ⟨b, off, none⟩) n c) ∧ w' = w := by
  have hcon := indexByte_at b off n c xs 58 w hx hc
  have e58 : (58 : Int).toNat.toUInt8 = 58 := rfl
  rw [e58, hk] at hcon
  clear hc hk e58
  by_cases h0 : 0 < k
  · have h1 : (n : Int) ≤ k + 1 := by omega
    clear hno
    go_enter Try.func24, Try.ntmps24
    go_wp2_with (go_at_call 26; refine hcon.mono ?_; rintro e w' ⟨rfl, rfl⟩)
    go_ret
    exact ⟨rfl, rfl⟩
  · clear hno
    go_enter Try.func24, Try.ntmps24
    go_wp2_with (go_at_call 26; refine hcon.mono ?_; rintro e w' ⟨rfl, rfl⟩)
    go_ret
    exact ⟨rfl, rfl⟩

theorem localName_nil (w : World) : Calls Try.prog 24 #[.slice none 0 0] w fun e w' => e = .returned (.slice none 0 0) ∧ w' = w := by
  have hcon := indexByte_nil 58 w
  go_enter Try.func24, Try.ntmps24
  go_wp2_with (go_at_call 26; refine hcon.mono ?_; rintro e w' ⟨rfl, rfl⟩)
  go_ret
  exact ⟨rfl, rfl⟩

/-- ZZlocalName hands on what localName gives. -/
theorem zz_localName (v v' : Value) (w : World) (hs : ∃ a n c, v' = .slice a n c) (h : Calls Try.prog 24 #[v] w fun e w' => e = .returned v' ∧ w' = w) :
    Calls Try.prog 14 #[v] w fun e w' => e = .returned v' ∧ w' = w := by
  obtain ⟨a, n, c, rfl⟩ := hs
  go_enter Try.func14, Try.ntmps14
  go_wp2_with (go_at_call 24; refine h.mono ?_; rintro e w' ⟨rfl, rfl⟩)
  go_ret
  exact ⟨rfl, rfl⟩

/-- The bound on the lengths of two strings. -/
theorem bound2 (p l : ByteArray) (w : World) (hp : p.size ≤ maxLen) (hl : l.size ≤ maxLen) :
    Calls Try.prog 13 #[.string p, .string l] w fun e w' => e = .returned (.bool (decide (p.size + l.size ≤ 1048576))) ∧ w' = w := by
  unfold maxLen at hp hl
  by_cases h1 : (1048576 : Int) < p.size
  · have e : decide (p.size + l.size ≤ 1048576) = false := decide_eq_false (by omega)
    rw [e]
    go_enter Try.func13, Try.ntmps13
    go_wp2
    go_ret
    exact ⟨rfl, rfl⟩
  · by_cases h2 : (1048576 : Int) < l.size
    · have e : decide (p.size + l.size ≤ 1048576) = false := decide_eq_false (by omega)
      rw [e]
      go_enter Try.func13, Try.ntmps13
      go_wp2
      go_ret
      exact ⟨rfl, rfl⟩
    · by_cases h3 : (1048576 : Int) < p.size + l.size
      · have e : decide (p.size + l.size ≤ 1048576) = false := decide_eq_false (by omega)
        rw [e]
        go_enter Try.func13, Try.ntmps13
        go_wp2
        go_ret
        exact ⟨rfl, rfl⟩
      · have e : decide (p.size + l.size ≤ 1048576) = true := decide_eq_true (by omega)
        rw [e]
        go_enter Try.func13, Try.ntmps13
        go_wp2
        go_ret
        exact ⟨rfl, rfl⟩

/-- The bound on the length of a slice. -/
theorem bound1 (a : Option Addr) (n c : Nat) (w : World) (hn : n ≤ maxLen) :
    Calls Try.prog 15 #[.slice a n c] w fun e w' => e = .returned (.bool (decide (n ≤ 1048576))) ∧ w' = w := by
  unfold maxLen at hn
  by_cases h1 : (1048576 : Int) < n
  · have e : decide (n ≤ 1048576) = false := decide_eq_false (by omega)
    rw [e]
    go_enter Try.func15, Try.ntmps15
    go_wp2
    go_ret
    exact ⟨rfl, rfl⟩
  · have e : decide (n ≤ 1048576) = true := decide_eq_true (by omega)
    rw [e]
    go_enter Try.func15, Try.ntmps15
    go_wp2
    go_ret
    exact ⟨rfl, rfl⟩

/-! ### Plain laws -/
theorem bytesOf_nums (s : ByteArray) : Lib.bytesOf (nums s) = s.data.toList := by
  unfold Lib.bytesOf nums
  rw [List.map_map]
  conv => rhs; rw [← List.map_id s.data.toList]
  apply List.map_congr_left
  intro b _
  simp

theorem indexByte_first (c : UInt8) (L : List UInt8) : ∀ P : List UInt8, (∀ b ∈ P, b ≠ c) → Lib.indexByte (P ++ c :: L) c = P.length
  | [], _ => by simp [Lib.indexByte]
  | b :: P, h => by
    have hb : b ≠ c := h b (by simp)
    have ih := indexByte_first c L P (fun x hx => h x (by simp [hx]))
    have hne : (b == c) = false := by simpa using hb
    rw [List.cons_append, Lib.indexByte, hne, ih]
    have h1 : ((P.length : Int) == -1) = false := by simp
    simp [h1]

end Go.Proofs.Qxb6000564a
