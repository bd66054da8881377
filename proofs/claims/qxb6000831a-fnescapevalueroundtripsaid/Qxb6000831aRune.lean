/-
  strings.IndexRune at a text of ASCII bytes and a rune that is none: -1.
-/
import Derived.Test.Qxb6000831aRows
import Derived.Test.Qxb6000831aShelf
import Derived.Shelf.Small.Utf8
import Derived.WalkKit
import Derived.ProofKit
import Derived.OpenShut
import Derived.ShutString
import Derived.ChangeOld
import Derived.Below
import Derived.WalkSmall
import Derived.WalkSpells
import Derived.Deep.QuietTactic
import Derived.BigQuiet
import Derived.Outline
namespace Go.Proofs.Qxb6000831a
open Go.ChangeShapes Go.WideShapes Go.ChangeAt Go.RowKit
set_option linter.unusedVariables false

/-- Every byte is ASCII. -/
def Ascii (s : ByteArray) : Prop := ∀ k (h : k < s.size), s[k].toNat < 128

/-- The form of a rune that is no ASCII: two bytes or more, the last one high. -/
theorem encode_high (r : Int) (h1 : 128 ≤ r) (h2 : r ≤ 1114111) : ∃ L, ∃ h : (Utf8.encode r).size = L + 1, L ≤ 3 ∧ 128 ≤ ((Utf8.encode r)[L]'(by omega)).toNat := by
  obtain ⟨c, hc⟩ : ∃ c, (if Utf8.valid r then r.toNat else Utf8.runeError) = c := ⟨_, rfl⟩
  have hc1 : 128 ≤ c := by
    rw [← hc]; split
    · omega
    · decide
  have hm : ∀ n : Nat, n < 64 → 128 ≤ (UInt8.ofNat (128 + n)).toNat := by
    intro n hn
    simp; omega
  have he : Utf8.encode r = (if c < 0x80 then ⟨#[UInt8.ofNat c]⟩ else if c < 0x800 then ⟨#[UInt8.ofNat (0xC0 + c / 64), UInt8.ofNat (0x80 + c % 64)]⟩ else if c < 0x10000 then ⟨#[UInt8.ofNat (0xE0 + c / 4096), UInt8.ofNat (0x80 + c / 64 % 64), UInt8.ofNat (0x80 + c % 64)]⟩
    else ⟨#[UInt8.ofNat (0xF0 + c / 262144), UInt8.ofNat (0x80 + c / 4096 % 64), UInt8.ofNat (0x80 + c / 64 % 64), UInt8.ofNat (0x80 + c % 64)]⟩) := by
    rw [← hc]; rfl
  rw [if_neg (by omega)] at he
  by_cases h3 : c < 0x800
  · rw [if_pos h3] at he
    simp only [he]
    exact ⟨1, rfl, by omega, hm _ (Nat.mod_lt _ (by omega))⟩
  · rw [if_neg h3] at he
    by_cases h4 : c < 0x10000
    · rw [if_pos h4] at he
      simp only [he]
      exact ⟨2, rfl, by omega, hm _ (Nat.mod_lt _ (by omega))⟩
    · rw [if_neg h4] at he
      simp only [he]
      exact ⟨3, rfl, by omega, hm _ (Nat.mod_lt _ (by omega))⟩

/-- A high byte is not among ASCII bytes. -/
theorem indexByte_high : ∀ (L : List UInt8) (c : UInt8), (∀ b ∈ L, b.toNat < 128) → 128 ≤ c.toNat → Lib.indexByte L c = -1
  | [], _, _, _ => rfl
  | b :: L, c, h, hc => by
    have ih := indexByte_high L c (fun x hx => h x (by simp [hx])) hc
    have hb := h b (by simp)
    have hne : (b == c) = false := by
      rw [beq_eq_false_iff_ne]
      intro e; rw [e] at hb; omega
    rw [Lib.indexByte, hne, ih]
    rfl

theorem Ascii.mem {s : ByteArray} (h : Ascii s) : ∀ b ∈ s.data.toList, b.toNat < 128 := by
  intro b hb
  obtain ⟨k, hk, rfl⟩ := List.getElem_of_mem hb
  exact h k (by simpa using hk)

set_option maxHeartbeats 2000000 in
set_option maxRecDepth 1000000 in
theorem indexRune_high (cs : ByteArray) (r : Int) (w : World) (h1 : 128 ≤ r) (h2 : r ≤ 1114111) (hne : r ≠ 65533) (hv : Lib.validRune r = true) (hA : Ascii cs) (hs : cs.size ≤ 8) :
    Calls Try.prog 40 #[.string cs, .int .i32 r] w fun e w' => e = .returned (.int .i64 (-1)) ∧ Below w.heap.size w w' := by
  have cv := Any.utf8_ValidRune Try.lays119 r w
  rw [hv] at cv
  have d1 : decide ((0 : Int) ≤ r) = true := decide_eq_true (by omega)
  have d2 : decide (r < 128) = false := decide_eq_false (by omega)
  have d3 : (r == 65533) = false := beq_eq_false_iff_ne.2 hne
  obtain ⟨L, rs, hLs, hE, hL, hL3, hlast⟩ : ∃ (L : Nat) (rs : ByteArray) (h : L < rs.size), Utf8.encode r = rs ∧ rs.size = L + 1 ∧ L ≤ 3 ∧ 128 ≤ (rs[L]'h).toNat := by
    obtain ⟨L, hL, hL3, hlast⟩ := encode_high r h1 h2
    exact ⟨L, Utf8.encode r, by omega, rfl, hL, hL3, hlast⟩
  have HA : Hid (Ascii cs) := hA
  have HL : Hid (128 ≤ (rs[L]'hLs).toNat) := hlast
  clear hne hv hA hlast
  go_enter Try.func40, Try.ntmps40
  go_wp2_with (go_at_call 48; refine cv.mono ?_; rintro e w' ⟨rfl, hw⟩; have hw' := hw.symm; subst hw')
  go_step3
  go_wp2
  have hLI : (L : Int) < (rs.size : Int) := by omega
  clear cv d1 d2 d3 hE hL
  by_cases hlt : L < cs.size
  · have hx := HA.out L hlt
    have hltI : (L : Int) < (cs.size : Int) := by omega
    have hL0 : (0 : Int) ≤ (L : Int) := by omega
    have hneq : ((cs[L].toNat : Int) != (rs[L]'hLs).toNat) = true := by
      rw [bne_iff_ne]
      have := HL.out
      omega
    have c47 : ∀ v : World, Calls Try.prog 47 #[.string (cs.extract (L + 1) cs.size), .int .u8 ((rs[L]'hLs).toNat : Int)] v fun e w' => e = .returned (.int .i64 (-1)) ∧ w' = v := by
      intro v
      have := Any.strings_IndexByte Try.lays137 (cs.extract (L + 1) cs.size) ((rs[L]'hLs).toNat : Int) v
      rw [indexByte_high _ _ ?_ ?_] at this
      · exact this
      · intro b hb
        rw [ByteArray.data_extract, Array.toList_extract] at hb
        exact Ascii.mem HA.out b (List.mem_of_mem_drop (List.mem_of_mem_take (by simpa [List.extract_eq_take_drop] using hb)))
      · have := HL.out
        simpa using this
    have hwrap : IntKind.i64.wrap ((L : Int) + 1) = (L : Int) + 1 := by
      rw [IntKind.wrap_i64]; omega
    have hb0 : (0 : Int) ≤ (L : Int) + 1 := by omega
    have hb1 : (L : Int) + 1 ≤ (cs.size : Int) := by omega
    refine wp_loop_rounds 1 ?_
    rw [rounds_succ]
    go_wp2
    go_step3
    go_wp2
    go_quiet (fail)
    go_wp2
    go_quiet ((go_at_call 47; refine (c47 _).mono ?_; rintro e w'' ⟨rfl, rfl⟩; exact ⟨rfl, _, rfl⟩))
    go_wp2
    simp only [Exit.inBlock, Exit.then, Exit.noGoto]
    go_ret
    exact ⟨rfl, below_drewN (Below.refl _ _) _⟩
  · have hltI : ¬ (L : Int) < (cs.size : Int) := by omega
    refine wp_loop_rounds 1 ?_
    rw [rounds_succ]
    go_wp2
    go_ret
    exact ⟨rfl, Below.refl _ _⟩
theorem below_iter (w : World) (s : ByteArray) (p : Nat) : Below w.heap.size w (w.iter s p) := (Below.refl _ _).alloc (Nat.le_refl _) (.stringIter s p)

set_option maxHeartbeats 2000000 in
set_option maxRecDepth 1000000 in
theorem indexRune_err (cs : ByteArray) (w : World) (hA : Ascii cs) :
    Calls Try.prog 40 #[.string cs, .int .i32 65533] w fun e w' => e = .returned (.int .i64 (-1)) ∧ Below w.heap.size w w' := by
  have HA : Hid (Ascii cs) := hA
  clear hA
  go_enter Try.func40, Try.ntmps40
  go_wp2
  go_loopg [5, 6] cs.size (fun g _ _ wx => ∃ i : Nat, i + g = cs.size ∧ wx = w.iter cs i)
  case atStart => exact ⟨0, by omega, rfl⟩
  case round =>
    obtain ⟨i, hig, rfl⟩ := hrel
    cases gk with
    | zero =>
      obtain rfl : i = cs.size := by omega
      have hnx := run_next_end (P := Try.prog) w cs cs.size
      go_wp2
      go_ret
      exact ⟨rfl, below_iter w cs _⟩
    | succ g =>
      have hi : i < cs.size := by omega
      have h128 := HA.out i hi
      have hnx := fun ty => run_next_ascii (P := Try.prog) w cs i ty hi h128
      have hne : ((cs[i].toNat : Int) == 65533) = false := beq_eq_false_iff_ne.2 (by omega)
      go_wp2
      go_roundg g
      case measure => omega
      case rel => exact ⟨i + 1, by omega, rfl⟩

/-- strings.IndexRune at a short text of ASCII bytes, whatever rune a text can hold. -/
def runeIn (cs : ByteArray) (r : Int) : Int := if r < 128 then Lib.indexByte cs.data.toList r.toNat.toUInt8 else -1

theorem indexRune_all (cs : ByteArray) (r : Int) (w : World) (h0 : 0 ≤ r) (h2 : r ≤ 1114111) (hv : Lib.validRune r = true) (hA : Ascii cs) (hs : cs.size ≤ 8) :
    Calls Try.prog 40 #[.string cs, .int .i32 r] w fun e w' => e = .returned (.int .i64 (runeIn cs r)) ∧ Below w.heap.size w w' := by
  unfold runeIn
  by_cases h1 : r < 128
  · rw [if_pos h1]
    exact (Any.strings_IndexRune_ascii Try.lays152 cs r w h0 h1).mono fun e w' ⟨he, hw⟩ => ⟨he, by rw [hw]; exact Below.refl _ _⟩
  · rw [if_neg h1]
    by_cases he : r = 65533
    · subst he; exact indexRune_err cs w hA
    · exact indexRune_high cs r w (by omega) h2 he hv hA hs

end Go.Proofs.Qxb6000831a
