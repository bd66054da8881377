/-
  strings.ContainsAny at "/@", whatever text: does one of the two bytes stand in it?
-/
import Derived.Test.Qxb6000831aRune
import Derived.Lib.DecodeN
import Derived.Lib.OthersKept
import Derived.Shelf.Strings.IndexAnyAll
namespace Go.Proofs.Qxb6000831a
open Go.ChangeShapes Go.WideShapes Go.ChangeAt Go.RowKit
set_option linter.unusedVariables false

set_option maxRecDepth 100000 in
set_option maxHeartbeats 4000000 in
theorem dN_facts (n b0 b1 b2 b3 : Nat) (hn : 1 ≤ n) (h0 : b0 < 256) (h1 : b1 < 256) (h2 : b2 < 256) (h3 : b3 < 256) (hb : 128 ≤ b0) :
    128 ≤ (Lib.decodeN n b0 b1 b2 b3).1 ∧ (Lib.decodeN n b0 b1 b2 b3).1 ≤ 1114111 ∧ ((Lib.decodeN n b0 b1 b2 b3).1 < 55296 ∨ 57343 < (Lib.decodeN n b0 b1 b2 b3).1) ∧ 1 ≤ (Lib.decodeN n b0 b1 b2 b3).2 ∧ (Lib.decodeN n b0 b1 b2 b3).2 ≤ n ∧ (Lib.decodeN n b0 b1 b2 b3).2 ≤ 4 ∧
    (1 < (Lib.decodeN n b0 b1 b2 b3).2 → 128 ≤ b1) ∧ (2 < (Lib.decodeN n b0 b1 b2 b3).2 → 128 ≤ b2) ∧ (3 < (Lib.decodeN n b0 b1 b2 b3).2 → 128 ≤ b3) := by
  unfold Lib.decodeN
  repeat' split
  all_goals first | (exfalso; omega) | (simp only; omega)

theorem get_at (s : ByteArray) (k : Nat) (h : k < s.size) : s.get! k = s[k] := by
  have : s.data[k]! = s.data[k] := getElem!_pos s.data k h
  exact this

/-- What a step of a range over a text does at a byte that is no ASCII: every byte that it passes is none. -/
theorem decode_span (s : ByteArray) (pos : Nat) (h : pos < s.size) (hb : 128 ≤ s[pos].toNat) :
    128 ≤ (Utf8.decode s pos).1 ∧ (Utf8.decode s pos).1 ≤ 1114111 ∧ Lib.validRune ((Utf8.decode s pos).1 : Int) = true ∧ 1 ≤ (Utf8.decode s pos).2 ∧ pos + (Utf8.decode s pos).2 ≤ s.size ∧
    ∀ j (hj : j < s.size), pos ≤ j → j < pos + (Utf8.decode s pos).2 → 128 ≤ s[j].toNat := by
  have hf := dN_facts (s.size - pos) (s.get! pos).toNat (s.get! (pos + 1)).toNat (s.get! (pos + 2)).toNat (s.get! (pos + 3)).toNat (by omega) (UInt8.toNat_lt _) (UInt8.toNat_lt _) (UInt8.toNat_lt _) (UInt8.toNat_lt _) (by rw [get_at s pos h]; exact hb)
  rw [← Lib.decode_at] at hf
  obtain ⟨f1, f2, f3, f4, f5, f6, f7, f8, f9⟩ := hf
  refine ⟨f1, f2, ?_, f4, by omega, fun j hj h1 h2 => ?_⟩
  · unfold Lib.validRune
    rw [decide_eq_true_eq]
    omega
  · have : j = pos ∨ j = pos + 1 ∨ j = pos + 2 ∨ j = pos + 3 := by omega
    rcases this with rfl | rfl | rfl | rfl
    · exact hb
    · rw [← get_at s _ hj]; exact f7 (by omega)
    · rw [← get_at s _ hj]; exact f8 (by omega)
    · rw [← get_at s _ hj]; exact f9 (by omega)

/-- Does a slash or an at sign stand in the text? -/
def hasAt (L : List UInt8) : Bool := L.any fun b => b == 47 || b == 64

theorem hasAt_yes (s : ByteArray) (k : Nat) (h : k < s.size) (e : s[k] = 47 ∨ s[k] = 64) : hasAt s.data.toList = true := by
  unfold hasAt
  rw [List.any_eq_true]
  exact ⟨s[k], List.getElem_mem (l := s.data.toList) (by simpa using h), by rcases e with e | e <;> rw [e] <;> rfl⟩

theorem hasAt_no (s : ByteArray) (h : ∀ k (h : k < s.size), s[k] ≠ 47 ∧ s[k] ≠ 64) : hasAt s.data.toList = false := by
  unfold hasAt
  rw [List.any_eq_false]
  intro b hb
  obtain ⟨k, hk, rfl⟩ := List.getElem_of_mem hb
  have := h k (by simpa using hk)
  have e : s.data.toList[k] = s[k] := rfl
  rw [e]
  simp [this.1, this.2]

theorem indexAny_hasAt : ∀ L : List UInt8, decide (0 ≤ Lib.indexAny L [47, 64]) = hasAt L
  | [] => rfl
  | b :: L => by
    have ih := indexAny_hasAt L
    have hge := Lib.indexAny_ge [47, 64] L
    unfold hasAt at ih ⊢
    rw [Lib.indexAny, List.any_cons, ← ih]
    by_cases hb : (b == 47 || b == 64) = true
    · have hc : ([47, 64] : List UInt8).contains b = true := by simpa using hb
      rw [hc, hb]; rfl
    · have hb' : (b == 47 || b == 64) = false := by simpa using hb
      have hc : ([47, 64] : List UInt8).contains b = false := by simpa using hb
      rw [hc, hb']
      by_cases h1 : Lib.indexAny L [47, 64] = -1
      · rw [h1]; rfl
      · have h1' : (Lib.indexAny L [47, 64] == -1) = false := by simpa using h1
        rw [h1']
        simp
        omega

theorem runeIn_slash (r : Int) (h0 : 0 ≤ r) : (0 ≤ runeIn ⟨#[47, 64]⟩ r) ↔ (r = 47 ∨ r = 64) := by
  unfold runeIn
  by_cases h : r < 128
  · rw [if_pos h]
    obtain ⟨n, rfl⟩ := Int.eq_ofNat_of_zero_le h0
    have hn : n < 128 := by omega
    have e : ∀ n : Fin 128, (0 ≤ Lib.indexByte (⟨#[47, 64]⟩ : ByteArray).data.toList ((n.val : Int)).toNat.toUInt8) ↔ ((n.val : Int) = 47 ∨ (n.val : Int) = 64) := by decide
    exact e ⟨n, hn⟩
  · rw [if_neg h]
    omega

/-- A number comes back that is not negative just where b holds. -/
def Finds (e : Ending) (b : Bool) : Prop := ∃ k : Int, e = .returned (.int .i64 k) ∧ decide (0 ≤ k) = b

theorem slashAt_ascii : Ascii ⟨#[47, 64]⟩ := by
  intro k h
  have : k = 0 ∨ k = 1 := by
    have : (⟨#[47, 64]⟩ : ByteArray).size = 2 := rfl
    omega
  rcases this with rfl | rfl
  · show (47 : UInt8).toNat < 128; decide
  · show (64 : UInt8).toNat < 128; decide

/-- One step of a range over a text, for a search of the two signs. -/
theorem step_facts (s : ByteArray) (pos : Nat) (hp : pos < s.size) : ∃ R W : Nat, Utf8.decode s pos = (R, W) ∧ R ≤ 1114111 ∧ Lib.validRune (R : Int) = true ∧ 1 ≤ W ∧ pos + W ≤ s.size ∧
    ((R = 47 ∨ R = 64) → s[pos] = 47 ∨ s[pos] = 64) ∧ (¬ (R = 47 ∨ R = 64) → ∀ k (h : k < s.size), pos ≤ k → k < pos + W → s[k] ≠ 47 ∧ s[k] ≠ 64) := by
  by_cases ha : s[pos].toNat < 128
  · refine ⟨s[pos].toNat, 1, decode_ascii s pos hp ha, by omega, ?_, by omega, by omega, ?_, ?_⟩
    · unfold Lib.validRune; rw [decide_eq_true_eq]; omega
    · rintro (h | h)
      · exact .inl (UInt8.toNat.inj (by show s[pos].toNat = 47; exact h))
      · exact .inr (UInt8.toNat.inj (by show s[pos].toNat = 64; exact h))
    · intro hn k hk h1 h2
      obtain rfl : k = pos := by omega
      refine ⟨fun e => hn (.inl ?_), fun e => hn (.inr ?_)⟩
      · rw [e]; rfl
      · rw [e]; rfl
  · obtain ⟨f1, f2, f3, f4, f5, f6⟩ := decode_span s pos hp (by omega)
    refine ⟨(Utf8.decode s pos).1, (Utf8.decode s pos).2, rfl, f2, f3, f4, f5, fun h => by omega, fun _ k hk h1 h2 => ?_⟩
    have := f6 k hk h1 h2
    refine ⟨fun e => ?_, fun e => ?_⟩
    · rw [e] at this; exact absurd this (by decide)
    · rw [e] at this; exact absurd this (by decide)

set_option maxHeartbeats 4000000 in
set_option maxRecDepth 1000000 in
theorem indexAny_short (s : ByteArray) (w : World) (h8 : s.size ≤ 8) :
    Calls Try.prog 38 #[.string s, .string ⟨#[47, 64]⟩] w fun e w' => Finds e (hasAt s.data.toList) ∧ Below w.heap.size w w' := by
  have hu := Any.strings_shouldUseASCIISet Try.lays226 s.size w
  have h8z : decide ((8 : Int) < (s.size : Int)) = false := decide_eq_false (by omega)
  rw [h8z] at hu
  go_enter Try.func38, Try.ntmps38
  go_wp2_with (go_at_call 44; refine hu.mono ?_; rintro e w' ⟨rfl, hw⟩; have hw' := hw.symm; subst hw')
  clear hu
  go_loopg [9, 10] s.size (fun g _ _ wx => ∃ pos : Nat, pos + g = s.size ∧ wx.heap[w.heap.size]? = some (.stringIter s pos) ∧ Below w.heap.size w wx ∧ ∀ k (h : k < s.size), k < pos → s[k] ≠ 47 ∧ s[k] ≠ 64)
  case atStart => exact ⟨0, by omega, World.iter_heap w s 0, below_iter w s 0, fun k h hk => absurd hk (by omega)⟩
  case round =>
    obtain ⟨pos, hig, hit, hbw, hno⟩ := hrel
    have hsz : w.heap.size < wr.heap.size := (Array.getElem?_eq_some_iff.1 hit).1
    by_cases hp : pos < s.size
    · obtain ⟨R, W, hD, hR2, hRv, hW1, hW2, hyes, hnot⟩ := step_facts s pos hp
      have hnx : ∀ ty, (Instr.next (.pointer (some ⟨w.heap.size, 0, none⟩)) true ty).run Try.prog wr = _ := fun ty => Lib.run_next_any_at wr w.heap.size s pos ty hit hp
      simp only [hD] at hnx
      have hit2 := Lib.iterAt_heap wr w.heap.size s pos (pos + W) hit
      have hbw2 := Lib.below_iterAt hbw (k := w.heap.size) (Nat.le_refl _) s (pos + W)
      have hsz2 : w.heap.size < (wr.iterAt w.heap.size s (pos + W)).heap.size := by rw [Lib.iterAt_size]; exact hsz
      have hcon := indexRune_all ⟨#[47, 64]⟩ (R : Int) (wr.iterAt w.heap.size s (pos + W)) (by omega) (by omega) hRv slashAt_ascii (by show 2 ≤ 8; omega)
      have hiff := runeIn_slash (R : Int) (by omega)
      obtain ⟨q, hq⟩ : ∃ q, runeIn ⟨#[47, 64]⟩ (R : Int) = q := ⟨_, rfl⟩
      rw [hq] at hcon hiff
      clear hit hbw hD hRv hq
      generalize wr.iterAt w.heap.size s (pos + W) = wn at hnx hit2 hbw2 hsz2 hcon
      by_cases hq0 : 0 ≤ q
      · have HY : Hid (hasAt s.data.toList = true) := hasAt_yes s pos hp (hyes (by have := hiff.1 hq0; omega))
        clear hno hyes hnot hiff
        go_wp2_with (go_at_call 40; refine hcon.mono ?_; rintro e w' ⟨rfl, hb3⟩)
        go_ret
        refine ⟨⟨pos, rfl, ?_⟩, hbw2.trans (hb3.mono (by omega))⟩
        rw [HY.out]
        exact decide_eq_true (by omega)
      · have HN : Hid (∀ k (h : k < s.size), k < pos + W → s[k] ≠ 47 ∧ s[k] ≠ 64) := by
          intro k h hk
          by_cases hkp : k < pos
          · exact hno k h hkp
          · exact hnot (fun h => hq0 (hiff.2 (by omega))) k h (by omega) hk
        clear hno hyes hnot hiff
        go_wp2_with (go_at_call 40; refine hcon.mono ?_; rintro e w' ⟨rfl, hb3⟩)
        go_roundg (gk - W)
        case measure => omega
        case rel =>
          exact ⟨pos + W, by omega, by rw [hb3.block _ hsz2]; exact hit2, hbw2.trans (hb3.mono (by omega)), HN.out⟩
    · have hnx : ∀ ty, (Instr.next (.pointer (some ⟨w.heap.size, 0, none⟩)) true ty).run Try.prog wr = _ := fun ty => Lib.run_next_end_at wr w.heap.size s pos ty hit hp
      have HN : Hid (hasAt s.data.toList = false) := hasAt_no s fun k h => hno k h (by omega)
      clear hno
      go_wp2
      go_ret
      exact ⟨⟨-1, rfl, by rw [HN.out]; rfl⟩, hbw⟩

theorem indexAny_all (s : ByteArray) (w : World) (hs : s.size ≤ 1048576) :
    Calls Try.prog 38 #[.string s, .string ⟨#[47, 64]⟩] w fun e w' => Finds e (hasAt s.data.toList) ∧ Below w.heap.size w w' := by
  by_cases h8 : s.size ≤ 8
  · exact indexAny_short s w h8
  · have hz : ∀ w, (zeroValue 69).run Try.prog w = .ok (.agg (Array.replicate 256 (.bool false))) w := fun w => by kernel_rfl
    have h := Any.strings_IndexAny_long Try.lays153 hz (by kernel_rfl) s ⟨#[47, 64]⟩ w (by show 2 ≤ 2; omega) (by omega) (by omega) (by show 2 < _; omega) (by
      intro j b hb
      have hm := List.mem_of_getElem? hb
      exact Ascii.mem slashAt_ascii b hm)
    refine h.mono fun e w' ⟨he, hw⟩ => ⟨⟨_, he, indexAny_hasAt _⟩, ?_⟩
    rw [hw]
    exact ((Below.refl _ _).alloc (Nat.le_refl _) _).alloc (by simp) _

/-- strings.ContainsAny at "/@". -/
theorem containsAny_all (s : ByteArray) (w : World) (hs : s.size ≤ 1048576) :
    Calls Try.prog 30 #[.string s, .string ⟨#[47, 64]⟩] w fun e w' => e = .returned (.bool (hasAt s.data.toList)) ∧ Below w.heap.size w w' := by
  have hcon := indexAny_all s w hs
  generalize hasAt s.data.toList = b at hcon ⊢
  go_enter Try.func30, Try.ntmps30
  go_wp2_with fail
  refine hcon.mono ?_
  rintro e w' ⟨⟨k, rfl, hk⟩, hb⟩
  subst hk
  go_wp2
  go_ret
  exact ⟨rfl, hb⟩

end Go.Proofs.Qxb6000831a
