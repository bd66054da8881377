/-
  Plain laws: a rune's bytes as a valid text holds them; the unescaping of a list of bytes.
-/
import Derived.Test.Qxb6000831aAny
import Derived.Lib.RuneBytes
namespace Go.Proofs.Qxb6000831a
open Go.ChangeShapes Go.WideShapes Go.ChangeAt Go.RowKit
set_option linter.unusedVariables false

/-- The bytes b0 .. are the UTF-8 form of a rune, of n + 1 bytes. -/
def OkN (n b0 b1 b2 b3 : Nat) : Prop :=
  (n = 0 ∧ b0 < 128) ∨
  (n = 1 ∧ 194 ≤ b0 ∧ b0 ≤ 223 ∧ 128 ≤ b1 ∧ b1 ≤ 191) ∨
  (n = 2 ∧ ((b0 = 224 ∧ 160 ≤ b1 ∧ b1 ≤ 191) ∨ (225 ≤ b0 ∧ b0 ≤ 236 ∧ 128 ≤ b1 ∧ b1 ≤ 191) ∨ (b0 = 237 ∧ 128 ≤ b1 ∧ b1 ≤ 159) ∨ (238 ≤ b0 ∧ b0 ≤ 239 ∧ 128 ≤ b1 ∧ b1 ≤ 191)) ∧ 128 ≤ b2 ∧ b2 ≤ 191) ∨
  (n = 3 ∧ ((b0 = 240 ∧ 144 ≤ b1 ∧ b1 ≤ 191) ∨ (241 ≤ b0 ∧ b0 ≤ 243 ∧ 128 ≤ b1 ∧ b1 ≤ 191) ∨ (b0 = 244 ∧ 128 ≤ b1 ∧ b1 ≤ 143)) ∧ 128 ≤ b2 ∧ b2 ≤ 191 ∧ 128 ≤ b3 ∧ b3 ≤ 191)

def upTo (n b0 b1 b2 b3 : Nat) : List Int := ([(b0 : Int), b1, b2, b3]).take (n + 1)

set_option maxRecDepth 100000 in
set_option maxHeartbeats 4000000 in
theorem dec_enc (N n b0 b1 b2 b3 : Nat) (hN : n < N) (h : OkN n b0 b1 b2 b3) :
    (Lib.decodeN N b0 b1 b2 b3).2 = n + 1 ∧ Lib.encodeRuneZ ((Lib.decodeN N b0 b1 b2 b3).1 : Int) = upTo n b0 b1 b2 b3 := by
  rcases h with ⟨rfl, h⟩ | ⟨rfl, h⟩ | ⟨rfl, h⟩ | ⟨rfl, h⟩
  · have e : Lib.decodeN N b0 b1 b2 b3 = (b0, 1) := by
      unfold Lib.decodeN
      rw [if_pos h]
    rw [e]
    exact ⟨rfl, Lib.encodeRuneZ_one (by omega) (by omega)⟩
  · have e : Lib.decodeN N b0 b1 b2 b3 = (b0 % 32 * 64 + b1 % 64, 2) := by
      unfold Lib.decodeN
      rw [if_neg (by omega), if_pos (by omega), if_pos (by omega)]
    rw [e]
    refine ⟨rfl, (Lib.encodeRuneZ_two (by omega) (by omega)).trans ?_⟩
    unfold upTo
    simp only [List.take, List.cons.injEq, and_true]
    omega
  · have e : Lib.decodeN N b0 b1 b2 b3 = (b0 % 16 * 4096 + b1 % 64 * 64 + b2 % 64, 3) := by
      unfold Lib.decodeN
      rw [if_neg (by omega), if_neg (by omega), if_pos (by omega), if_pos (by omega)]
    rw [e]
    refine ⟨rfl, (Lib.encodeRuneZ_three (by omega)).trans ?_⟩
    unfold upTo
    simp only [List.take, List.cons.injEq, and_true]
    omega
  · have e : Lib.decodeN N b0 b1 b2 b3 = (b0 % 8 * 262144 + b1 % 64 * 4096 + b2 % 64 * 64 + b3 % 64, 4) := by
      unfold Lib.decodeN
      rw [if_neg (by omega), if_neg (by omega), if_neg (by omega), if_pos (by omega), if_pos (by omega)]
    rw [e]
    refine ⟨rfl, (Lib.encodeRuneZ_four (by omega) (by omega)).trans ?_⟩
    unfold upTo
    simp only [List.take, List.cons.injEq, and_true]
    omega

/-- At a place of a text the bytes are the form of a rune, of n + 1 bytes. -/
def OkAt (s : ByteArray) (pos n : Nat) : Prop :=
  pos + n < s.size ∧ OkN n (s.get! pos).toNat (s.get! (pos + 1)).toNat (s.get! (pos + 2)).toNat (s.get! (pos + 3)).toNat

/-- From the place on, rune by rune, to the end, in f runes. -/
def goodN (s : ByteArray) : Nat → Nat → Prop
  | 0, pos => pos = s.size
  | f + 1, pos => ∃ n, OkAt s pos n ∧ goodN s f (pos + (n + 1))

def Good (s : ByteArray) (pos : Nat) : Prop := ∃ f, goodN s f pos

theorem Good.done {s : ByteArray} : Good s s.size := ⟨0, rfl⟩
theorem Good.step {s : ByteArray} (pos n : Nat) (h : OkAt s pos n) (g : Good s (pos + (n + 1))) : Good s pos := by
  obtain ⟨f, hf⟩ := g
  exact ⟨f + 1, n, h, hf⟩
theorem Good.parts {s : ByteArray} {pos : Nat} (h : Good s pos) : pos = s.size ∨ ∃ n, OkAt s pos n ∧ Good s (pos + (n + 1)) := by
  obtain ⟨f, hf⟩ := h
  cases f with
  | zero => exact .inl hf
  | succ f =>
    obtain ⟨n, h1, h2⟩ := hf
    exact .inr ⟨n, h1, f, h2⟩

theorem Good.le {s : ByteArray} {pos : Nat} (h : Good s pos) : pos ≤ s.size := by
  rcases h.parts with h | ⟨n, h, _⟩
  · omega
  · have := h.1; omega

theorem OkN.le {n b0 b1 b2 b3 : Nat} (h : OkN n b0 b1 b2 b3) : n ≤ 3 := by unfold OkN at h; omega

/-- The bytes of the text from the place on. -/
def sub (s : ByteArray) (pos n : Nat) : List UInt8 := (s.data.toList.drop pos).take n

theorem take_sub (s : ByteArray) (pos n : Nat) : s.data.toList.take (pos + n) = s.data.toList.take pos ++ sub s pos n := by
  unfold sub
  rw [List.take_add]

theorem sub_eq (s : ByteArray) (pos n : Nat) (h : pos + n < s.size) (hn : n ≤ 3) :
    sub s pos (n + 1) = ([s.get! pos, s.get! (pos + 1), s.get! (pos + 2), s.get! (pos + 3)] : List UInt8).take (n + 1) := by
  apply List.ext_getElem?
  intro i
  unfold sub
  rw [List.getElem?_take, List.getElem?_take, List.getElem?_drop]
  by_cases hi : i < n + 1
  · rw [if_pos hi, if_pos hi]
    have hlt : pos + i < s.size := by omega
    have e : s.data.toList[pos + i]? = some (s.get! (pos + i)) := by
      rw [get_at s _ hlt]
      exact List.getElem?_eq_getElem (l := s.data.toList) (by simpa using hlt)
    rw [e]
    have : i = 0 ∨ i = 1 ∨ i = 2 ∨ i = 3 := by omega
    rcases this with rfl | rfl | rfl | rfl <;> rfl
  · rw [if_neg hi, if_neg hi]

theorem OkN.facts {n b0 b1 b2 b3 : Nat} (h : OkN n b0 b1 b2 b3) (N : Nat) (hN : n < N) :
    (Lib.decodeN N b0 b1 b2 b3).1 ≤ 1114111 ∧ ((Lib.decodeN N b0 b1 b2 b3).1 < 55296 ∨ 57343 < (Lib.decodeN N b0 b1 b2 b3).1) ∧
    (((Lib.decodeN N b0 b1 b2 b3).1 < 128 ∧ n = 0 ∧ b0 = (Lib.decodeN N b0 b1 b2 b3).1) ∨ (128 ≤ (Lib.decodeN N b0 b1 b2 b3).1 ∧ 128 ≤ b0 ∧ (1 ≤ n → 128 ≤ b1) ∧ (2 ≤ n → 128 ≤ b2) ∧ (3 ≤ n → 128 ≤ b3))) := by
  rcases h with ⟨rfl, h⟩ | ⟨rfl, h⟩ | ⟨rfl, h⟩ | ⟨rfl, h⟩
  · have e : Lib.decodeN N b0 b1 b2 b3 = (b0, 1) := by
      unfold Lib.decodeN
      rw [if_pos h]
    rw [e]
    exact ⟨by show b0 ≤ _; omega, by show b0 < _ ∨ _ < b0; omega, .inl ⟨h, rfl, rfl⟩⟩
  · have e : Lib.decodeN N b0 b1 b2 b3 = (b0 % 32 * 64 + b1 % 64, 2) := by
      unfold Lib.decodeN
      rw [if_neg (by omega), if_pos (by omega), if_pos (by omega)]
    rw [e]
    simp only
    omega
  · have e : Lib.decodeN N b0 b1 b2 b3 = (b0 % 16 * 4096 + b1 % 64 * 64 + b2 % 64, 3) := by
      unfold Lib.decodeN
      rw [if_neg (by omega), if_neg (by omega), if_pos (by omega), if_pos (by omega)]
    rw [e]
    simp only
    omega
  · have e : Lib.decodeN N b0 b1 b2 b3 = (b0 % 8 * 262144 + b1 % 64 * 4096 + b2 % 64 * 64 + b3 % 64, 4) := by
      unfold Lib.decodeN
      rw [if_neg (by omega), if_neg (by omega), if_neg (by omega), if_pos (by omega), if_pos (by omega)]
    rw [e]
    simp only
    omega

/-- A round of a range over a text that is good from the place on. -/
theorem good_step {s : ByteArray} {pos : Nat} (h : Good s pos) (hp : pos < s.size) : ∃ R W : Nat, Utf8.decode s pos = (R, W) ∧ R ≤ 1114111 ∧ Lib.validRune (R : Int) = true ∧ 1 ≤ W ∧ pos + W ≤ s.size ∧ Good s (pos + W) ∧
    Lib.encodeRune (R : Int) = sub s pos W ∧ ((R < 128 ∧ sub s pos W = [R.toUInt8]) ∨ (128 ≤ R ∧ ∀ b ∈ sub s pos W, 128 ≤ b.toNat)) := by
  rcases h.parts with h | ⟨n, hk, hg⟩
  · omega
  · obtain ⟨hlt, hok⟩ := hk
    have hn := hok.le
    have hde := dec_enc (s.size - pos) n _ _ _ _ (by omega) hok
    obtain ⟨f1, f2, f3⟩ := hok.facts (s.size - pos) (by omega)
    rw [← Lib.decode_at] at hde f1 f2 f3
    obtain ⟨h1, h2⟩ := hde
    obtain ⟨R, W, hD⟩ : ∃ R W, Utf8.decode s pos = (R, W) := ⟨_, _, rfl⟩
    rw [hD] at h1 h2 f1 f2 f3
    simp only at h1 h2 f1 f2 f3
    subst h1
    have hsub := sub_eq s pos n hlt hn
    have hn4 : n = 0 ∨ n = 1 ∨ n = 2 ∨ n = 3 := by omega
    refine ⟨R, n + 1, hD, f1, ?_, by omega, by omega, hg, ?_, ?_⟩
    · unfold Lib.validRune; rw [decide_eq_true_eq]; omega
    · unfold Lib.encodeRune
      rw [h2, hsub]
      unfold upTo
      rcases hn4 with rfl | rfl | rfl | rfl <;> simp
    · rcases f3 with ⟨g1, rfl, g2⟩ | ⟨g1, g2, g3, g4, g5⟩
      · left
        refine ⟨g1, ?_⟩
        rw [hsub, ← g2]
        simp
      · right
        refine ⟨g1, ?_⟩
        rw [hsub]
        intro b hb
        rcases hn4 with rfl | rfl | rfl | rfl <;> simp at hb g3 g4 g5 <;> rcases hb with rfl | rfl | rfl | rfl <;> first | assumption | (exact g2)

/-- unescapeValue on lists of bytes. -/
def unesc : List UInt8 → List UInt8
  | [] => []
  | [b] => [b]
  | b :: c :: L => if b = 92 then c :: unesc L else b :: unesc (c :: L)

theorem unesc_plain (b : UInt8) (L : List UInt8) (h : b ≠ 92) : unesc (b :: L) = b :: unesc L := by
  cases L with
  | nil => rfl
  | cons c L => rw [unesc, if_neg h]

theorem unesc_esc (c : UInt8) (L : List UInt8) : unesc (92 :: c :: L) = c :: unesc L := by
  rw [unesc, if_pos rfl]

theorem unesc_all : ∀ (A L : List UInt8), (∀ b ∈ A, b ≠ 92) → unesc (A ++ L) = A ++ unesc L
  | [], _, _ => rfl
  | b :: A, L, h => by
    rw [List.cons_append, unesc_plain b _ (h b (by simp)), unesc_all A L (fun x hx => h x (by simp [hx])), List.cons_append]

theorem unesc_length : ∀ n, ∀ L : List UInt8, L.length ≤ n → (unesc L).length ≤ L.length
  | _, [], _ => Nat.le_refl _
  | _, [b], _ => Nat.le_refl _
  | 0, b :: c :: L, h => by simp at h
  | n + 1, b :: c :: L, h => by
    simp at h
    unfold unesc
    split
    · have := unesc_length n L (by omega)
      simp; omega
    · have := unesc_length n (c :: L) (by simp; omega)
      simp at this ⊢; omega

/-- e is v, escaped. -/
def Escaped (e v : List UInt8) : Prop := ∀ L, unesc (e ++ L) = v ++ unesc L

theorem Escaped.nil : Escaped [] [] := fun _ => rfl
theorem Escaped.all {e v A : List UInt8} (h : Escaped e v) (hA : ∀ b ∈ A, b ≠ 92) : Escaped (e ++ A) (v ++ A) := fun L => by
  rw [List.append_assoc, h, unesc_all A L hA, List.append_assoc]
theorem Escaped.esc {e v : List UInt8} (c : UInt8) (h : Escaped e v) : Escaped (e ++ [92] ++ [c]) (v ++ [c]) := fun L => by
  rw [List.append_assoc, List.append_assoc, h, List.append_assoc]
  show v ++ unesc (92 :: c :: L) = _
  rw [unesc_esc]
  rfl
theorem Escaped.out {e v : List UInt8} (h : Escaped e v) : unesc e = v := by
  have := h []
  rw [List.append_nil] at this
  rw [this]
  exact List.append_nil _

/-! ### The eight signs -/
def signs : ByteArray := ⟨#[44, 43, 34, 92, 60, 62, 59, 35]⟩
theorem signs_ascii : Ascii signs := by
  intro k h
  have hs : signs.size = 8 := rfl
  have e : ∀ k : Fin 8, (signs.data.toList[k.val]'(by have := k.isLt; show k.val < 8; omega)).toNat < 128 := by decide
  exact e ⟨k, by omega⟩

/-- A rune that is found among the signs is ASCII; the backslash is among them. -/
theorem runeIn_signs (r : Int) (h0 : 0 ≤ r) : (0 ≤ runeIn signs r → r < 128) ∧ (¬ 0 ≤ runeIn signs r → r ≠ 92) := by
  unfold runeIn
  by_cases h : r < 128
  · rw [if_pos h]
    refine ⟨fun _ => h, fun hn e => hn ?_⟩
    subst e
    decide
  · rw [if_neg h]
    refine ⟨fun h => by omega, fun _ => by omega⟩
end Go.Proofs.Qxb6000831a
