/-
  escapeValue at a valid text: what comes back is the text, escaped.
-/
import Derived.Test.Qxb6000831aBld
import Derived.Test.Qxb6000831aUtf
import Derived.BigCall
namespace Go.Proofs.Qxb6000831a
open Go.ChangeShapes Go.WideShapes Go.ChangeAt Go.RowKit
set_option linter.unusedVariables false

/-- What lies below is kept: the builder with it. -/
theorem builder_kept {B b : Nat} {bs : List Value} {w w' : World} (h : Lib.IsBuilderF 53 5 B b bs w) (hb : Below w.heap.size w w') : Lib.IsBuilderF 53 5 B b bs w' := by
  have one : ∀ p, Lib.BuilderAtF 53 5 B b p bs w → Lib.BuilderAtF 53 5 B b p bs w' := by
    rintro p ⟨hB, v, hbk, hown, hne⟩
    have hlt : b < w.heap.size := (Array.getElem?_eq_some_iff.1 hbk).1
    refine ⟨hB, v, by rw [hb.block b hlt]; exact hbk, ⟨hown.1, ?_⟩, hne⟩
    rcases hown.2 with h | ⟨g, cap, cur, fz, hv, hg, hc, hr⟩
    · exact .inl h
    · have hgl : g < w.heap.size := (Array.getElem?_eq_some_iff.1 hc).1
      exact .inr ⟨g, cap, cur, fz, hv, hg, by rw [hb.block g hgl]; exact hc, hr⟩
  rcases h with h | h
  · exact .inl (one _ h)
  · exact .inr (one _ h)

/-- strings.ContainsRune at the eight signs. -/
theorem containsRune_all (r : Int) (w : World) (h0 : 0 ≤ r) (h2 : r ≤ 1114111) (hv : Lib.validRune r = true) :
    Calls Try.prog 32 #[.string ⟨#[44, 43, 34, 92, 60, 62, 59, 35]⟩, .int .i32 r] w fun e w' => e = .returned (.bool (decide (0 ≤ runeIn signs r))) ∧ Below w.heap.size w w' := by
  have hcon : Calls Try.prog 40 #[.string ⟨#[44, 43, 34, 92, 60, 62, 59, 35]⟩, .int .i32 r] w fun e w' => e = .returned (.int .i64 (runeIn signs r)) ∧ Below w.heap.size w w' :=
    indexRune_all signs r w h0 h2 hv signs_ascii (by decide)
  generalize runeIn signs r = q at hcon ⊢
  clear hv
  go_enter Try.func32, Try.ntmps32
  go_wp2_with (go_at_call 40; refine hcon.mono ?_; rintro e w' ⟨rfl, hb⟩)
  go_ret
  exact ⟨rfl, hb⟩

set_option maxHeartbeats 4000000 in
set_option maxRecDepth 1000000 in
theorem escape_any (s : ByteArray) (w : World) (hs : s.size ≤ 1048576) (hg : Good s 0) :
    Calls Try.prog 27 #[.string s] w fun e w' => (∃ acc : List UInt8, e = .returned (.string ⟨acc.toArray⟩) ∧ unesc acc = s.data.toList ∧ acc.length ≤ 5 * s.size) ∧ Below w.heap.size w w' := by
  have HG : Hid (Good s 0) := hg
  clear hg
  go_enter Try.func27, Try.ntmps27
  go_wp2
  go_loopw [4, 5] (fun _ _ wr => ∃ (pos : Nat) (acc : List UInt8), Lib.IsBuilderF 53 5 w.heap.size w.heap.size (Lib.byteCells acc) wr ∧ wr.heap[w.heap.size + 1]? = some (.stringIter s pos) ∧ Below w.heap.size w wr ∧ Good s pos ∧ Escaped acc (s.data.toList.take pos) ∧ acc.length ≤ 5 * pos) (fun _ _ wr => s.size - wr.iterPos (w.heap.size + 1))
  case atStart =>
    refine ⟨0, [], (Lib.IsBuilderF.of (Lib.fresh_isBuilder 53 5 w)).alloc _, ?_, ((Below.refl _ w).alloc (Nat.le_refl _) _).alloc (by simp) _, HG.out, Escaped.nil, by simp⟩
    have := World.iter_heap (w.alloc (.cells #[.pointer none, .slice none 0 0] 53)) s 0
    simpa using this
  case round =>
    obtain ⟨pos, acc, hI, hit, hbw, hgood, hesc, hal⟩ := hrel
    have hsz : w.heap.size + 1 < wr.heap.size := (Array.getElem?_eq_some_iff.1 hit).1
    by_cases hp : pos < s.size
    · obtain ⟨R, W, hD, hR2, hRv, hW1, hW2, hg2, henc, hcl⟩ := good_step hgood hp
      have hnx : ∀ ty, (Instr.next (.pointer (some ⟨w.heap.size + 1, 0, none⟩)) true ty).run Try.prog wr = _ := fun ty => Lib.run_next_any_at wr (w.heap.size + 1) s pos ty hit hp
      simp only [hD] at hnx
      have hI2 := hI.iterAt hit (pos + W)
      have hit2 := Lib.iterAt_heap wr (w.heap.size + 1) s pos (pos + W) hit
      have hbw2 := Lib.below_iterAt hbw (k := w.heap.size + 1) (by omega) s (pos + W)
      have hsz2 : w.heap.size + 1 < (wr.iterAt (w.heap.size + 1) s (pos + W)).heap.size := by rw [Lib.iterAt_size]; omega
      have hcon := containsRune_all (R : Int) (wr.iterAt (w.heap.size + 1) s (pos + W)) (by omega) (by omega) hRv
      obtain ⟨hs1, hs2⟩ := runeIn_signs (R : Int) (by omega)
      obtain ⟨q, hq⟩ : ∃ q, runeIn signs (R : Int) = q := ⟨_, rfl⟩
      rw [hq] at hcon hs1 hs2
      have hl4 := Lib.runeCells_le (R : Int)
      rw [Lib.runeCells_length] at hl4
      have hmeas : wr.iterPos (w.heap.size + 1) = pos := by simp only [World.iterPos, hit]
      clear hD hRv hq hI hit hbw hgood
      generalize wr.iterAt (w.heap.size + 1) s (pos + W) = wn at hnx hI2 hit2 hbw2 hsz2 hcon
      have HG2 : Hid (Good s (pos + W)) := hg2
      have HE : Hid (Escaped acc (s.data.toList.take pos)) := hesc
      have HC : Hid (Lib.encodeRune (R : Int) = sub s pos W) := henc
      have HL : Hid ((R < 128 ∧ sub s pos W = [R.toUInt8]) ∨ (128 ≤ R ∧ ∀ b ∈ sub s pos W, 128 ≤ b.toNat)) := hcl
      clear hg2 hesc henc hcl
      have hEsc : R < 128 → Hid (Escaped (acc ++ [92] ++ Lib.encodeRune (R : Int)) (s.data.toList.take (pos + W))) := by
        intro hr
        rw [HC.out, take_sub]
        rcases HL.out with ⟨_, h⟩ | ⟨h, _⟩
        · rw [h]; exact HE.out.esc _
        · omega
      have hPlain : R ≠ 92 → Hid (Escaped (acc ++ Lib.encodeRune (R : Int)) (s.data.toList.take (pos + W))) := by
        intro hr
        rw [HC.out, take_sub]
        refine HE.out.all ?_
        rcases HL.out with ⟨h1, h⟩ | ⟨_, h⟩
        · rw [h]
          intro b hb
          simp at hb
          subst hb
          intro e
          have := congrArg UInt8.toNat e
          simp at this
          omega
        · intro b hb e
          have := h b hb
          rw [e] at this
          exact absurd this (by decide)
      clear HE HC HL
      -- behind the write of the backslash (or none): the rune itself, and the round's end
      by_cases hq0 : 0 ≤ q
      · have HX := hEsc (by have := hs1 hq0; omega)
        rw [decide_eq_true hq0] at hcon
        clear hEsc hPlain hs1 hs2
        go_wp2_with (go_at_call 32; refine hcon.mono ?_)
        rintro e w1 ⟨rfl, b1⟩
        have hI3 := builder_kept hI2 b1
        have hit3 : w1.heap[w.heap.size + 1]? = some (.stringIter s (pos + W)) := by rw [b1.block _ hsz2]; exact hit2
        have hbw3 := hbw2.trans (b1.mono (by omega))
        have hsz3 : w.heap.size + 1 < w1.heap.size := (Array.getElem?_eq_some_iff.1 hit3).1
        clear hcon hI2 hit2 hbw2
        have hcW := writeByte_k w.heap.size w.heap.size _ 92 w1 hI3 (by rw [Lib.byteCells_length]; omega) (by omega)
        go_wp2_with (go_at_call 33; refine hcW.mono ?_)
        rintro e w2 ⟨rfl, h2, b2, k2⟩
        have hI4 : Lib.IsBuilderF 53 5 w.heap.size w.heap.size (Lib.byteCells (acc ++ [92])) w2 := by rw [Lib.byteCells_append]; exact Or.inr h2
        have hit4 := k2.iter hit3 (by omega)
        have hbw4 := hbw3.trans b2
        have hsz4 : w.heap.size + 1 < w2.heap.size := (Array.getElem?_eq_some_iff.1 hit4).1
        clear hcW hI3 hit3 hbw3
        have hcR := writeRune_k w.heap.size w.heap.size _ (R : Int) (by omega) (by omega) w2 hI4 (by rw [Lib.byteCells_length, List.length_append, List.length_singleton]; omega) (by omega)
        go_wp2_with (go_at_call 34; refine hcR.mono ?_)
        rintro e w3 ⟨rfl, h3, b3, k3⟩
        go_wp2
        go_roundw
        case rel =>
          refine ⟨pos + W, acc ++ [92] ++ Lib.encodeRune (R : Int), ?_, k3.iter hit4 (by omega), hbw4.trans b3, HG2.out, HX.out, by simp only [List.length_append, List.length_singleton]; omega⟩
          rw [Lib.byteCells_append, Lib.byteCells_encodeRune]; exact Or.inr h3
        case measure =>
          simp only [World.iterPos, k3.iter hit4 (by omega)]
          simp only [World.iterPos] at hmeas
          rw [hmeas]
          omega
      · rw [decide_eq_false hq0] at hcon
        have hwrap : IntKind.i64.wrap ((s.size : Int) - 1) = (s.size : Int) - 1 := by rw [IntKind.wrap_i64]; omega
        by_cases h32 : R = 32
        · have t32 : ((R : Int) == 32) = true := by rw [h32]; rfl
          by_cases hz : pos = 0
          · have HX := hEsc (by omega)
            have tz : ((pos : Int) == 0) = true := by rw [hz]; rfl
            clear hEsc hPlain hs1 hs2 h32
            go_wp2_with (first | (go_at_call 32; refine hcon.mono ?_; rintro e w1 ⟨rfl, b1⟩) | (go_at_call 33; refine (writeByte_k w.heap.size w.heap.size _ 92 w1 (builder_kept hI2 b1) (by rw [Lib.byteCells_length]; omega) (by have := b1.size; omega)).mono ?_))
            rintro e w2 ⟨rfl, h2, b2, k2⟩
            have hit3 : w1.heap[w.heap.size + 1]? = some (.stringIter s (pos + W)) := by rw [b1.block _ hsz2]; exact hit2
            have hbw3 := hbw2.trans (b1.mono (by omega))
            have hsz3 : w.heap.size + 1 < w1.heap.size := (Array.getElem?_eq_some_iff.1 hit3).1
            have hI4 : Lib.IsBuilderF 53 5 w.heap.size w.heap.size (Lib.byteCells (acc ++ [92])) w2 := by rw [Lib.byteCells_append]; exact Or.inr h2
            have hit4 := k2.iter hit3 (by omega)
            have hbw4 := hbw3.trans b2
            have hsz4 : w.heap.size + 1 < w2.heap.size := (Array.getElem?_eq_some_iff.1 hit4).1
            have hcR := writeRune_k w.heap.size w.heap.size _ (R : Int) (by omega) (by omega) w2 hI4 (by rw [Lib.byteCells_length, List.length_append, List.length_singleton]; omega) (by omega)
            go_wp2_with (go_at_call 34; refine hcR.mono ?_)
            rintro e w3 ⟨rfl, h3, b3, k3⟩
            go_wp2
            go_roundw
            case rel =>
              refine ⟨pos + W, acc ++ [92] ++ Lib.encodeRune (R : Int), ?_, k3.iter hit4 (by omega), hbw4.trans b3, HG2.out, HX.out, by simp only [List.length_append, List.length_singleton]; omega⟩
              rw [Lib.byteCells_append, Lib.byteCells_encodeRune]; exact Or.inr h3
            case measure =>
              simp only [World.iterPos, k3.iter hit4 (by omega)]
              simp only [World.iterPos] at hmeas
              rw [hmeas]
              omega
          · have tz : ((pos : Int) == 0) = false := beq_eq_false_iff_ne.2 (by omega)
            by_cases hl : pos + 1 = s.size
            · have HX := hEsc (by omega)
              have tl : ((pos : Int) == (s.size : Int) - 1) = true := beq_iff_eq.2 (by omega)
              clear hEsc hPlain hs1 hs2 h32
              go_wp2_with (first | (go_at_call 32; refine hcon.mono ?_; rintro e w1 ⟨rfl, b1⟩) | (go_at_call 33; refine (writeByte_k w.heap.size w.heap.size _ 92 w1 (builder_kept hI2 b1) (by rw [Lib.byteCells_length]; omega) (by have := b1.size; omega)).mono ?_))
              rintro e w2 ⟨rfl, h2, b2, k2⟩
              have hit3 : w1.heap[w.heap.size + 1]? = some (.stringIter s (pos + W)) := by rw [b1.block _ hsz2]; exact hit2
              have hbw3 := hbw2.trans (b1.mono (by omega))
              have hsz3 : w.heap.size + 1 < w1.heap.size := (Array.getElem?_eq_some_iff.1 hit3).1
              have hI4 : Lib.IsBuilderF 53 5 w.heap.size w.heap.size (Lib.byteCells (acc ++ [92])) w2 := by rw [Lib.byteCells_append]; exact Or.inr h2
              have hit4 := k2.iter hit3 (by omega)
              have hbw4 := hbw3.trans b2
              have hsz4 : w.heap.size + 1 < w2.heap.size := (Array.getElem?_eq_some_iff.1 hit4).1
              have hcR := writeRune_k w.heap.size w.heap.size _ (R : Int) (by omega) (by omega) w2 hI4 (by rw [Lib.byteCells_length, List.length_append, List.length_singleton]; omega) (by omega)
              go_wp2_with (go_at_call 34; refine hcR.mono ?_)
              rintro e w3 ⟨rfl, h3, b3, k3⟩
              go_wp2
              go_roundw
              case rel =>
                refine ⟨pos + W, acc ++ [92] ++ Lib.encodeRune (R : Int), ?_, k3.iter hit4 (by omega), hbw4.trans b3, HG2.out, HX.out, by simp only [List.length_append, List.length_singleton]; omega⟩
                rw [Lib.byteCells_append, Lib.byteCells_encodeRune]; exact Or.inr h3
              case measure =>
                simp only [World.iterPos, k3.iter hit4 (by omega)]
                simp only [World.iterPos] at hmeas
                rw [hmeas]
                omega
            · have HX := hPlain (by omega)
              have tl : ((pos : Int) == (s.size : Int) - 1) = false := beq_eq_false_iff_ne.2 (by omega)
              clear hEsc hPlain hs1 hs2 h32
              go_wp2_with (first | (go_at_call 32; refine hcon.mono ?_; rintro e w1 ⟨rfl, b1⟩) | (go_at_call 34; refine (writeRune_k w.heap.size w.heap.size _ (R : Int) (by omega) (by omega) w1 (builder_kept hI2 b1) (by rw [Lib.byteCells_length]; omega) (by have := b1.size; omega)).mono ?_))
              rintro e w3 ⟨rfl, h3, b3, k3⟩
              have hit3 : w1.heap[w.heap.size + 1]? = some (.stringIter s (pos + W)) := by rw [b1.block _ hsz2]; exact hit2
              have hbw3 := hbw2.trans (b1.mono (by omega))
              have hsz3 : w.heap.size + 1 < w1.heap.size := (Array.getElem?_eq_some_iff.1 hit3).1
              go_wp2
              go_roundw
              case rel =>
                refine ⟨pos + W, acc ++ Lib.encodeRune (R : Int), ?_, k3.iter hit3 (by omega), hbw3.trans b3, HG2.out, HX.out, by simp only [List.length_append]; omega⟩
                rw [Lib.byteCells_append, Lib.byteCells_encodeRune]; exact Or.inr h3
              case measure =>
                simp only [World.iterPos, k3.iter hit3 (by omega)]
                simp only [World.iterPos] at hmeas
                rw [hmeas]
                omega
        · have t32 : ((R : Int) == 32) = false := beq_eq_false_iff_ne.2 (by omega)
          have HX := hPlain (by have := hs2 hq0; omega)
          clear hEsc hPlain hs1 hs2 h32
          go_wp2_with (first | (go_at_call 32; refine hcon.mono ?_; rintro e w1 ⟨rfl, b1⟩) | (go_at_call 34; refine (writeRune_k w.heap.size w.heap.size _ (R : Int) (by omega) (by omega) w1 (builder_kept hI2 b1) (by rw [Lib.byteCells_length]; omega) (by have := b1.size; omega)).mono ?_))
          rintro e w3 ⟨rfl, h3, b3, k3⟩
          have hit3 : w1.heap[w.heap.size + 1]? = some (.stringIter s (pos + W)) := by rw [b1.block _ hsz2]; exact hit2
          have hbw3 := hbw2.trans (b1.mono (by omega))
          have hsz3 : w.heap.size + 1 < w1.heap.size := (Array.getElem?_eq_some_iff.1 hit3).1
          go_wp2
          go_roundw
          case rel =>
            refine ⟨pos + W, acc ++ Lib.encodeRune (R : Int), ?_, k3.iter hit3 (by omega), hbw3.trans b3, HG2.out, HX.out, by simp only [List.length_append]; omega⟩
            rw [Lib.byteCells_append, Lib.byteCells_encodeRune]; exact Or.inr h3
          case measure =>
            simp only [World.iterPos, k3.iter hit3 (by omega)]
            simp only [World.iterPos] at hmeas
            rw [hmeas]
            omega
    · have hnx : ∀ ty, (Instr.next (.pointer (some ⟨w.heap.size + 1, 0, none⟩)) true ty).run Try.prog wr = _ := fun ty => Lib.run_next_end_at wr (w.heap.size + 1) s pos ty hit hp
      have hle := hgood.le
      obtain rfl : pos = s.size := by omega
      have HE : Hid (unesc acc = s.data.toList) := by
        have := hesc.out
        rw [List.take_of_length_le (by simp)] at this
        exact this
      clear hesc hgood
      have hcS := Any.Builder_String_any_k Try.lays169 Try.Builder_Extra_169 w.heap.size w.heap.size acc wr hI (by omega)
      go_wp2_with (go_at_call 35; refine hcS.mono ?_)
      rintro e w1 ⟨rfl, _, b1, _⟩
      go_wp2
      go_ret
      exact ⟨⟨acc, rfl, HE.out, hal⟩, hbw.trans b1⟩
end Go.Proofs.Qxb6000831a
