/-
  unescapeValue at every text.
-/
import Derived.Test.Qxb6000831aUtf
import Derived.OwnWalk
import Derived.Laws.BytesArg
import Derived.Laws.OwnMore
import Derived.Lib.LazyBuf
namespace Go.Proofs.Qxb6000831a
open Go.ChangeShapes Go.WideShapes Go.ChangeAt Go.RowKit
set_option linter.unusedVariables false

theorem infoB : (Try.prog.info? 5).map (fun i => (i.zero, i.size, i.bytes)) = some (some (.int .u8 0), 1, 1) := by kernel_rfl

/-- A new block of one byte holds it. -/
theorem one_new (w : World) (x : Value) (t : TypeId) : ∀ j u, [x][j]? = some u → (w.alloc (.cells #[x] t)).cell? ((⟨w.heap.size, 0, none⟩ : Addr).add j) = some u := by
  intro j u hj
  match j, hj with
  | 0, hj =>
    simp at hj
    subst hj
    simp [Addr.add]

theorem drop_at (s : ByteArray) (i : Nat) (h : i < s.size) : s.data.toList.drop i = s[i] :: s.data.toList.drop (i + 1) := by
  rw [List.drop_eq_getElem_cons (by simpa using h)]
  rfl

/-- The string of an owned row of bytes. -/
theorem row_string {w : World} {base g cap : Nat} {acc : List UInt8} (h : w.ownsRow base 5 1 (.slice (some ⟨g, 0, none⟩) acc.length cap) acc.length (Lib.byteCells acc)) :
    (convert 24 9 (.slice (some ⟨g, 0, none⟩) acc.length cap)).run Try.prog w = .ok (.string ⟨acc.toArray⟩) w := by
  have := run_convert_bytes_arg (P := Try.prog) w 24 5 Try.underlying24 Try.underlying5 g 0 acc.length cap (acc.map fun b => (b.toNat : Int)) (by simp) (fun i hi => ?_) 9 Try.underlying9
  · rw [Lib.Lz.strOfNums_map] at this
    exact this
  · rw [Nat.zero_add, h.cellAt i (by omega)]
    unfold Lib.byteCells
    rw [List.getElem?_map, List.getD_eq_getElem?_getD, List.getElem?_map, List.getElem?_eq_getElem hi]
    rfl

set_option maxHeartbeats 4000000 in
set_option maxRecDepth 1000000 in
theorem unescape_any (s : ByteArray) (w : World) (hs : s.size ≤ 8388608) :
    Calls Try.prog 15 #[.string s] w fun e w' => e = .returned (.string ⟨(unesc s.data.toList).toArray⟩) ∧ Below w.heap.size w w' := by
  obtain ⟨i0, hi, hz0, hz1, hz2⟩ := info_parts infoB
  obtain ⟨T, hT⟩ : ∃ T, unesc s.data.toList = T := ⟨_, rfl⟩
  have HT : Hid (unesc s.data.toList = T) := hT
  rw [hT]
  clear hT
  go_enter Try.func15, Try.ntmps15
  go_wp2_with (at_make; refine wpList_make_own _ rfl _ _ 24 rfl w.heap.size 5 i0 (.int .u8 0) 1 Try.underlying24 hi hz0 hz1 _ _ _ s.size rfl rfl (by omega) (by rw [hz2]; omega) (by unfold maxLen; omega) (Nat.le_refl _) ?_; intro w1 hown1 hg1)
  go_loopw [3, 4] (fun b i wr => ∃ (k : Nat) (acc : List UInt8), k ≤ s.size ∧ i = .int .i64 k ∧ b = .slice (some ⟨w.heap.size, 0, none⟩) acc.length s.size ∧ acc.length ≤ k ∧ acc ++ unesc (s.data.toList.drop k) = T ∧ Below w.heap.size w wr ∧ w.heap.size < wr.heap.size ∧
    wr.ownsRow w.heap.size 5 1 (.slice (some ⟨w.heap.size, 0, none⟩) acc.length s.size) acc.length (Lib.byteCells acc)) (fun _ i _ => s.size - (intOf i).toNat)
  case atStart =>
    exact ⟨0, [], Nat.zero_le _, rfl, rfl, Nat.le_refl _, HT.out, (Below.refl _ _).grown hg1 (Nat.le_refl _) (by simp), (hown1.lt _ rfl).2, hown1⟩
  case round =>
    obtain ⟨k, acc, hk, rfl, rfl, hal, hacc, hbw, hsz, hown⟩ := hrel
    by_cases hkl : k < s.size
    · have hne : k < s.size := hkl
      have hd := drop_at s k hkl
      by_cases h92 : s[k] = 92
      · have tb : ((s[k].toNat : Int) == 92) = true := by rw [h92]; rfl
        by_cases hk1 : k + 1 < s.size
        · have HA : Hid ((acc ++ [s[k + 1]]) ++ unesc (s.data.toList.drop (k + 2)) = T) := by
            rw [← hacc, hd, h92, drop_at s (k + 1) hk1, unesc_esc, List.append_assoc]
            rfl
          clear hacc hd h92
          have hk1I : (k : Int) + 1 < s.size := by omega
          go_wp2_with (at_builtin; refine wpList_append_fits _ rfl (.tmp 27) (.tmp 31) 24 rfl w.heap.size 5 i0 1 Try.underlying24 hi hz1 w.heap.size acc.length s.size (Lib.byteCells acc) rfl (hown.alloc _) _ 1 1 [.int .u8 s[k + 1].toNat] rfl rfl (one_new _ _ _) (by simp [Value.oneCell']) (by omega) ?_; intro w3 hown3 hg3)
          go_roundw
          case rel =>
            refine ⟨k + 2, acc ++ [s[k + 1]], by omega, by go_num, by simp, by simp; omega, HA.out, (hbw.alloc (by have := hbw.size; omega) _).grown hg3 (by simp; omega) (by simp), by have := hg3.size; simp at this; omega, ?_⟩
            rw [Lib.byteCells_append, List.length_append]
            exact hown3
          case measure => simp [intOf]; omega
        · have HA : Hid ((acc ++ [s[k]]) ++ unesc (s.data.toList.drop (k + 1)) = T) := by
            have hd1 : s.data.toList.drop (k + 1) = [] := List.drop_eq_nil_of_le (by simp; omega)
            rw [← hacc, hd, hd1, List.append_assoc]
            rfl
          clear hacc hd h92
          have hk1I : ¬ (k : Int) + 1 < s.size := by omega
          go_wp2_with (at_builtin; refine wpList_append_fits _ rfl (.tmp 27) (.tmp 31) 24 rfl w.heap.size 5 i0 1 Try.underlying24 hi hz1 w.heap.size acc.length s.size (Lib.byteCells acc) rfl (hown.alloc _) _ 1 1 [.int .u8 s[k].toNat] rfl rfl (one_new _ _ _) (by simp [Value.oneCell']) (by omega) ?_; intro w3 hown3 hg3)
          go_roundw
          case rel =>
            refine ⟨k + 1, acc ++ [s[k]], by omega, by go_num, by simp, by simp; omega, HA.out, (hbw.alloc (by have := hbw.size; omega) _).grown hg3 (by simp; omega) (by simp), by have := hg3.size; simp at this; omega, ?_⟩
            rw [Lib.byteCells_append, List.length_append]
            exact hown3
          case measure => simp [intOf]; omega
      · have tb : ((s[k].toNat : Int) == 92) = false := by
          rw [beq_eq_false_iff_ne]
          intro e
          exact h92 (UInt8.toNat.inj (by show s[k].toNat = 92; omega))
        have HA : Hid ((acc ++ [s[k]]) ++ unesc (s.data.toList.drop (k + 1)) = T) := by
          rw [← hacc, hd, unesc_plain _ _ h92, List.append_assoc]
          rfl
        clear hacc hd h92
        go_wp2_with (at_builtin; refine wpList_append_fits _ rfl (.tmp 27) (.tmp 31) 24 rfl w.heap.size 5 i0 1 Try.underlying24 hi hz1 w.heap.size acc.length s.size (Lib.byteCells acc) rfl (hown.alloc _) _ 1 1 [.int .u8 s[k].toNat] rfl rfl (one_new _ _ _) (by simp [Value.oneCell']) (by omega) ?_; intro w3 hown3 hg3)
        go_roundw
        case rel =>
          refine ⟨k + 1, acc ++ [s[k]], by omega, by go_num, by simp, by simp; omega, HA.out, (hbw.alloc (by have := hbw.size; omega) _).grown hg3 (by simp; omega) (by simp), by have := hg3.size; simp at this; omega, ?_⟩
          rw [Lib.byteCells_append, List.length_append]
          exact hown3
        case measure => simp [intOf]; omega
    · have HA : Hid (acc = T) := by
        have hd1 : s.data.toList.drop k = [] := List.drop_eq_nil_of_le (by simp; omega)
        rw [← hacc, hd1]
        exact (List.append_nil _).symm
      clear hacc
      have hcv := row_string hown
      go_wp2
      go_ret
      refine ⟨?_, hbw⟩
      rw [HA.out]
      rfl
end Go.Proofs.Qxb6000831a
