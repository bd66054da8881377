import Derived.Test.Qxb6000564aLn
import Derived.WalkSmall
import Derived.Test.Qxb6000564aFacts6
namespace Go.Proofs.Qxb6000564a.Splits
open Go.ChangeShapes Go.WideShapes Go.ChangeAt Go.RowKit
open Go.ChangeMaps (open_string shut_string)
set_option linter.unusedVariables false


theorem info5 : (Try.prog.info? 5).map (fun i => (i.zero, i.size, i.bytes)) = some (some (.int .u8 0), 1, 1) := by kernel_rfl

def NoColon (p : ByteArray) (k : Nat) : Prop := ∀ j (h : j < p.size), j < k → p[j] ≠ 58

theorem vals (p l : ByteArray) : Lib.strCells p ++ [.int .u8 58] ++ Lib.strCells l = (nums p ++ 58 :: nums l).map (Value.int .u8) := by
  rw [strCells_nums, strCells_nums]; simp

theorem index_head (p l : ByteArray) (HN : NoColon p p.size) : Lib.indexByte (Lib.bytesOf (nums p ++ 58 :: nums l)) 58 = p.size := by
  have e : Lib.bytesOf (nums p ++ 58 :: nums l) = p.data.toList ++ 58 :: l.data.toList := by
    rw [← bytesOf_nums p, ← bytesOf_nums l]
    simp [Lib.bytesOf]
  rw [e, indexByte_first 58 l.data.toList p.data.toList]
  · simp
  · intro b hb
    obtain ⟨j, hj, rfl⟩ := List.getElem_of_mem hb
    exact HN j (by simpa using hj) (by simpa using hj)

theorem called (w4 : World) (B : Nat) (p l : ByteArray) (hown : w4.ownsRow B 5 1 (.slice (some ⟨B, 0, none⟩) (p.size + 1 + l.size) (p.size + 1 + l.size)) (p.size + 1 + l.size) (Lib.strCells p ++ [.int .u8 58] ++ Lib.strCells l))
    (HN : NoColon p p.size) (h0 : ¬ p.size = 0) (h1 : ¬ l.size = 0) (hb : p.size + l.size ≤ 1048576) :
    Calls Try.prog 14 #[.slice (some ⟨B, 0, none⟩) (p.size + 1 + l.size) (p.size + 1 + l.size)] w4 fun e w' => e = .returned (.slice (some ⟨B, p.size + 1, none⟩) l.size l.size) ∧ w' = w4 := by
  obtain ⟨hl, hcap, hm, _, hc⟩ := cells_of_own _ hown (vals p l)
  have hk := index_head p l HN
  have h := zz_localName _ _ _ ⟨_, _, _, rfl⟩ (localName_cut B 0 (p.size + 1 + l.size) (p.size + 1 + l.size) (nums p ++ 58 :: nums l) w4 hl hc (Nat.le_refl _) (by omega) p.size hk (by omega) (by omega))
  have e1 : 0 + (p.size + 1) = p.size + 1 := by omega
  have e2 : p.size + 1 + l.size - (p.size + 1) = l.size := by omega
  rw [e1, e2] at h
  exact h

theorem cell_l (w4 : World) (B : Nat) (p l : ByteArray) (hown : w4.ownsRow B 5 1 (.slice (some ⟨B, 0, none⟩) (p.size + 1 + l.size) (p.size + 1 + l.size)) (p.size + 1 + l.size) (Lib.strCells p ++ [.int .u8 58] ++ Lib.strCells l)) :
    ∀ i (h : i < l.size), w4.cell? ⟨B, p.size + 1 + i, none⟩ = some (.int .u8 l[i].toNat) := by
  intro i h
  obtain ⟨hl, hcap, hm, _, hc⟩ := cells_of_own _ hown (vals p l)
  have := hc (p.size + 1 + i) (by omega)
  rw [Nat.zero_add] at this
  rw [this, List.getD_eq_getElem?_getD, List.getElem?_append_right (by rw [nums_length]; omega), nums_length]
  have e : p.size + 1 + i - p.size = i + 1 := by omega
  rw [e, List.getElem?_cons_succ]
  simp only [nums, List.getElem?_map, Array.getElem?_toList]
  rw [Array.getElem?_eq_getElem (by simpa using h)]
  rfl

set_option maxHeartbeats 1000000 in
theorem walk (p l : ByteArray) (w0 : p.size ≤ maxLen) (w1 : l.size ≤ maxLen) (w : World) :
    Calls Try.prog 6 #[.string p, .string l] w fun e w' => e = .returned (.bool true) ∧ Below w.heap.size w w' := by
  have hb2 := bound2 p l w w0 w1
  unfold maxLen at w0 w1
  obtain ⟨i0, hi, hz0, hz1, hz2⟩ := info_parts info5
  by_cases h1 : p.size + l.size ≤ 1048576
  · have ed : decide (p.size + l.size ≤ 1048576) = true := decide_eq_true h1
    rw [ed] at hb2
    by_cases h2 : (65536 : Int) < p.size
    · go_enter Try.func6, Try.ntmps6
      go_wp2_with (go_at_call 13; refine hb2.mono ?_; rintro e w' ⟨rfl, rfl⟩)
      go_ret
      exact ⟨rfl, Below.refl _ _⟩
    by_cases h3 : (65536 : Int) < l.size
    · go_enter Try.func6, Try.ntmps6
      go_wp2_with (go_at_call 13; refine hb2.mono ?_; rintro e w' ⟨rfl, rfl⟩)
      go_ret
      exact ⟨rfl, Below.refl _ _⟩
    by_cases h4 : p.size = 0
    · have h4' : ((p.size : Int) == 0) = true := by simp [h4]
      clear h4
      go_enter Try.func6, Try.ntmps6
      go_wp2_with (go_at_call 13; refine hb2.mono ?_; rintro e w' ⟨rfl, rfl⟩)
      go_ret
      exact ⟨rfl, Below.refl _ _⟩
    by_cases h5 : l.size = 0
    · have h5' : ((l.size : Int) == 0) = true := by simp [h5]
      have h4' : ((p.size : Int) == 0) = false := by simp [h4]
      clear h4 h5
      go_enter Try.func6, Try.ntmps6
      go_wp2_with (go_at_call 13; refine hb2.mono ?_; rintro e w' ⟨rfl, rfl⟩)
      go_ret
      exact ⟨rfl, Below.refl _ _⟩
    have h5' : ((l.size : Int) == 0) = false := by simp [h5]
    have h4' : ((p.size : Int) == 0) = false := by simp [h4]
    have h2' : decide ((65536 : Int) < p.size) = false := by simpa using h2
    have h3' : decide ((65536 : Int) < l.size) = false := by simpa using h3
    go_enter Try.func6, Try.ntmps6
    go_wp2_with (go_at_call 13; refine hb2.mono ?_; rintro e w' ⟨rfl, hw⟩; have hw' := hw.symm; subst hw')
    clear hb2
    go_loop [5] (fun i => ∃ k : Nat, k ≤ p.size ∧ i = .int .i64 k ∧ NoColon p k) (fun i => p.size - (intOf i).toNat)
    case atStart => exact ⟨0, Nat.zero_le _, rfl, fun j h hj => absurd hj (by omega)⟩
    case round =>
      obtain ⟨k, hk, rfl, hno⟩ := hrel
      by_cases hlt : k < p.size
      · by_cases hc : p[k] = 58
        · have hcI : ((p[k].toNat : Int) == 58) = true := by rw [hc]; rfl
          clear hc
          go_wp2
          go_ret
          exact ⟨rfl, Below.refl _ _⟩
        · have hcI : ((p[k].toNat : Int) == 58) = false := by
            rw [beq_eq_false_iff_ne]
            intro h
            exact hc (UInt8.toNat.inj (by simpa using Int.ofNat.inj h))
          have HN : NoColon p (k + 1) := fun j h hj => by
            by_cases hjk : j = k
            · subst hjk; exact hc
            · exact hno j h (by omega)
          clear hc
          go_wp2
          go_round
          case rel => exact ⟨k + 1, by omega, by go_num, HN⟩
          case measure => simp [intOf]; omega
      · have hkp : k = p.size := by omega
        have HN : NoColon p p.size := by rw [← hkp]; exact hno
        clear hno hkp
        go_wp2_with (first
          | (at_make; refine wpList_make_own _ rfl _ _ 26 rfl w.heap.size 5 i0 (.int .u8 0) 1 Try.underlying26 hi hz0 hz1 _ _ _ (p.size + 1 + l.size) rfl rfl (by omega) (by rw [hz2]; omega) (by unfold maxLen; omega) (Nat.le_refl _) ?_; intro w1 hown1 hg1)
          | (at_builtin; refine wpList_append_fits_string _ rfl (.tmp 46) (.tmp 47) 26 9 rfl w.heap.size 5 i0 Try.underlying26 Try.underlying9 hi hz1 w.heap.size 0 (p.size + 1 + l.size) [] rfl hown1 p rfl p.size (Lib.strCells p) (by omega) rfl (by omega) ?_; intro w2 hown2 hg2)
          | (at_builtin; refine wpList_append_fits _ rfl (.tmp 49) (.tmp 50) 26 rfl w.heap.size 5 i0 1 Try.underlying26 hi hz1 w.heap.size p.size (p.size + 1 + l.size) (Lib.strCells p) rfl (hown2.alloc _) _ 1 1 [.int .u8 58] rfl rfl (one_new _ _ _) (by simp [Value.oneCell']) (by omega) ?_; intro w3 hown3 hg3)
          | (at_builtin; refine wpList_append_fits_string _ rfl (.tmp 52) (.tmp 53) 26 9 rfl w.heap.size 5 i0 Try.underlying26 Try.underlying9 hi hz1 w.heap.size (p.size + 1) (p.size + 1 + l.size) (Lib.strCells p ++ [.int .u8 58]) rfl hown3 l rfl (p.size + 1 + l.size) (Lib.strCells p ++ [.int .u8 58] ++ Lib.strCells l) (by omega) rfl (by omega) ?_; intro w4 hown4 hg4)
          | (go_at_call 14; refine (called w4 w.heap.size p l hown4 HN h4 h5 h1).mono ?_; rintro e w5 ⟨rfl, hw5⟩; have hw5' := hw5.symm; subst hw5'))
        have hc4 := cell_l w4 w.heap.size p l hown4
        have hbel : Below w.heap.size w w4 := by
          refine ((((Below.refl _ _).grown hg1 (Nat.le_refl _) (by simp)).grown hg2 hg1.size (by simp)).alloc (Nat.le_trans hg1.size hg2.size) _).grown hg3 ?_ (by simp) |>.grown hg4 ?_ (by simp)
          · simp; exact Nat.le_succ_of_le (Nat.le_trans hg1.size hg2.size)
          · refine Nat.le_trans ?_ hg3.size
            simp; exact Nat.le_succ_of_le (Nat.le_trans hg1.size hg2.size)
        clear hown1 hown2 hown3 hown4 hg1 hg2 hg3 hg4
        go_loopw [8] (fun i wr => ∃ k q : Nat, k ≤ l.size ∧ i = .int .i64 k ∧ wr = w4.drewN q) (fun i _ => l.size - (intOf i).toNat)
        case atStart => exact ⟨0, 0, Nat.zero_le _, rfl, rfl⟩
        case round =>
          obtain ⟨j, q, hj, rfl, rfl⟩ := hrel
          by_cases hjl : j < l.size
          · have hcj := hc4 j hjl
            have hjI : (j : Int) < (l.size : Int) := by omega
            have hj0 : (0 : Int) ≤ (j : Int) := by omega
            clear hc4
            go_wp2
            go_quiet (fail)
            go_wp2
            go_roundw
            case rel => exact ⟨j + 1, _, by omega, by go_num, rfl⟩
            case measure => simp [intOf]; omega
          · clear hc4
            go_wp2
            go_ret
            exact ⟨rfl, below_drewN hbel _⟩
  · have ed : decide (p.size + l.size ≤ 1048576) = false := decide_eq_false h1
    rw [ed] at hb2
    go_enter Try.func6, Try.ntmps6
    go_wp2_with (go_at_call 13; refine hb2.mono ?_; rintro e w' ⟨rfl, rfl⟩)
    go_ret
    exact ⟨rfl, Below.refl _ _⟩

theorem own : ownKnob Try.prog.godebug = none := by kernel_rfl

set_option maxRecDepth 100000 in
theorem lifted (os : Os) (started : os.Started) (H : Type) (enc : TypeId × Value → H) :
    ReturnsInHanded {} Try.checked os 6 .any (Rows.fnLocalNameSplitsPrefixedNameSpec.pre6 enc Try.prog Try.f6 Rows.fnLocalNameSplitsPrefixedNameRow.domain false) (Rows.fnLocalNameSplitsPrefixedNameSpec.post enc Try.prog Try.f6 false true false false) := by
  refine returnsInHanded_of_change (C := Try.checked) own started (by kernel_rfl) Try.func6
    (ChangeSpec.witness6 (enc := enc) (C := Try.checked) false ⟨#[], #[.string ByteArray.empty, .string ByteArray.empty], []⟩ 8 (by kernel_rfl) (by kernel_rfl) (by kernel_rfl) (by kernel_rfl)) ?_
  intro W base args ds gs before hval0 hW hcnd _
  have hval : ∀ (j : Nat) t v, Try.f6.params[j]? = some t → args[j]? = some v → Value.okWide Try.prog W .any base t v := hval0
  have hW' := hW
  obtain ⟨p, q, hA0, hV, rfl, hfz, hnd⟩ := hW
  have hA : DataW.TrodAll enc Try.prog W 0 (fun _ => true) true Try.f6.params.toList args.toList ds p := hA0
  rw [Try.params6] at hA hval
  obtain ⟨v0, vs0, d0, ds0, p0, q0, hargs, rfl, rfl, h0, r0⟩ := trodAll_cons hA
  obtain ⟨v1, vs1, d1, ds1, p1, q1, rfl, rfl, rfl, h1, r1⟩ := trodAll_cons r0
  obtain ⟨rfl, rfl, rfl⟩ := trodAll_nil r1
  obtain rfl : args = #[v0, v1] := by cases args; simp_all
  obtain ⟨rfl, rfl⟩ := trodVars_none hV
  obtain ⟨a0, rfl, rfl, rfl, w0⟩ := open_string Try.underlying9 (hval 0 9 v0 rfl rfl) h0
  obtain ⟨a1, rfl, rfl, rfl, w1⟩ := open_string Try.underlying9 (hval 1 9 v1 rfl rfl) h1
  clear hA0 hval0
  simp only [List.append_nil] at hW'
  refine (walk a0 a1 w0 w1 W).mono fun e W' ⟨he, bel⟩ => ?_
  subst he
  exact ⟨_, rfl, _, _, _, [], [], [], hW', trodAll_mk1 (shut_bool Try.underlying4 _), (trodAll_cons_mk (shut_string Try.underlying9 w0) (trodAll_cons_mk (shut_string Try.underlying9 w1) trodAll_mk0)), rfl, bel.frame _, fun h => by cases h⟩

theorem over : Rows.fnLocalNameSplitsPrefixedNameRow.holds Try.pinned (OpenSpec.ofChange Rows.fnLocalNameSplitsPrefixedNameSpec) :=
  OpenClaim.holds_of_wide 6 Try.f6 rfl rfl rfl rfl rfl rfl rfl ⟨rfl, rfl, rfl, rfl, rfl⟩ rfl rfl rfl rfl rfl (by kernel_rfl) Try.func6 Facts6.closed
    (of_decide_eq_true (by kernel_rfl)) (by unfold Func.isWrapper; first | (rw [if_pos (by decide +kernel)]; kernel_rfl) | (rw [if_neg (by decide +kernel)]; exact ⟨rfl, rfl⟩))
    (fun os started H enc _ => lifted os started H enc)

/-- The statement. -/
theorem proved : Rows.FnLocalNameSplitsPrefixedNameSaid := over
#print axioms proved
end Go.Proofs.Qxb6000564a.Splits
