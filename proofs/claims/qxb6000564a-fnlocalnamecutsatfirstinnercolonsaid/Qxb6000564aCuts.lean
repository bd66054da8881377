import Derived.Test.Qxb6000564aLn
import Derived.Test.Qxb6000564aCopy
import Derived.WalkSmall
import Derived.Test.Qxb6000564aFacts7
import Derived.WalkSpells
namespace Go.Proofs.Qxb6000564a.Cuts
open Go.ChangeShapes Go.WideShapes Go.ChangeAt Go.RowKit
set_option linter.unusedVariables false

theorem info5 : (Try.prog.info? 5).map (fun i => (i.zero, i.size, i.bytes)) = some (some (.int .u8 0), 1, 1) := by kernel_rfl
theorem size5 : (Try.prog.info? 5).map (·.size) = some 1 := by kernel_rfl

/-- What localName's answer says of the bytes: K of them were cut off, m are left. -/
structure Cut (xs : List Int) (K m : Nat) : Prop where
  len : xs.length = K + m
  cut : K = 0 ∨ (2 ≤ K ∧ xs.getD (K - 1) 0 = 58 ∧ (∀ j, j < K - 1 → xs.getD j 0 ≠ 58) ∧ 0 < m)
  none : K = 0 → ∀ f, f < xs.length → xs.getD f 0 = 58 → (∀ j, j < f → xs.getD j 0 ≠ 58) → ¬ (0 < f ∧ f + 1 < xs.length)

theorem called (B n : Nat) (xs : List Int) (w : World) (hx : xs.length = n) (hr : ∀ x ∈ xs, 0 ≤ x ∧ x < 256) (hc : ∀ i, i < n → w.cell? ⟨B, 0 + i, Option.none⟩ = some (.int .u8 (xs.getD i 0))) (hb : n ≤ 1048576) :
    ∃ K m, Cut xs K m ∧ Calls Try.prog 14 #[.slice (some ⟨B, 0, Option.none⟩) n n] w fun e w' => e = .returned (.slice (some ⟨B, K, Option.none⟩) m m) ∧ w' = w := by
  rcases index_cases 58 (by omega) xs hr with ⟨e, hno⟩ | ⟨k, e, hk, hkc, hno⟩
  · have h := zz_localName _ _ _ ⟨_, _, _, rfl⟩ (localName_same B 0 n n xs w hx hc (by omega) (-1) e (.inl (by omega)))
    refine ⟨0, n, ⟨by omega, .inl rfl, fun _ f hf hf' _ => absurd hf' (hno f hf)⟩, h⟩
  · by_cases hin : 0 < k ∧ k + 1 < n
    · have h := zz_localName _ _ _ ⟨_, _, _, rfl⟩ (localName_cut B 0 n n xs w hx hc (Nat.le_refl _) (by omega) k e hin.1 hin.2)
      rw [Nat.zero_add] at h
      exact ⟨k + 1, n - (k + 1), ⟨by omega, .inr ⟨by omega, by simpa using hkc, by simpa using hno, by omega⟩, fun h => absurd h (by omega)⟩, h⟩
    · have h := zz_localName _ _ _ ⟨_, _, _, rfl⟩ (localName_same B 0 n n xs w hx hc (by omega) k e (by omega))
      refine ⟨0, n, ⟨by omega, .inl rfl, fun _ f hf hf' hf2 => ?_⟩, h⟩
      have : f = k := by
        rcases Nat.lt_trichotomy f k with h | h | h
        · exact absurd hf' (hno f h)
        · exact h
        · exact absurd hkc (hf2 k h)
      subst this
      omega

/-- The nil slice. -/
theorem walk_nil (w : World) : Calls Try.prog 7 #[.slice Option.none 0 0] w fun e w' => e = .returned (.bool true) ∧ Below w.heap.size w w' := by
  have q26 : ∀ (w : World) (a : Option Addr) (n c n' c' : Nat), (binOp .neq 26 (.slice a n c) (.slice Option.none n' c')).run Try.prog w = .ok (.bool !a.isNone) w := fun w a n c n' c' => run_neq_slice_nil_any w _ _ a n c n' c' Try.underlying26
  have hb1 := bound1 Option.none 0 0 w (by unfold maxLen; omega)
  have ed : decide (0 ≤ 1048576) = true := rfl
  rw [ed] at hb1
  have hz := zz_localName _ _ _ ⟨_, _, _, rfl⟩ (localName_nil w)
  go_enter Try.func7, Try.ntmps7
  go_wp2_with (first
    | (go_at_call 15; refine hb1.mono ?_; rintro e w' ⟨rfl, rfl⟩)
    | (go_at_call 14; refine hz.mono ?_; rintro e w' ⟨rfl, rfl⟩))
  refine wp_loop_rounds 1 ?_
  rw [rounds_succ]
  go_wp2
  refine wp_loop_rounds 1 ?_
  rw [rounds_succ]
  go_wp2
  go_ret
  exact ⟨rfl, Below.refl _ _⟩

set_option maxHeartbeats 2000000 in
theorem walk_some (ad : Addr) (len cap : Nat) (xs : List Int) (w : World) (hlen : xs.length = len) (hm : len ≤ maxLen) (hcell : ∀ i, i < len → w.cell? (ad.add i) = some (.int .u8 (xs.getD i 0))) (hr : ∀ x ∈ xs, 0 ≤ x ∧ x < 256) :
    Calls Try.prog 7 #[.slice (some ad) len cap] w fun e w' => e = .returned (.bool true) ∧ Below w.heap.size w w' := by
  have q26 : ∀ (w : World) (a : Option Addr) (n c n' c' : Nat), (binOp .neq 26 (.slice a n c) (.slice Option.none n' c')).run Try.prog w = .ok (.bool !a.isNone) w := fun w a n c n' c' => run_neq_slice_nil_any w _ _ a n c n' c' Try.underlying26
  have hb1 := bound1 (some ad) len cap w hm
  unfold maxLen at hm
  obtain ⟨i0, hi, hz0, hz1, hz2⟩ := info_parts info5
  by_cases h1 : len ≤ 1048576
  · have ed : decide (len ≤ 1048576) = true := decide_eq_true h1
    rw [ed] at hb1
    have h1' : decide ((1048576 : Int) < len) = false := decide_eq_false (by omega)
    obtain ⟨w1, hmk, hown1, hg1⟩ := run_make_full (P := Try.prog) w w.heap.size 26 5 i0 (.int .u8 0) 1 Try.underlying26 hi hz0 hz1 .i64 .i64 len (by rw [hz2]; omega) (by unfold maxLen; omega) (Nat.le_refl _)
    have hbel1 : Below w.heap.size w w1 := (Below.refl _ _).grown hg1 (Nat.le_refl _) (by simp)
    have hsrc : ∀ j v, (xs.map (Value.int .u8))[j]? = some v → w1.cell? (ad.add j) = some v := by
      intro j v hj
      rw [List.getElem?_map, Option.map_eq_some_iff] at hj
      obtain ⟨y, hy, rfl⟩ := hj
      have hjl : j < xs.length := (List.getElem?_eq_some_iff.1 hy).1
      refine hg1.cell ?_ (by simp)
      rw [hcell j (by omega), List.getD_eq_getElem?_getD, hy]
      rfl
    obtain ⟨w2, hcp, hown2, hbel2⟩ := run_copy_whole (P := Try.prog) 26 3 5 Try.underlying26 size5 w.heap.size len cap ad w.heap.size w hbel1 _ hown1 (xs.map (Value.int .u8)) (by rw [List.length_map]; exact hlen) hsrc (by intro v hv; rw [List.mem_map] at hv; obtain ⟨y, _, rfl⟩ := hv; rfl)
    obtain ⟨_, _, _, _, hc2⟩ := cells_of_own xs hown2 rfl
    obtain ⟨K, m, hcut, hz⟩ := called w.heap.size len xs w2 hlen hr hc2 h1
    have hc3 : ∀ i, i < len → w2.cell? ⟨w.heap.size, i, Option.none⟩ = some (.int .u8 (xs.getD i 0)) := fun i hi => by have := hc2 i hi; rwa [Nat.zero_add] at this
    clear hcell hsrc hown1 hown2 hg1 hbel1 hc2 hr
    rcases hcut.cut with hK | ⟨hK2, hKc, hKn, hm0⟩
    · subst hK
      have hml : m = len := by have := hcut.len; omega
      subst hml
      have hfin := hcut.none rfl
      rw [hlen] at hfin
      have hF : Hid (∀ f, f < m → xs.getD f 0 = 58 → (∀ j, j < f → xs.getD j 0 ≠ 58) → ¬ (0 < f ∧ f + 1 < m)) := hfin
      clear hfin hcut ed hi hz0 hz1 hz2
      by_cases hm0 : m = 0
      · subst hm0
        have e0 : ((0 : Nat) : Int) = 0 := rfl
        rw [e0] at hmk hcp
        go_enter Try.func7, Try.ntmps7
        go_wp2_with (first
          | (go_at_call 15; refine hb1.mono ?_; rintro e w' ⟨rfl, hw⟩; have hw' := hw.symm; subst hw')
          | (go_at_call 14; refine hz.mono ?_; rintro e w' ⟨rfl, hw⟩; have hw' := hw.symm; subst hw'))
        refine wp_loop_rounds 1 ?_
        rw [rounds_succ]
        go_wp2
        refine wp_loop_rounds 1 ?_
        rw [rounds_succ]
        go_wp2
        go_ret
        exact ⟨rfl, hbel2⟩
      · have hpos : decide ((0 : Int) < m) = true := decide_eq_true (by omega)
        have hne : ((m : Int) == 0) = false := beq_eq_false_iff_ne.2 (by omega)
        go_enter Try.func7, Try.ntmps7
        go_wp2_with (first
          | (go_at_call 15; refine hb1.mono ?_; rintro e w' ⟨rfl, hw⟩; have hw' := hw.symm; subst hw')
          | (go_at_call 14; refine hz.mono ?_; rintro e w' ⟨rfl, hw⟩; have hw' := hw.symm; subst hw'))
        clear hmk hcp hb1 hz
        go_loopw [6] (fun i wr => ∃ j q : Nat, j ≤ m ∧ i = .int .i64 j ∧ wr = w2.drewN q) (fun i _ => m - (intOf i).toNat)
        case atStart => exact ⟨0, 0, Nat.zero_le _, rfl, rfl⟩
        case round =>
          obtain ⟨j, q, hj, rfl, rfl⟩ := hrel
          by_cases hjl : j < m
          · have hcj := hc3 j hjl
            have hjI : (j : Int) < (m : Int) := by omega
            have hj0 : (0 : Int) ≤ (j : Int) := by omega
            clear hc3
            go_wp2
            go_quiet (fail)
            go_wp2
            go_roundw
            case rel => exact ⟨j + 1, _, by omega, by go_num, rfl⟩
            case measure => simp [intOf]; omega
          · go_wp2
            go_loop [8, 9] (fun f i => ∃ k : Nat, k ≤ m ∧ i = .int .i64 k ∧ f = .int .i64 (-1) ∧ ∀ t, t < k → xs.getD t 0 ≠ 58) (fun _ i => m - (intOf i).toNat)
            case atStart => exact ⟨0, Nat.zero_le _, rfl, rfl, fun t ht => absurd ht (by omega)⟩
            case round =>
              obtain ⟨k, hk, rfl, rfl, hno⟩ := hrel
              by_cases hkm : k < m
              · have hck := hc3 k hkm
                have hkI : (k : Int) < (m : Int) := by omega
                have hk0 : (0 : Int) ≤ (k : Int) := by omega
                obtain ⟨v, hv⟩ : ∃ v, xs.getD k 0 = v := ⟨_, rfl⟩
                rw [hv] at hck
                by_cases hv8 : v = 58
                · have hF2 := hF.out k hkm (by rw [hv]; exact hv8) hno
                  clear hv hno hc3 hF
                  subst hv8
                  by_cases hk1 : 0 < k
                  · have hk2 : ¬ ((k : Int) < (m : Int) - 1) := by omega
                    have hk1' : decide ((0 : Int) < k) = true := decide_eq_true (by omega)
                    have hk2' : decide ((k : Int) < (m : Int) - 1) = false := decide_eq_false hk2
                    clear hF2
                    go_wp2
                    go_ret
                    exact ⟨rfl, below_drewN hbel2 _⟩
                  · have hk1' : decide ((0 : Int) < k) = false := decide_eq_false (by omega)
                    clear hF2
                    go_wp2
                    go_ret
                    exact ⟨rfl, below_drewN hbel2 _⟩
                · have hv9 : (v == 58) = false := beq_eq_false_iff_ne.2 hv8
                  have hno' : ∀ t, t < k + 1 → xs.getD t 0 ≠ 58 := by
                    intro t ht
                    by_cases htk : t = k
                    · subst htk; rw [hv]; exact hv8
                    · exact hno t (by omega)
                  clear hv hno hc3 hF hv8
                  have hno2 : Hid (∀ t, t < k + 1 → xs.getD t 0 ≠ 58) := hno'
                  clear hno'
                  go_wp2
                  go_round
                  case rel => exact ⟨k + 1, by omega, by go_num, rfl, hno2.out⟩
                  case measure => simp [intOf]; omega
              · clear hno hc3 hF
                go_wp2
                go_ret
                exact ⟨rfl, below_drewN hbel2 _⟩
    · have hl : len = K + m := by have := hcut.len; omega
      subst hl
      have hKN : Hid (∀ j, j < K - 1 → xs.getD j 0 ≠ 58) := hKn
      have hcK := hc3 (K - 1) (by omega)
      rw [hKc] at hcK
      have hfirst : Hid (∀ k, k < K + m → xs.getD k 0 = 58 → (∀ j, j < k → xs.getD j 0 ≠ 58) → k = K - 1) := by
        intro k hk hk1 hk2
        rcases Nat.lt_trichotomy k (K - 1) with h | h | h
        · exact absurd hk1 (hKn k h)
        · exact h
        · exact absurd hKc (hk2 _ h)
      clear hcut ed hi hz0 hz1 hz2 hKn hKc
      rw [Int.natCast_add] at hmk hcp
      have d1 : decide ((1048576 : Int) < (K : Int) + m) = false := decide_eq_false (by omega)
      have d2 : decide ((K : Int) + m < m) = false := decide_eq_false (by omega)
      have d3 : decide ((0 : Int) < (K : Int) + m) = true := decide_eq_true (by omega)
      have d4 : ((m : Int) == 0) = false := beq_eq_false_iff_ne.2 (by omega)
      have d5 : decide ((0 : Int) < (K : Int)) = true := decide_eq_true (by omega)
      have d6 : decide ((K : Int) < 2) = false := decide_eq_false (by omega)
      have d7 : ((K : Int) == 0) = false := beq_eq_false_iff_ne.2 (by omega)
      have b1 : (0 : Int) ≤ (K : Int) - 1 := by omega
      have b2 : (K : Int) - 1 < (K : Int) + m := by omega
      have d8 : decide (0 < K) = true := decide_eq_true (by omega)
      clear h1'
      go_enter Try.func7, Try.ntmps7
      go_wp2_with (first
        | (go_at_call 15; refine hb1.mono ?_; rintro e w' ⟨rfl, hw⟩; have hw' := hw.symm; subst hw')
        | (go_at_call 14; refine hz.mono ?_; rintro e w' ⟨rfl, hw⟩; have hw' := hw.symm; subst hw'))
      clear hmk hcp hb1 hz
      go_loopw [6] (fun i wr => ∃ j q : Nat, j ≤ m ∧ i = .int .i64 j ∧ wr = w2.drewN q) (fun i _ => m - (intOf i).toNat)
      case atStart => exact ⟨0, 0, Nat.zero_le _, rfl, rfl⟩
      case round =>
        obtain ⟨j, q, hj, rfl, rfl⟩ := hrel
        by_cases hjl : j < m
        · have hcj := hc3 (K + j) (by omega)
          have hjI : (j : Int) < (m : Int) := by omega
          have hj0 : (0 : Int) ≤ (j : Int) := by omega
          have hjK : (K : Int) + j < (K : Int) + m := by omega
          have hjK0 : (0 : Int) ≤ (K : Int) + j := by omega
          clear hc3
          go_wp2
          go_quiet (fail)
          go_wp2
          go_roundw
          case rel => exact ⟨j + 1, _, by omega, by go_num, rfl⟩
          case measure => simp [intOf]; omega
        · go_wp2
          go_loop [7] (fun i => ∃ k : Nat, k ≤ K - 1 ∧ i = .int .i64 k) (fun i => K - (intOf i).toNat)
          case atStart => exact ⟨0, Nat.zero_le _, rfl⟩
          case round =>
            obtain ⟨k, hk, rfl⟩ := hrel
            by_cases hkK : k < K - 1
            · have hck := hc3 k (by omega)
              have hkI : (k : Int) < (K : Int) + m := by omega
              have hkI' : (k : Int) < (K : Int) - 1 := by omega
              have hk0 : (0 : Int) ≤ (k : Int) := by omega
              have hv9 : (xs.getD k 0 == 58) = false := beq_eq_false_iff_ne.2 (hKN.out k hkK)
              obtain ⟨v, hv⟩ : ∃ v, xs.getD k 0 = v := ⟨_, rfl⟩
              rw [hv] at hck hv9
              clear hc3 hv
              go_wp2
              go_round
              case rel => exact ⟨k + 1, by omega, by go_num⟩
              case measure => simp [intOf]; omega
            · have hkI' : ¬ (k : Int) < (K : Int) - 1 := by omega
              go_wp2
              go_loop [8, 9] (fun f i => ∃ k : Nat, k ≤ K + m ∧ i = .int .i64 k ∧ f = .int .i64 (-1) ∧ ∀ t, t < k → xs.getD t 0 ≠ 58) (fun _ i => K + m - (intOf i).toNat)
              case atStart => exact ⟨0, Nat.zero_le _, rfl, rfl, fun t ht => absurd ht (by omega)⟩
              case round =>
                obtain ⟨p, hp, rfl, rfl, hno⟩ := hrel
                by_cases hpm : p < K + m
                · have hck := hc3 p hpm
                  have hkI : (p : Int) < (K : Int) + m := by omega
                  have hk0 : (0 : Int) ≤ (p : Int) := by omega
                  obtain ⟨v, hv⟩ : ∃ v, xs.getD p 0 = v := ⟨_, rfl⟩
                  rw [hv] at hck
                  by_cases hv8 : v = 58
                  · have hF2 := hfirst.out p hpm (by rw [hv]; exact hv8) hno
                    have hp1 : decide (0 < p) = true := decide_eq_true (by omega)
                    have hp1' : (0 : Int) < (p : Int) := by omega
                    have hp2 : (p : Int) < (K : Int) + m - 1 := by omega
                    clear hv hno hc3 hF2
                    subst hv8
                    go_wp2
                    go_ret
                    exact ⟨rfl, below_drewN hbel2 _⟩
                  · have hv9 : (v == 58) = false := beq_eq_false_iff_ne.2 hv8
                    have hno' : ∀ t, t < p + 1 → xs.getD t 0 ≠ 58 := by
                      intro t ht
                      by_cases htk : t = p
                      · subst htk; rw [hv]; exact hv8
                      · exact hno t (by omega)
                    clear hv hno hc3 hv8
                    have hno2 : Hid (∀ t, t < p + 1 → xs.getD t 0 ≠ 58) := hno'
                    clear hno'
                    go_wp2
                    go_round
                    case rel => exact ⟨p + 1, by omega, by go_num, rfl, hno2.out⟩
                    case measure => simp [intOf]; omega
                · clear hno hc3
                  go_wp2
                  go_ret
                  exact ⟨rfl, below_drewN hbel2 _⟩
  · have ed : decide (len ≤ 1048576) = false := decide_eq_false h1
    rw [ed] at hb1
    go_enter Try.func7, Try.ntmps7
    go_wp2_with (go_at_call 15; refine hb1.mono ?_; rintro e w' ⟨rfl, rfl⟩)
    go_ret
    exact ⟨rfl, Below.refl _ _⟩

theorem own : ownKnob Try.prog.godebug = Option.none := by kernel_rfl
theorem laidOut : laidOutB Try.prog = true := by kernel_rfl

/-- What the walk is told of the slice that came in: it is nil; or it leads to a row of 'cap' cells, the numbers 'zs' (the first 'len' are its elements, the rest its spare room), each a byte. -/
def IsRow (w : World) (a : Option Addr) (len cap : Nat) (zs : List Int) : Prop :=
  (a = Option.none ∧ len = 0 ∧ cap = 0 ∧ zs = []) ∨
  ∃ x, a = some x ∧ len ≤ cap ∧ cap ≤ maxLen ∧ zs.length = cap ∧ (∀ i, i < zs.length → w.cell? (x.add i) = some (.int .u8 (zs.getD i 0))) ∧ ∀ n ∈ zs, (Lit.int .u8 n).wf = true

theorem byte_of (n : Int) (h : (Lit.int .u8 n).wf = true) : 0 ≤ n ∧ n < 256 := by
  have := bounds_u8 h
  omega

theorem walk (a0 : Option Addr) (len0 cap0 : Nat) (z0 : List Int) (w : World) (w0 : IsRow w a0 len0 cap0 z0) :
    Calls Try.prog 7 #[.slice a0 len0 cap0] w fun e w' => e = .returned (.bool true) ∧ Below w.heap.size w w' := by
  rcases w0 with ⟨rfl, rfl, rfl, rfl⟩ | ⟨x, rfl, hl, hm, hz, hc, hw⟩
  · exact walk_nil w
  · refine walk_some x len0 cap0 (z0.take len0) w (by rw [List.length_take]; omega) (by omega) (fun i hi => ?_) (fun y hy => byte_of y (hw y (List.mem_of_mem_take hy)))
    rw [hc i (by omega), List.getD_eq_getElem?_getD, List.getD_eq_getElem?_getD, List.getElem?_take_of_lt hi]

set_option maxRecDepth 100000 in
theorem lifted (os : Os) (started : os.Started) (H : Type) (enc : TypeId × Value → H) :
    ReturnsInHanded {} Try.checked os 7 .any (Rows.fnLocalNameCutsAtFirstInnerColonSpec.pre6 enc Try.prog Try.f7 Rows.fnLocalNameCutsAtFirstInnerColonRow.domain false) (Rows.fnLocalNameCutsAtFirstInnerColonSpec.post enc Try.prog Try.f7 false true false false) := by
  refine returnsInHanded_of_change (C := Try.checked) own started (by kernel_rfl) Try.func7
    (ChangeSpec.witness6 (enc := enc) (C := Try.checked) false ⟨#[], #[.slice Option.none 0 0], []⟩ 8 (by kernel_rfl) (by kernel_rfl) (by kernel_rfl) (by kernel_rfl)) ?_
  intro W base args ds gs before hval0 hW hcnd _
  have hval : ∀ (j : Nat) t v, Try.f7.params[j]? = some t → args[j]? = some v → Value.okWide Try.prog W .any base t v := hval0
  have hW' := hW
  obtain ⟨p, q, hA0, hV, rfl, hfz, hnd⟩ := hW
  have hA : DataW.TrodAll enc Try.prog W 0 (fun _ => true) true Try.f7.params.toList args.toList ds p := hA0
  rw [Try.params7] at hA hval
  obtain ⟨v0, vs0, d0, ds0, p0, q0, hargs, rfl, rfl, h0, r0⟩ := trodAll_cons hA
  obtain ⟨rfl, rfl, rfl⟩ := trodAll_nil r0
  obtain rfl : args = #[v0] := by cases args; simp_all
  obtain ⟨rfl, rfl⟩ := trodVars_none hV
  obtain ⟨a0, len0, cap0, rfl⟩ := okWide_slice Try.underlying26 (hval 0 26 v0 rfl rfl)
  have k0 := h0
  have lt0 : ∀ x ∈ p0, x.block < W.heap.size := by obtain ⟨m, hm⟩ := k0; exact DataW.trod_lt m _ _ _ hm
  obtain ⟨z0, w0⟩ : ∃ zs, IsRow W a0 len0 cap0 zs := by
    obtain ⟨fuel, hf⟩ := h0
    rcases open_ints Try.underlying26 Try.underlying5 (by kernel_rfl) hf with ⟨hcs, _⟩ | ⟨x, l, c, zs, hcs, _, hl, hm, hz, _, hcell, hwz⟩
    · simp [Value.cells] at hcs
      obtain ⟨rfl, rfl, rfl⟩ := hcs
      exact ⟨[], .inl ⟨rfl, rfl, rfl, rfl⟩⟩
    · simp [Value.cells] at hcs
      obtain ⟨rfl, rfl, rfl⟩ := hcs
      exact ⟨zs, .inr ⟨_, rfl, hl, hm, by simpa using hz, hcell, hwz⟩⟩
  clear hA0 hval0
  refine (walk a0 len0 cap0 z0 W w0).mono fun e W' ⟨he, bel⟩ => ?_
  subst he
  exact ⟨_, rfl, _, _, _, [], _, [], hW', trodAll_mk1 (shut_bool Try.underlying4 _), (trodAll_cons_mk (Below.trod laidOut (by kernel_rfl) (of_decide_eq_true (by kernel_rfl)) k0 bel lt0) trodAll_mk0), rfl, bel.frame _, fun h => by cases h⟩

theorem over : Rows.fnLocalNameCutsAtFirstInnerColonRow.holds Try.pinned (OpenSpec.ofChange Rows.fnLocalNameCutsAtFirstInnerColonSpec) :=
  OpenClaim.holds_of_wide 7 Try.f7 rfl rfl rfl rfl rfl rfl rfl ⟨rfl, rfl, rfl, rfl, rfl⟩ rfl rfl rfl rfl rfl (by kernel_rfl) Try.func7 Facts7.closed
    (of_decide_eq_true (by kernel_rfl)) (by unfold Func.isWrapper; first | (rw [if_pos (by decide +kernel)]; kernel_rfl) | (rw [if_neg (by decide +kernel)]; exact ⟨rfl, rfl⟩))
    (fun os started H enc _ => lifted os started H enc)

/-- The statement. -/
theorem proved : Rows.FnLocalNameCutsAtFirstInnerColonSaid := over
#print axioms proved
end Go.Proofs.Qxb6000564a.Cuts
