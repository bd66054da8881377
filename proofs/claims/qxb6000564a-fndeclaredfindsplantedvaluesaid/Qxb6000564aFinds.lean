import Derived.Test.Qxb6000564aDecl
import Derived.Test.Qxb6000564aShelf
import Derived.Test.Qxb6000564aFacts8
import Derived.HandedShaped
namespace Go.Proofs.Qxb6000564a.Finds
open Go.ChangeShapes Go.WideShapes Go.ChangeAt Go.RowKit
open Go.ChangeMaps (open_string shut_string)
set_option linter.unusedVariables false

theorem info5 : (Try.prog.info? 5).map (fun i => (i.zero, i.size, i.bytes)) = some (some (.int .u8 0), 1, 1) := by kernel_rfl

theorem bg {w0 w w' : World} {row : Option Nat} (h : Below w0.heap.size w0 w) (hg : w.grownBy w' row) (hr : ∀ k, row = some k → w0.heap.size ≤ k) : Below w0.heap.size w0 w' := h.grown hg h.size hr
theorem ba {w0 w : World} (h : Below w0.heap.size w0 w) (o : Obj) : Below w0.heap.size w0 (w.alloc o) := h.alloc h.size o

/-- What bytes.Index answers, in every later world. -/
def IndexOk (w : World) : Prop := ∀ (w1 : World) (B N g k c : Nat) (xs ys : List Int), Below w.heap.size w w1 → xs.length = N → ys.length = k → (∀ x ∈ xs, 0 ≤ x ∧ x < 256) → (∀ y ∈ ys, 0 ≤ y ∧ y < 256) →
  (∀ i, i < N → w1.cell? ⟨B, i, none⟩ = some (.int .u8 (xs.getD i 0))) → (∀ i, i < k → w1.cell? ((⟨g, 0, none⟩ : Addr).add i) = some (.int .u8 (ys.getD i 0))) → N ≤ 2097152 → k ≤ 1048576 →
  Calls Try.prog 27 #[.slice (some ⟨B, 0, none⟩) N N, .slice (some ⟨g, 0, none⟩) k c] w1 fun e w' => e = .returned (.int .i64 (Lib.index (Lib.bytesOf xs) (Lib.bytesOf ys))) ∧ ∃ q, w' = w1.drewN q

/-- The last call: declared finds the value. -/
theorem last (pre key value post : ByteArray) (qv : Int) (hq : qv = 34 ∨ qv = 39) (hno : hasB value qv = false) (hat : ∀ p : Nat, p < pre.size → ¬ At (nums pre ++ nums key) key p)
    (hb : pre.size + key.size + value.size + post.size ≤ 1048576) (w : World) (hI : IndexOk w) (w9 : World) (hbel : Below w.heap.size w w9) (base g : Nat)
    (hown : w9.ownsRow base 5 1 (.slice (some ⟨g, 0, none⟩) (pre.size + key.size + 2 + value.size + post.size) (pre.size + key.size + 2 + value.size + post.size)) (pre.size + key.size + 2 + value.size + post.size) ((content pre key value post qv).map (Value.int .u8)))
    (hg : g < w9.heap.size) :
    Calls Try.prog 19 #[.slice (some ⟨g, 0, none⟩) (pre.size + key.size + 2 + value.size + post.size) (pre.size + key.size + 2 + value.size + post.size), .string key] w9 fun e w' => e = .returned (.string value) ∧ Below w9.heap.size w9 w' := by
  have hqb : 0 ≤ qv ∧ qv < 256 := by omega
  obtain ⟨hl, _, _, _, hc⟩ := cells_of_own _ hown rfl
  obtain ⟨w10, c, hcv, hbel2, hk⟩ := conv_key key w9
  have hc10 : ∀ i, i < pre.size + key.size + 2 + value.size + post.size → w10.cell? ⟨g, i, none⟩ = some (.int .u8 ((content pre key value post qv).getD i 0)) := by
    intro i hi
    rw [hbel2.cell (p := ⟨g, i, none⟩) hg]
    have := hc i hi
    rwa [Nat.zero_add] at this
  have hIx := hI w10 g (pre.size + key.size + 2 + value.size + post.size) w9.heap.size key.size c _ (nums key) (hbel.trans (hbel2.mono hbel.size)) hl (nums_length key) (content_bytes pre key value post qv hqb) (byte_nums key) hc10 hk (by omega) (by omega)
  rw [bytesOf_nums, content_index pre key value post qv hat] at hIx
  have h := declared_found g (pre.size + key.size + 2 + value.size + post.size) (content pre key value post qv) key pre.size value.size qv w9 w10 c hl hc10 (by omega) hcv hbel2 hIx (content_quote pre key value post qv) hq
    (content_second pre key value post qv hqb hno) (by omega)
  rw [content_take] at h
  exact zz_declared _ _ _ _ _ h

set_option maxHeartbeats 4000000 in
theorem walk_q (pre key value post : ByteArray) (dbl : Bool) (qv : Int) (hq : (dbl = false ∧ qv = 39) ∨ (dbl = true ∧ qv = 34)) (w0 : pre.size ≤ maxLen) (w1 : key.size ≤ maxLen) (w2 : value.size ≤ maxLen) (w3 : post.size ≤ maxLen) (w : World) (hI : IndexOk w) :
    Calls Try.prog 8 #[.string pre, .string key, .string value, .string post, .bool dbl] w fun e w' => e = .returned (.bool true) ∧ Below w.heap.size w w' := by
  have hb4 := bound4 pre key value post dbl w w0 w1 w2 w3
  have hhas := hasByteIn_any value qv w w2
  unfold maxLen at w0 w1 w2 w3
  obtain ⟨i0, hi, hz0, hz1, hz2⟩ := info_parts info5
  have HI : Hid (IndexOk w) := hI
  clear hI
  by_cases h1 : pre.size + key.size + value.size + post.size ≤ 1048576
  case neg =>
    have ed : decide (pre.size + key.size + value.size + post.size ≤ 1048576) = false := decide_eq_false h1
    rw [ed] at hb4
    clear hhas
    go_enter Try.func8, Try.ntmps8
    go_wp2_with (go_at_call 16; refine hb4.mono ?_; rintro e w' ⟨rfl, rfl⟩)
    go_ret
    exact ⟨rfl, Below.refl _ _⟩
  have ed : decide (pre.size + key.size + value.size + post.size ≤ 1048576) = true := decide_eq_true h1
  rw [ed] at hb4
  by_cases c1 : (65536 : Int) < pre.size
  case pos =>
    clear hhas
    go_enter Try.func8, Try.ntmps8
    go_wp2_with (go_at_call 16; refine hb4.mono ?_; rintro e w' ⟨rfl, rfl⟩)
    go_ret
    exact ⟨rfl, Below.refl _ _⟩
  by_cases c2 : (4096 : Int) < key.size
  case pos =>
    clear hhas
    go_enter Try.func8, Try.ntmps8
    go_wp2_with (go_at_call 16; refine hb4.mono ?_; rintro e w' ⟨rfl, rfl⟩)
    go_ret
    exact ⟨rfl, Below.refl _ _⟩
  by_cases c3 : (65536 : Int) < value.size
  case pos =>
    clear hhas
    go_enter Try.func8, Try.ntmps8
    go_wp2_with (go_at_call 16; refine hb4.mono ?_; rintro e w' ⟨rfl, rfl⟩)
    go_ret
    exact ⟨rfl, Below.refl _ _⟩
  by_cases c4 : (65536 : Int) < post.size
  case pos =>
    clear hhas
    go_enter Try.func8, Try.ntmps8
    go_wp2_with (go_at_call 16; refine hb4.mono ?_; rintro e w' ⟨rfl, rfl⟩)
    go_ret
    exact ⟨rfl, Below.refl _ _⟩
  obtain ⟨b, hbv⟩ : ∃ b, hasB value qv = b := ⟨_, rfl⟩
  rw [hbv] at hhas
  have HB : Hid (hasB value qv = b) := hbv
  clear hbv
  cases b with
  | true =>
    rcases hq with ⟨rfl, rfl⟩ | ⟨rfl, rfl⟩
    all_goals
      go_enter Try.func8, Try.ntmps8
      go_wp2_with (first | (go_at_call 16; refine hb4.mono ?_; rintro e w' ⟨rfl, hw⟩; have hw' := hw.symm; subst hw') | (go_at_call 17; refine hhas.mono ?_; rintro e w' ⟨rfl, rfl⟩))
      go_ret
      exact ⟨rfl, Below.refl _ _⟩
  | false =>
    rcases hq with ⟨rfl, rfl⟩ | ⟨rfl, rfl⟩
    all_goals
      go_enter Try.func8, Try.ntmps8
      go_wp2_with (first
        | (go_at_call 16; refine hb4.mono ?_; rintro e w' ⟨rfl, hw⟩; have hw' := hw.symm; subst hw')
        | (go_at_call 17; refine hhas.mono ?_; rintro e w' ⟨rfl, hw⟩; have hw' := hw.symm; subst hw')
        | (at_make; refine wpList_make_own _ rfl _ _ 26 rfl w.heap.size 5 i0 (.int .u8 0) 1 Try.underlying26 hi hz0 hz1 _ _ _ (pre.size + key.size) rfl rfl (by omega) (by rw [hz2]; omega) (by unfold maxLen; omega) (Nat.le_refl _) ?_; intro u1 hown1 hg1)
        | (at_builtin; refine wpList_append_fits_string _ rfl (.tmp 49) (.tmp 50) 26 9 rfl w.heap.size 5 i0 Try.underlying26 Try.underlying9 hi hz1 w.heap.size 0 (pre.size + key.size) [] rfl hown1 pre rfl pre.size (Lib.strCells pre) (by omega) rfl (by omega) ?_; intro u2 hown2 hg2)
        | (at_builtin; refine wpList_append_fits_string _ rfl (.tmp 52) (.tmp 53) 26 9 rfl w.heap.size 5 i0 Try.underlying26 Try.underlying9 hi hz1 w.heap.size pre.size (pre.size + key.size) (Lib.strCells pre) rfl hown2 key rfl (pre.size + key.size) (Lib.strCells pre ++ Lib.strCells key) (by omega) rfl (by omega) ?_; intro u3 hown3 hg3))
      have hcon : Calls Try.prog 18 #[.slice (some ⟨w.heap.size, 0, none⟩) (pre.size + key.size) (pre.size + key.size), .string key] u3 fun e w' => ∃ r : Int, e = .returned (.int .i64 r) ∧ (∀ p : Nat, (p : Int) < r → ¬ At (nums pre ++ nums key) key p) ∧ ∃ q, w' = u3.drewN q := by
        obtain ⟨hl3, _, _, _, hc3⟩ := cells_of_own (nums pre ++ nums key) hown3 (by rw [strCells_nums, strCells_nums, List.map_append])
        exact indexIn_any w.heap.size (pre.size + key.size) (pre.size + key.size) (nums pre ++ nums key) key u3 hl3 (fun i hi => by have := hc3 i hi; rwa [Nat.zero_add] at this) (by omega) (by omega)
      refine hcon.mono ?_
      rintro e u4 ⟨r, rfl, hr, q1, rfl⟩
      clear hcon
      have hbel3 : Below w.heap.size w (u3.drewN q1) := below_drewN (bg (bg (bg (Below.refl _ _) hg1 (by simp)) hg2 (by simp)) hg3 (by simp)) q1
      by_cases hrp : r = pre.size
      case neg =>
        have hne : (r != (pre.size : Int)) = true := by simpa using hrp
        clear hr hrp
        go_wp2
        go_ret
        exact ⟨rfl, hbel3⟩
      subst hrp
      have HA : Hid (∀ p : Nat, p < pre.size → ¬ At (nums pre ++ nums key) key p) := fun p hp => hr p (by omega)
      have hown4 : (u3.drewN q1).ownsRow w.heap.size 5 1 (.slice (some ⟨w.heap.size, 0, none⟩) (pre.size + key.size) (pre.size + key.size)) (pre.size + key.size) (Lib.strCells pre ++ Lib.strCells key) := hown3
      clear hr hown1 hown2 hown3 hg1 hg2 hg3 hb4 hhas
      generalize u3.drewN q1 = u4 at hown4 hbel3 ⊢
      have hone : ∀ u ∈ Lib.strCells pre ++ Lib.strCells key, u.oneCell' = true := by
        intro u hu
        rcases List.mem_append.1 hu with h | h
        · exact Lib.strCells_oneCell pre u h
        · exact Lib.strCells_oneCell key u h
      have hll : (Lib.strCells pre ++ Lib.strCells key).length = pre.size + key.size := by rw [List.length_append, Lib.strCells_length, Lib.strCells_length]
      have hlt4 : w.heap.size < u4.heap.size := (hown4.lt w.heap.size rfl).2
      go_wp2_with (first
        | (at_make; refine wpList_make_own _ rfl _ _ 26 rfl w.heap.size 5 i0 (.int .u8 0) 1 Try.underlying26 hi hz0 hz1 _ _ _ (pre.size + key.size + 2 + value.size + post.size) rfl rfl (by omega) (by rw [hz2]; omega) (by unfold maxLen; omega) hbel3.size ?_; intro v1 hown5 hg5)
        | (at_builtin; refine wpList_append_fits_eq _ rfl (.tmp 71) (.tmp 72) 26 rfl w.heap.size 5 i0 Try.underlying26 hi hz1 u4.heap.size 0 (pre.size + key.size + 2 + value.size + post.size) [] rfl hown5 ⟨w.heap.size, 0, none⟩ (pre.size + key.size) (pre.size + key.size) (Lib.strCells pre ++ Lib.strCells key) rfl hll ((hown4.kept hg5 (.inr (by simp [Value.ownBlock]))).cells (g := w.heap.size) rfl) hone (pre.size + key.size) (Lib.strCells pre ++ Lib.strCells key) (by omega) rfl (by omega) ?_; intro v2 hown6 hg6)
        | (at_builtin; refine wpList_append_fits_eq _ rfl (.tmp 74) (.tmp 76) 26 rfl w.heap.size 5 i0 Try.underlying26 hi hz1 u4.heap.size (pre.size + key.size) (pre.size + key.size + 2 + value.size + post.size) _ rfl (hown6.alloc _) _ 1 1 [_] rfl rfl (one_new _ _ _) (by simp [Value.oneCell']) (pre.size + key.size + 1) _ rfl rfl (by omega) ?_; intro v3 hown7 hg7)
        | (at_builtin; refine wpList_append_fits_string _ rfl (.tmp 78) (.tmp 79) 26 9 rfl w.heap.size 5 i0 Try.underlying26 Try.underlying9 hi hz1 u4.heap.size (pre.size + key.size + 1) (pre.size + key.size + 2 + value.size + post.size) _ rfl hown7 value rfl (pre.size + key.size + 1 + value.size) _ rfl rfl (by omega) ?_; intro v4 hown8 hg8)
        | (at_builtin; refine wpList_append_fits_eq _ rfl (.tmp 81) (.tmp 83) 26 rfl w.heap.size 5 i0 Try.underlying26 hi hz1 u4.heap.size (pre.size + key.size + 1 + value.size) (pre.size + key.size + 2 + value.size + post.size) _ rfl (hown8.alloc _) _ 1 1 [_] rfl rfl (one_new _ _ _) (by simp [Value.oneCell']) (pre.size + key.size + 1 + value.size + 1) _ rfl rfl (by omega) ?_; intro v5 hown9 hg9)
        | (at_builtin; refine wpList_append_fits_string _ rfl (.tmp 85) (.tmp 86) 26 9 rfl w.heap.size 5 i0 Try.underlying26 Try.underlying9 hi hz1 u4.heap.size (pre.size + key.size + 1 + value.size + 1) (pre.size + key.size + 2 + value.size + post.size) _ rfl hown9 post rfl (pre.size + key.size + 2 + value.size + post.size) _ (by omega) rfl (by omega) ?_; intro v6 hown10 hg10))
      have hbelA : Below w.heap.size w v6 := by
        have hgw : w.heap.size ≤ u4.heap.size := by omega
        have r : ∀ k, some u4.heap.size = some k → w.heap.size ≤ k := fun k hk => by cases hk; exact hgw
        exact bg (bg (ba (bg (bg (ba (bg (bg hbel3 hg5 (by simp)) hg6 r) _) hg7 r) hg8 r) _) hg9 r) hg10 r
      have hlt6 : u4.heap.size < v6.heap.size := (hown10.lt u4.heap.size rfl).2
      have evals : ∀ q : Int, Lib.strCells pre ++ Lib.strCells key ++ [Value.int .u8 q] ++ Lib.strCells value ++ [Value.int .u8 q] ++ Lib.strCells post = (content pre key value post q).map (Value.int .u8) := by
        intro q
        simp only [strCells_nums, content, List.map_append, List.map_cons, List.map_nil]
      rw [evals] at hown10
      have hlast := last pre key value post _ (by first | exact .inl rfl | exact .inr rfl) HB.out HA.out h1 w HI.out v6 hbelA w.heap.size u4.heap.size hown10 hlt6
      refine hlast.mono ?_
      rintro e v7 ⟨rfl, hbelB⟩
      have hbelC : Below w.heap.size w v7 := hbelA.trans (hbelB.mono hbelA.size)
      clear hlast hbelB hbelA evals hown4 hown5 hown6 hown7 hown8 hown9 hown10 hg5 hg6 hg7 hg8 hg9 hg10
      go_wp2
      go_ret
      exact ⟨ret_bool (by simp), hbelC⟩

/-- bytes.Index by the shelf's contract: the variable MaxLen holds some number in every later world. -/
theorem indexOk (w : World) (m : Int) (hm : w.cell? ⟨Try.laysM185_ren.g 1, 0, none⟩ = some (.int .i64 m)) : IndexOk w := by
  intro w1 B N g k c xs ys hbel hx hy hr1 hr2 hc1 hc2 hN hk
  have hlt := World.block_lt_of_cell? w _ hm
  have hm1 : w1.cell? ⟨Try.laysM185_ren.g 1, 0, none⟩ = some (.int .i64 m) := (hbel.cell hlt).trans hm
  exact Any.bytes_Index_at { Try.laysM185 with } ⟨B, 0, none⟩ ⟨g, 0, none⟩ N N k c xs ys m w1 hx hy hr1 hr2
    (fun i hi => by
      have e : (⟨B, 0, none⟩ : Addr).add i = ⟨B, i, none⟩ := by unfold Addr.add; split <;> simp_all
      rw [e]; exact hc1 i hi)
    hc2 (Nat.le_refl _) (by omega) (by omega) hm1

theorem walk (pre key value post : ByteArray) (dbl : Bool) (w0 : pre.size ≤ maxLen) (w1 : key.size ≤ maxLen) (w2 : value.size ≤ maxLen) (w3 : post.size ≤ maxLen) (w : World) (hI : IndexOk w) :
    Calls Try.prog 8 #[.string pre, .string key, .string value, .string post, .bool dbl] w fun e w' => e = .returned (.bool true) ∧ Below w.heap.size w w' := by
  cases dbl with
  | false => exact walk_q pre key value post false 39 (.inl ⟨rfl, rfl⟩) w0 w1 w2 w3 w hI
  | true => exact walk_q pre key value post true 34 (.inr ⟨rfl, rfl⟩) w0 w1 w2 w3 w hI

theorem own : ownKnob Try.prog.godebug = none := by kernel_rfl

set_option maxRecDepth 100000 in
theorem lifted (os : Os) (started : os.Started) (H : Type) (enc : TypeId × Value → H) :
    ReturnsInHanded {} Try.checked os 8 .any (Rows.fnDeclaredFindsPlantedValueSpec.pre6 enc Try.prog Try.f8 Rows.fnDeclaredFindsPlantedValueRow.domain false) (Rows.fnDeclaredFindsPlantedValueSpec.post enc Try.prog Try.f8 false true false false) := by
  refine returnsInHanded_of_change_shaped (C := Try.checked) own started (by kernel_rfl) Try.func8
    (ChangeSpec.witness6 (enc := enc) (C := Try.checked) false ⟨#[], #[.string ByteArray.empty, .string ByteArray.empty, .string ByteArray.empty, .string ByteArray.empty, .bool false], []⟩ 8 (by kernel_rfl) (by kernel_rfl) (by kernel_rfl) (by kernel_rfl)) ?_
  intro W base args ds gs before hval0 hW hcnd _ hsh _
  have hval : ∀ (j : Nat) t v, Try.f8.params[j]? = some t → args[j]? = some v → Value.okWide Try.prog W .any base t v := hval0
  have hW' := hW
  obtain ⟨p, q, hA0, hV, rfl, hfz, hnd⟩ := hW
  have hA : DataW.TrodAll enc Try.prog W 0 (fun _ => true) true Try.f8.params.toList args.toList ds p := hA0
  rw [Try.params8] at hA hval
  obtain ⟨v0, vs0, d0, ds0, p0, q0, hargs, rfl, rfl, h0, r0⟩ := trodAll_cons hA
  obtain ⟨v1, vs1, d1, ds1, p1, q1, rfl, rfl, rfl, h1, r1⟩ := trodAll_cons r0
  obtain ⟨v2, vs2, d2, ds2, p2, q2, rfl, rfl, rfl, h2, r2⟩ := trodAll_cons r1
  obtain ⟨v3, vs3, d3, ds3, p3, q3, rfl, rfl, rfl, h3, r3⟩ := trodAll_cons r2
  obtain ⟨v4, vs4, d4, ds4, p4, q4, rfl, rfl, rfl, h4, r4⟩ := trodAll_cons r3
  obtain ⟨rfl, rfl, rfl⟩ := trodAll_nil r4
  obtain rfl : args = #[v0, v1, v2, v3, v4] := by cases args; simp_all
  obtain ⟨rfl, rfl⟩ := trodVars_none hV
  obtain ⟨a0, rfl, rfl, rfl, w0⟩ := open_string Try.underlying9 (hval 0 9 v0 rfl rfl) h0
  obtain ⟨a1, rfl, rfl, rfl, w1⟩ := open_string Try.underlying9 (hval 1 9 v1 rfl rfl) h1
  obtain ⟨a2, rfl, rfl, rfl, w2⟩ := open_string Try.underlying9 (hval 2 9 v2 rfl rfl) h2
  obtain ⟨a3, rfl, rfl, rfl, w3⟩ := open_string Try.underlying9 (hval 3 9 v3 rfl rfl) h3
  obtain ⟨a4, rfl, rfl, rfl⟩ := open_bool Try.underlying4 (hval 4 4 v4 rfl rfl) h4
  clear hA0 hval0
  simp only [List.append_nil] at hW'
  obtain ⟨m, hm⟩ := Try.laysM185.s1_3 W hsh
  refine (walk a0 a1 a2 a3 a4 w0 w1 w2 w3 W (indexOk W m hm)).mono fun e W' ⟨he, bel⟩ => ?_
  subst he
  exact ⟨_, rfl, _, _, _, [], [], [], hW', trodAll_mk1 (shut_bool Try.underlying4 _), (trodAll_cons_mk (shut_string Try.underlying9 w0) (trodAll_cons_mk (shut_string Try.underlying9 w1) (trodAll_cons_mk (shut_string Try.underlying9 w2) (trodAll_cons_mk (shut_string Try.underlying9 w3) (trodAll_cons_mk (shut_bool Try.underlying4 a4) trodAll_mk0))))), rfl, bel.frame _, fun h => by cases h⟩

theorem over : Rows.fnDeclaredFindsPlantedValueRow.holds Try.pinned (OpenSpec.ofChange Rows.fnDeclaredFindsPlantedValueSpec) :=
  OpenClaim.holds_of_wide 8 Try.f8 rfl rfl rfl rfl rfl rfl rfl ⟨rfl, rfl, rfl, rfl, rfl⟩ rfl rfl rfl rfl rfl (by kernel_rfl) Try.func8 Facts8.closed
    (of_decide_eq_true (by kernel_rfl)) (by unfold Func.isWrapper; first | (rw [if_pos (by decide +kernel)]; kernel_rfl) | (rw [if_neg (by decide +kernel)]; exact ⟨rfl, rfl⟩))
    (fun os started H enc _ => lifted os started H enc)

/-- The statement. -/
theorem proved : Rows.FnDeclaredFindsPlantedValueSaid := over
#print axioms proved
end Go.Proofs.Qxb6000564a.Finds
