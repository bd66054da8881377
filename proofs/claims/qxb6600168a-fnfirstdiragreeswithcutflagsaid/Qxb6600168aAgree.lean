import Derived.Test.Qxb6600168aTrip
import Derived.Test.Qxb6600168aFlag
import Derived.Test.Qxb6600168aFacts7
namespace Go.Proofs.Qxb6600168a.Agree
open Go.ChangeShapes Go.WideShapes Go.ChangeAt Go.RowKit
set_option linter.unusedVariables false

/-! ### Plain laws -/
theorem cut_nil : Lib.cut [] [61] = ([], [], false) := by rfl
theorem cut_here (T : List UInt8) : Lib.cut (61 :: T) [61] = ([], T, true) := cut_some 61 [] T (by simp)
theorem cut_on (b : UInt8) (T : List UInt8) (hb : b ≠ 61) : Lib.cut (b :: T) [61] = (b :: (Lib.cut T [61]).1, (Lib.cut T [61]).2.1, (Lib.cut T [61]).2.2) := by
  have hp : List.isPrefixOf [61] (b :: T) = false := by simp [List.isPrefixOf]; exact fun e => hb e.symm
  have hi : Lib.index (b :: T) [61] = if Lib.index T [61] == -1 then -1 else Lib.index T [61] + 1 := by rw [Lib.index, hp]; rfl
  have hge := Lib.index_ge T [61]
  unfold Lib.cut
  rw [hi]
  by_cases h : Lib.index T [61] = -1
  · rw [h]; simp
  · have hn : (Lib.index T [61] == -1) = false := by simpa using h
    obtain ⟨k, hk⟩ := Int.eq_ofNat_of_zero_le (show 0 ≤ Lib.index T [61] by omega)
    rw [hn, hk]
    have e1 : ((k : Int) + 1).toNat = k + 1 := by omega
    have h1 : 0 ≤ (k : Int) + 1 := by omega
    have h2 : 0 ≤ (k : Int) := by omega
    simp only [Bool.false_eq_true, if_false, if_pos h1, if_pos h2, e1, Int.toNat_natCast, List.take_succ_cons]
    rfl

theorem name_C {R : List UInt8} (h : (Lib.cut R [61]).1 = [67]) : R = [67] ∨ ∃ V, R = 67 :: 61 :: V := by
  cases R with
  | nil => rw [cut_nil] at h; cases h
  | cons b T =>
    by_cases hb : b = 61
    · subst hb; rw [cut_here] at h; cases h
    · rw [cut_on b T hb] at h
      simp only [List.cons.injEq] at h
      obtain ⟨rfl, h2⟩ := h
      cases T with
      | nil => exact .inl rfl
      | cons b' T' =>
        by_cases hb' : b' = 61
        · subst hb'; exact .inr ⟨T', rfl⟩
        · rw [cut_on b' T' hb'] at h2; cases h2

/-- The three kinds of a first argument. -/
theorem kinds (L : List UInt8) :
    ((L = [45, 67] ∨ L = [45, 45, 67]) ∧ flagOf L = ([67], [], false)) ∨
    (∃ V, (L = 45 :: 67 :: 61 :: V ∨ L = 45 :: 45 :: 67 :: 61 :: V) ∧ flagOf L = ([67], V, true)) ∨
    (L ≠ [45, 67] ∧ L ≠ [45, 45, 67] ∧ Lib.hasPrefix L [45, 67, 61] = false ∧ Lib.hasPrefix L [45, 45, 67, 61] = false ∧ (flagOf L).1 ≠ [67]) := by
  have fA := flag_bare 67 [] (by decide) (by simp)
  have fB : ∀ V, flagOf (45 :: 67 :: 61 :: V) = ([67], V, true) ∧ flagOf (45 :: 45 :: 67 :: 61 :: V) = ([67], V, true) := fun V => flag_value 67 [] V (by decide) (by simp)
  by_cases h1 : L = [45, 67]
  · subst h1; exact .inl ⟨.inl rfl, fA.1⟩
  by_cases h2 : L = [45, 45, 67]
  · subst h2; exact .inl ⟨.inr rfl, fA.2⟩
  right
  by_cases h3 : Lib.hasPrefix L [45, 67, 61] = true
  · unfold Lib.hasPrefix at h3
    rw [List.isPrefixOf_iff_prefix] at h3
    obtain ⟨V, rfl⟩ := h3
    exact .inl ⟨V, .inl rfl, (fB V).1⟩
  by_cases h4 : Lib.hasPrefix L [45, 45, 67, 61] = true
  · unfold Lib.hasPrefix at h4
    rw [List.isPrefixOf_iff_prefix] at h4
    obtain ⟨V, rfl⟩ := h4
    exact .inl ⟨V, .inr rfl, (fB V).2⟩
  right
  refine ⟨h1, h2, by simpa using h3, by simpa using h4, fun hf => ?_⟩
  unfold flagOf at hf
  split at hf
  · rename_i hp
    obtain ⟨X, Y, z, hc⟩ : ∃ X Y z, Lib.cut (Lib.trimPrefix (Lib.trimPrefix L [45]) [45]) [61] = (X, Y, z) := ⟨_, _, _, rfl⟩
    rw [hc] at hf
    have hX : X = [67] := by
      cases X with
      | nil => cases hf
      | cons x X =>
        by_cases hx : x = 45
        · simp [hx] at hf
        · simpa [hx] using hf
    have hn := name_C (R := Lib.trimPrefix (Lib.trimPrefix L [45]) [45]) (by rw [hc]; exact hX)
    obtain ⟨r, rfl⟩ : ∃ r, L = 45 :: r := by
      unfold Lib.hasPrefix at hp
      rw [List.isPrefixOf_iff_prefix] at hp
      obtain ⟨r, hr⟩ := hp
      exact ⟨r, hr.symm⟩
    have e1 : Lib.trimPrefix (45 :: r) [45] = r := by simp [Lib.trimPrefix, Lib.hasPrefix, List.isPrefixOf]
    rw [e1] at hn
    by_cases h5 : ∃ r', r = 45 :: r'
    · obtain ⟨r', rfl⟩ := h5
      have e2 : Lib.trimPrefix (45 :: r') [45] = r' := by simp [Lib.trimPrefix, Lib.hasPrefix, List.isPrefixOf]
      rw [e2] at hn
      rcases hn with rfl | ⟨V, rfl⟩
      · exact h2 rfl
      · exact h4 (by simp [Lib.hasPrefix, List.isPrefixOf])
    · have e2 : Lib.trimPrefix r [45] = r := by
        unfold Lib.trimPrefix
        rw [if_neg]
        intro h
        unfold Lib.hasPrefix at h
        rw [List.isPrefixOf_iff_prefix] at h
        obtain ⟨r', hr⟩ := h
        exact h5 ⟨r', hr.symm⟩
      rw [e2] at hn
      rcases hn with rfl | ⟨V, rfl⟩
      · exact h1 rfl
      · exact h3 (by simp [Lib.hasPrefix, List.isPrefixOf])
  · cases hf

set_option maxHeartbeats 2000000 in
theorem bound23 (a : Option Addr) (n c : Nat) (ss : List ByteArray) (w : World) (hn : n ≤ maxLen) (hS : Strs w a n ss) :
    Calls Try.prog 23 #[.slice a n c] w fun e w' => Answers e (Small n ss) ∧ w' = w := by
  unfold maxLen at hn
  by_cases c2 : (1048576 : Int) < n
  · clear hS
    go_enter Try.func23, Try.ntmps23
    go_wp2
    go_ret
    exact ⟨answers_no rfl, rfl⟩
  have d2 : decide ((1048576 : Int) < n) = false := decide_eq_false c2
  obtain ⟨hlen, hS⟩ := hS
  have HS : Hid (n = 0 ∨ ∃ b off, a = some ⟨b, off, none⟩ ∧ ∀ i, i < n → w.cell? ⟨b, off + i, none⟩ = some (.string (ss.getD i ⟨#[]⟩))) := hS
  clear hS hlen
  go_enter Try.func23, Try.ntmps23
  go_wp2
  go_loop [3, 4] (fun z i => ∃ (k : Nat) (q : Int), k ≤ n ∧ i = .int .i64 k ∧ z = .int .i64 q ∧ 0 ≤ q ∧ q ≤ 1048576 ∧ ∀ t, t < k → (ss.getD t ⟨#[]⟩).size ≤ 1048576) (fun _ i => n - (intOf i).toNat)
  case atStart => exact ⟨0, n, Nat.zero_le _, rfl, by go_num, by omega, by omega, fun t ht => absurd ht (by omega)⟩
  case round =>
    obtain ⟨k, q, hk, rfl, rfl, hq0, hq1, hsm⟩ := hrel
    by_cases hkn : k < n
    · rcases HS.out with h | ⟨b, off, rfl, hc⟩
      · omega
      have hck := hc k hkn
      have hkI : (k : Int) < (n : Int) := by omega
      have hk0 : (0 : Int) ≤ (k : Int) := by omega
      obtain ⟨s, hs⟩ : ∃ s, ss.getD k ⟨#[]⟩ = s := ⟨_, rfl⟩
      rw [hs] at hck
      clear hc
      by_cases e1 : (1048576 : Int) < s.size
      · clear hsm hs
        go_wp2
        go_ret
        exact ⟨answers_no rfl, rfl⟩
      by_cases e2 : (1048576 : Int) < q + s.size
      · clear hsm hs
        go_wp2
        go_ret
        exact ⟨answers_no rfl, rfl⟩
      have HN : Hid (∀ t, t < k + 1 → (ss.getD t ⟨#[]⟩).size ≤ 1048576) := by
        intro t ht
        by_cases htk : t = k
        · subst htk; rw [hs]; omega
        · exact hsm t (by omega)
      clear hsm hs
      go_wp2
      go_round
      case rel => exact ⟨k + 1, q + s.size, by omega, by go_num, by go_num, by omega, by omega, HN.out⟩
      case measure => simp [intOf]; omega
    · have HN : Hid (∀ t, t < n → (ss.getD t ⟨#[]⟩).size ≤ 1048576) := fun t ht => hsm t (by omega)
      clear hsm
      go_wp2
      go_ret
      exact ⟨answers_yes rfl ⟨by omega, HN.out⟩, rfl⟩

theorem tl (s : ByteArray) : s.toList = s.data.toList := Lib.toList_data s

/-- firstDir and cutFlag at one first argument: what each answers. -/
theorem both (b off n : Nat) (c : Nat) (a s1 : ByteArray) (v : World) (m : Int) (hm : v.cell? ⟨0, 0, none⟩ = some (.int .i64 m)) (hs : a.size ≤ 1048576) (hn : 1 ≤ n) (hc0 : v.cell? ⟨b, off, none⟩ = some (.string a))
    (hc1 : 2 ≤ n → v.cell? ⟨b, off + 1, none⟩ = some (.string s1)) :
    ∃ (d x y : ByteArray) (k : Int) (z : Bool),
      (Calls Try.prog 21 #[.slice (some ⟨b, off, none⟩) n c] v fun e w' => e = .returned (.tuple #[.string d, .int .i64 k]) ∧ ∃ q, w' = v.drewN q) ∧
      (∀ q, Calls Try.prog 15 #[.string a] (v.drewN q) fun e w' => e = .returned (.tuple #[.string x, .string y, .bool z]) ∧ ∃ q', w' = (v.drewN q).drewN q') ∧
      ((x = ⟨#[67]⟩ ∧ z = false ∧ 2 ≤ n ∧ k = 2 ∧ d = s1) ∨ (x = ⟨#[67]⟩ ∧ z = false ∧ n = 1 ∧ k = 0 ∧ d = ⟨#[]⟩) ∨ (x = ⟨#[67]⟩ ∧ z = true ∧ k = 1 ∧ d = y) ∨ ((x.toList == [67]) = false ∧ k = 0 ∧ d = ⟨#[]⟩)) := by
  have hcf : ∀ q, _ := fun q => cutFlag_any a (v.drewN q) m hm (by omega)
  rcases kinds a.data.toList with ⟨hL, hf⟩ | ⟨V, hL, hf⟩ | ⟨h1, h2, h3, h4, h5⟩
  · rw [hf] at hcf
    by_cases h2 : 2 ≤ n
    · refine ⟨s1, _, _, 2, false, zz_same _ _ _ _ (firstDir_two b off n c a s1 v h2 hc0 (hc1 h2) ?_), hcf, .inl ⟨rfl, rfl, h2, rfl, rfl⟩⟩
      rw [tl]
      rcases hL with h | h
      · exact .inl (by rw [h]; rfl)
      · exact .inr (by rw [h]; rfl)
    · refine ⟨⟨#[]⟩, _, _, 0, false, zz_same _ _ _ _ (firstDir_no b off n c a v hn hc0 (.inr (by omega)) ?_ ?_), hcf, .inr (.inl ⟨rfl, rfl, by omega, rfl, rfl⟩)⟩
      · rcases hL with h | h <;> rw [h] <;> rfl
      · rcases hL with h | h <;> rw [h] <;> rfl
  · rw [hf] at hcf
    refine ⟨⟨V.toArray⟩, _, _, 1, true, zz_firstDir _ _ _ _ ?_, hcf, .inr (.inr (.inl ⟨rfl, rfl, rfl, rfl⟩))⟩
    rcases hL with h | h
    · exact firstDir_one b off n c a _ _ true v hn hc0 (by rw [tl, h]; simp) (by rw [tl, h]; simp) (.inl (by rw [h]; simp [Lib.hasPrefix, List.isPrefixOf])) (Trip.cut_called a [45, 67] V true v m hm (by omega) (by rw [h]; exact Trip.cut_one V))
    · exact firstDir_one b off n c a _ _ true v hn hc0 (by rw [tl, h]; simp) (by rw [tl, h]; simp) (.inr ⟨by rw [h]; simp [Lib.hasPrefix, List.isPrefixOf], by rw [h]; simp [Lib.hasPrefix, List.isPrefixOf]⟩) (Trip.cut_called a [45, 45, 67] V true v m hm (by omega) (by rw [h]; exact Trip.cut_two V))
  · refine ⟨⟨#[]⟩, _, _, 0, _, zz_same _ _ _ _ (firstDir_no b off n c a v hn hc0 (.inl ⟨?_, ?_⟩) h3 h4), hcf, .inr (.inr (.inr ⟨?_, rfl, rfl⟩))⟩
    · rw [tl]; simpa using h1
    · rw [tl]; simpa using h2
    · rw [tl]; simpa using h5

set_option maxHeartbeats 4000000 in
theorem walk (a : Option Addr) (n c : Nat) (ss : List ByteArray) (w : World) (m : Int) (hm : w.cell? ⟨0, 0, none⟩ = some (.int .i64 m)) (hn : n ≤ maxLen) (hS : Strs w a n ss) (hnil : a = none → n = 0 ∧ c = 0) :
    Calls Try.prog 7 #[.slice a n c] w fun e w' => e = .returned (.bool true) ∧ Below w.heap.size w w' := by
  have hb := bound23 a n c ss w hn hS
  have HS : Hid (Strs w a n ss) := hS
  have HM : Hid (w.cell? ⟨0, 0, none⟩ = some (.int .i64 m)) := hm
  have HNil : Hid (a = none → n = 0 ∧ c = 0) := hnil
  clear hS hm hnil
  go_enter Try.func7, Try.ntmps7
  go_wp2_with fail
  refine hb.mono ?_
  rintro e w' ⟨⟨r, rfl, hr⟩, hw⟩
  have hw' := hw.symm
  subst hw'
  clear hb hw
  cases r with
  | false =>
    clear hr
    go_wp2
    go_ret
    exact ⟨rfl, Below.refl _ _⟩
  | true =>
    obtain ⟨hn1, hsm⟩ := hr rfl
    have HSm : Hid (∀ i, i < n → (ss.getD i ⟨#[]⟩).size ≤ 1048576) := hsm
    clear hr hsm
    have hadds := addStrs_any 0 a n c ss w (by omega) (by omega) hn1 HS.out
    go_wp2_with fail
    refine hadds.mono ?_
    rintro e w' ⟨⟨r, rfl⟩, hw⟩
    have hw' := hw.symm
    subst hw'
    clear hw hadds
    by_cases hr : (1048576 : Int) < r
    · go_wp2
      go_ret
      exact ⟨rfl, Below.refl _ _⟩
    go_wp2_with fail
    refine (clone_all a n c ss w hn1 HS.out HNil.out).mono ?_
    rintro e w1 ⟨b2, c2, rfl, hS1, hbel1⟩
    obtain ⟨hlen, hS1⟩ := hS1
    by_cases h0 : n = 0
    · subst h0
      clear hS1 hlen HS HSm HNil
      go_wp2_with fail
      refine (zz_same _ _ _ _ (firstDir_none b2 c2 w1)).mono ?_
      rintro e w' ⟨rfl, q, rfl⟩
      go_wp2
      go_ret
      exact ⟨rfl, below_drewN hbel1 q⟩
    rcases hS1 with h | ⟨b, off, rfl, hc⟩
    · exact absurd h h0
    have hlt := World.block_lt_of_cell? w _ HM.out
    have hm1 : w1.cell? ⟨0, 0, none⟩ = some (.int .i64 m) := (hbel1.cell (p := ⟨0, 0, none⟩) hlt).trans HM.out
    have hc0 := hc 0 (by omega)
    rw [Nat.add_zero] at hc0
    obtain ⟨d, x, y, k, z, k1, k2, hk⟩ := both b off n c2 (ss.getD 0 ⟨#[]⟩) (ss.getD 1 ⟨#[]⟩) w1 m hm1 (HSm.out 0 (by omega)) (by omega) hc0 (fun h2 => hc 1 (by omega))
    have hc1 : 2 ≤ n → w1.cell? ⟨b, off + 1, none⟩ = some (.string (ss.getD 1 ⟨#[]⟩)) := fun h2 => hc 1 (by omega)
    generalize ss.getD 0 ⟨#[]⟩ = a0 at hc0 k2
    generalize ss.getD 1 ⟨#[]⟩ = s1 at hc1 hk
    have hne : ((n : Int) == 0) = false := beq_eq_false_iff_ne.2 (by omega)
    have hp0 : (0 : Int) < n := by omega
    clear hm1 hc HS HSm HNil HM hlen hlt
    go_wp2_with fail
    refine k1.mono ?_
    rintro e w' ⟨rfl, q, rfl⟩
    clear k1
    have hbel2 := below_drewN hbel1 q
    go_wp2_with fail
    refine (k2 q).mono ?_
    rintro e w' ⟨rfl, q', rfl⟩
    clear k2
    have hbel3 : Below w.heap.size w ((w1.drewN q).drewN q') := below_drewN hbel2 q'
    have hc1' : 2 ≤ n → ((w1.drewN q).drewN q').cell? ⟨b, off + 1, none⟩ = some (.string s1) := hc1
    generalize (w1.drewN q).drewN q' = w2 at hbel3 hc1' ⊢
    clear hc1 hbel2 hbel1 hc0
    have eC : ((⟨#[67]⟩ : ByteArray).toList == [67]) = true := by rw [tl]; rfl
    rcases hk with ⟨rfl, rfl, h2, rfl, rfl⟩ | ⟨rfl, rfl, h2, rfl, rfl⟩ | ⟨rfl, rfl, rfl, rfl⟩ | ⟨hx, rfl, rfl⟩
    · have hd : decide ((1 : Int) < n) = true := decide_eq_true (by omega)
      have h1I : (1 : Int) < n := by omega
      have hc2 := hc1' h2
      clear hc1'
      go_wp2
      go_ret
      exact ⟨ret_bool (by simp), hbel3⟩
    · have hd : decide ((1 : Int) < n) = false := decide_eq_false (by omega)
      clear hc1'
      go_wp2
      go_ret
      exact ⟨rfl, hbel3⟩
    · clear hc1'
      go_wp2
      go_ret
      exact ⟨ret_bool (by simp), hbel3⟩
    · clear hc1'
      go_wp2
      go_ret
      exact ⟨rfl, hbel3⟩

set_option maxRecDepth 100000 in
theorem lifted (os : Os) (started : os.Started) (H : Type) (enc : TypeId × Value → H) :
    ReturnsInHanded {} Try.checked os 7 .any (Rows.fnFirstDirAgreesWithCutFlagSpec.pre6 enc Try.prog Try.f7 Rows.fnFirstDirAgreesWithCutFlagRow.domain false) (Rows.fnFirstDirAgreesWithCutFlagSpec.post enc Try.prog Try.f7 false true false false) := by
  refine returnsInHanded_of_change_shaped (C := Try.checked) own started (by kernel_rfl) Try.func7
    (ChangeSpec.witness6 (enc := enc) (C := Try.checked) false ⟨#[], #[.slice none 0 0], []⟩ 8 (by kernel_rfl) (by kernel_rfl) (by kernel_rfl) (by kernel_rfl)) ?_
  intro W base args ds gs before hval0 hW hcnd _ hsh _
  have hval : ∀ (j : Nat) t v, Try.f7.params[j]? = some t → args[j]? = some v → Value.okWide Try.prog W .any base t v := hval0
  have hW' := hW
  obtain ⟨p, q, hA0, hV, rfl, hfz, hnd⟩ := hW
  have hA : DataW.TrodAll enc Try.prog W 0 (fun _ => true) true Try.f7.params.toList args.toList ds p := hA0
  rw [Try.params7] at hA hval
  obtain ⟨v0, vs0, d0, ds0, p0, q0, hargs, rfl, rfl, h0, r0⟩ := trodAll_cons hA
  obtain ⟨rfl, rfl, rfl⟩ := trodAll_nil r0
  obtain rfl : args = #[v0] := by cases args; simp_all
  obtain ⟨rfl, rfl⟩ := trodVars_none hV
  obtain ⟨a1, len1, cap1, rfl⟩ := okWide_slice Try.underlying28 (hval 0 28 v0 rfl rfl)
  have lt1 : ∀ x ∈ p0, x.block < W.heap.size := by obtain ⟨m, hm⟩ := h0; exact DataW.trod_lt m _ _ _ hm
  obtain ⟨ss, hS, hlen, hnil⟩ := opened h0
  clear hA0 hval0
  obtain ⟨m, hm⟩ := Try.laysM145.s1_3 W hsh
  refine (walk a1 len1 cap1 ss W m hm hlen hS hnil).mono fun e W' ⟨he, bel⟩ => ?_
  subst he
  exact ⟨_, rfl, _, _, _, [], _, [], hW', trodAll_mk1 (shut_bool Try.underlying4 _), (trodAll_cons_mk (Below.trod laidOut (by kernel_rfl) (of_decide_eq_true (by kernel_rfl)) h0 bel lt1) trodAll_mk0), rfl, bel.frame _, fun h => by cases h⟩

theorem over : Rows.fnFirstDirAgreesWithCutFlagRow.holds Try.pinned (OpenSpec.ofChange Rows.fnFirstDirAgreesWithCutFlagSpec) :=
  OpenClaim.holds_of_wide 7 Try.f7 rfl rfl rfl rfl rfl rfl rfl ⟨rfl, rfl, rfl, rfl, rfl⟩ rfl rfl rfl rfl rfl (by kernel_rfl) Try.func7 Facts7.closed
    (of_decide_eq_true (by kernel_rfl)) (by unfold Func.isWrapper; first | (rw [if_pos (by decide +kernel)]; kernel_rfl) | (rw [if_neg (by decide +kernel)]; exact ⟨rfl, rfl⟩))
    (fun os started H enc _ => lifted os started H enc)

/-- The statement. -/
theorem proved : Rows.FnFirstDirAgreesWithCutFlagSaid := over
#print axioms proved
end Go.Proofs.Qxb6600168a.Agree
