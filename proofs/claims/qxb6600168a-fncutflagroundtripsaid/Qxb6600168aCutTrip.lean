import Derived.Test.Qxb6600168aFlag
import Derived.HandedShaped
import Derived.Test.Qxb6600168aFacts3
namespace Go.Proofs.Qxb6600168a.CutTrip
open Go.ChangeShapes Go.WideShapes Go.ChangeAt Go.RowKit
open Go.ChangeMaps (open_string shut_string)
set_option linter.unusedVariables false

theorem bound2 (p l : ByteArray) (w : World) (hp : p.size ≤ maxLen) (hl : l.size ≤ maxLen) :
    Calls Try.prog 12 #[.string p, .string l] w fun e w' => e = .returned (.bool (decide (p.size + l.size ≤ 1048576))) ∧ w' = w := by
  unfold maxLen at hp hl
  obtain ⟨r, hr⟩ : ∃ r, decide (p.size + l.size ≤ 1048576) = r := ⟨_, rfl⟩
  have HR : Hid (decide (p.size + l.size ≤ 1048576) = r) := hr
  rw [hr]
  clear hr
  go_enter Try.func12, Try.ntmps12
  go_wp2
  all_goals
    go_ret
    refine ⟨?_, rfl⟩
    first | (refine ret_bool (a := false) ?_; rw [← HR.out, decide_eq_false (by omega)]; done) | (refine ret_bool (a := true) ?_; rw [← HR.out, decide_eq_true (by omega)]; done)

/-- Is the byte among the string's? -/
def hasB (s : ByteArray) (q : Int) : Bool := (s.data.toList.map fun b => (b.toNat : Int)).any (· == q)

theorem hasB_yes (s : ByteArray) (q : Int) (k : Nat) (h : k < s.size) (e : (s[k].toNat : Int) = q) : hasB s q = true := by
  unfold hasB
  rw [List.any_eq_true]
  refine ⟨q, ?_, by simp⟩
  rw [List.mem_map]
  exact ⟨s[k], List.getElem_mem (l := s.data.toList) (by simpa using h), e⟩

theorem hasB_no (s : ByteArray) (q : Int) (hno : ∀ k (h : k < s.size), (s[k].toNat : Int) ≠ q) : hasB s q = false := by
  unfold hasB
  rw [List.any_eq_false]
  intro x hx
  rw [List.mem_map] at hx
  obtain ⟨b, hb, rfl⟩ := hx
  obtain ⟨k, hk, rfl⟩ := List.getElem_of_mem hb
  have := hno k (by simpa using hk)
  rw [beq_iff_eq]
  exact this

theorem hasB_false {s : ByteArray} {q : Int} (h : hasB s q = false) : ∀ b ∈ s.data.toList, (b.toNat : Int) ≠ q := by
  intro b hb e
  unfold hasB at h
  rw [List.any_eq_false] at h
  have := h q (by rw [List.mem_map]; exact ⟨b, hb, e⟩)
  simp at this

set_option maxHeartbeats 1000000 in
theorem hasByte_any (s : ByteArray) (q : Int) (w : World) (hs : s.size ≤ maxLen) :
    Calls Try.prog 14 #[.string s, .int .u8 q] w fun e w' => e = .returned (.bool (hasB s q)) ∧ w' = w := by
  unfold maxLen at hs
  go_enter Try.func14, Try.ntmps14
  go_wp2
  go_loop [5] (fun i => ∃ k : Nat, k ≤ s.size ∧ i = .int .i64 k ∧ ∀ j (h : j < s.size), j < k → (s[j].toNat : Int) ≠ q) (fun i => s.size - (intOf i).toNat)
  case atStart => exact ⟨0, Nat.zero_le _, rfl, fun j h hj => absurd hj (by omega)⟩
  case round =>
    obtain ⟨k, hk, rfl, hno⟩ := hrel
    by_cases hlt : k < s.size
    · obtain ⟨v, hv⟩ : ∃ v, (s[k].toNat : Int) = v := ⟨_, rfl⟩
      by_cases hc : v = q
      · have HY : Hid (hasB s q = true) := hasB_yes s q k hlt (by rw [hv]; exact hc)
        have hcI : (v == q) = true := beq_iff_eq.2 hc
        clear hno hc
        go_wp2
        go_ret
        exact ⟨ret_bool HY.out.symm, rfl⟩
      · have hcI : (v == q) = false := beq_eq_false_iff_ne.2 hc
        have HN : Hid (∀ j (h : j < s.size), j < k + 1 → (s[j].toNat : Int) ≠ q) := by
          intro j h hj
          by_cases hjk : j = k
          · subst hjk; rw [hv]; exact hc
          · exact hno j h (by omega)
        clear hno hc
        go_wp2
        go_round
        case rel => exact ⟨k + 1, by omega, by go_num, HN.out⟩
        case measure => simp [intOf]; omega
    · have HN : Hid (hasB s q = false) := hasB_no s q fun j h => hno j h (by omega)
      clear hno
      go_wp2
      go_ret
      exact ⟨ret_bool HN.out.symm, rfl⟩

theorem back (s : ByteArray) : (⟨s.data.toList.toArray⟩ : ByteArray) = s := by cases s; rfl

/-- The four flags, read back. -/
theorem flags (name value : ByteArray) (h0 : 0 < name.size) (h45 : name[0] ≠ 45) (hno : hasB name 61 = false) :
    flagOf ((⟨#[45]⟩ : ByteArray) ++ name).data.toList = (name.data.toList, [], false) ∧ flagOf ((⟨#[45, 45]⟩ : ByteArray) ++ name).data.toList = (name.data.toList, [], false) ∧
    flagOf ((⟨#[45]⟩ : ByteArray) ++ name ++ ⟨#[61]⟩ ++ value).data.toList = (name.data.toList, value.data.toList, true) ∧ flagOf ((⟨#[45, 45]⟩ : ByteArray) ++ name ++ ⟨#[61]⟩ ++ value).data.toList = (name.data.toList, value.data.toList, true) := by
  obtain ⟨x, N, hN⟩ : ∃ x N, name.data.toList = x :: N := by
    cases h : name.data.toList with
    | nil => have hl : name.data.toList.length = name.size := by simp
             rw [h] at hl; simp at hl; omega
    | cons x N => exact ⟨x, N, rfl⟩
  have hx : x ≠ 45 := by
    have e : name[0] = x := by
      have : name.data.toList[0]'(by rw [hN]; simp) = x := by simp [hN]
      exact this
    rw [← e]; exact h45
  have h61 : ∀ b ∈ x :: N, b ≠ 61 := by
    intro b hb e
    rw [← hN] at hb
    refine hasB_false hno b hb ?_
    rw [e]; rfl
  obtain ⟨f1, f2⟩ := flag_bare x N hx h61
  obtain ⟨f3, f4⟩ := flag_value x N value.data.toList hx h61
  refine ⟨?_, ?_, ?_, ?_⟩
  · rw [ByteArray.data_append, Array.toList_append, hN]; exact f1
  · rw [ByteArray.data_append, Array.toList_append, hN]; exact f2
  · rw [ByteArray.data_append, ByteArray.data_append, ByteArray.data_append, Array.toList_append, Array.toList_append, Array.toList_append, hN]
    simpa using f3
  · rw [ByteArray.data_append, ByteArray.data_append, ByteArray.data_append, Array.toList_append, Array.toList_append, Array.toList_append, hN]
    simpa using f4

/-- cutFlag of a text whose reading is known. -/
theorem reads (a x y : ByteArray) (z : Bool) (w : World) (m : Int) (hm : w.cell? ⟨0, 0, none⟩ = some (.int .i64 m)) (hs : a.size < 4294967281) (h : flagOf a.data.toList = (x.data.toList, y.data.toList, z)) :
    Calls Try.prog 15 #[.string a] w fun e w' => e = .returned (.tuple #[.string x, .string y, .bool z]) ∧ ∃ q, w' = w.drewN q := by
  have := cutFlag_any a w m hm hs
  rw [h] at this
  simp only [back] at this
  exact this

set_option maxHeartbeats 4000000 in
theorem walk (name value : ByteArray) (w0 : name.size ≤ maxLen) (w1 : value.size ≤ maxLen) (w : World) (m : Int) (hm : w.cell? ⟨0, 0, none⟩ = some (.int .i64 m)) :
    Calls Try.prog 3 #[.string name, .string value] w fun e w' => e = .returned (.bool true) ∧ Below w.heap.size w w' := by
  have hb := bound2 name value w w0 w1
  by_cases h1 : name.size + value.size ≤ 1048576
  case neg =>
    have ed : decide (name.size + value.size ≤ 1048576) = false := decide_eq_false h1
    rw [ed] at hb
    clear hm
    go_enter Try.func3, Try.ntmps3
    go_wp2_with (go_at_call 12; refine hb.mono ?_; rintro e w' ⟨rfl, hw⟩; have hw' := hw.symm; subst hw')
    go_ret
    exact ⟨rfl, Below.refl _ _⟩
  have ed : decide (name.size + value.size ≤ 1048576) = true := decide_eq_true h1
  rw [ed] at hb
  have a1 := addStr_any 0 name w (by omega) (by omega) (by omega)
  have a2 := addStr_any name.size value w (by omega) (by omega) (by omega)
  rw [Int.zero_add] at a1
  have hsum : decide ((1048576 : Int) < name.size + value.size) = false := decide_eq_false (by omega)
  have HM : Hid (w.cell? ⟨0, 0, none⟩ = some (.int .i64 m)) := hm
  clear hm
  by_cases h0 : name.size = 0
  · have he : name.toList.isEmpty = true := by
      rw [Lib.toList_data, List.isEmpty_iff_length_eq_zero]
      simpa using h0
    clear h0
    go_enter Try.func3, Try.ntmps3
    go_wp2_with (first
      | (go_at_call 12; refine hb.mono ?_; rintro e w' ⟨rfl, hw⟩; have hw' := hw.symm; subst hw')
      | (go_at_call_of 13 (Value.int IntKind.i64 0); refine a1.mono ?_; rintro e w' ⟨rfl, hw⟩; have hw' := hw.symm; subst hw')
      | (go_at_call_of 13 (Value.string value); refine a2.mono ?_; rintro e w' ⟨rfl, hw⟩; have hw' := hw.symm; subst hw'))
    go_ret
    exact ⟨rfl, Below.refl _ _⟩
  have he : name.toList.isEmpty = false := by
    rw [Lib.toList_data]
    cases hh : name.data.toList with
    | nil => have hl : name.data.toList.length = name.size := by simp
             rw [hh] at hl; simp at hl; omega
    | cons => rfl
  have hpos : 0 < name.size := by omega
  have hposI : (0 : Int) < name.size := by omega
  by_cases h45 : name[0] = 45
  · have h45' : ((name[0].toNat : Int) == 45) = true := by rw [h45]; rfl
    clear h45
    go_enter Try.func3, Try.ntmps3
    go_wp2_with (first
      | (go_at_call 12; refine hb.mono ?_; rintro e w' ⟨rfl, hw⟩; have hw' := hw.symm; subst hw')
      | (go_at_call_of 13 (Value.int IntKind.i64 0); refine a1.mono ?_; rintro e w' ⟨rfl, hw⟩; have hw' := hw.symm; subst hw')
      | (go_at_call_of 13 (Value.string value); refine a2.mono ?_; rintro e w' ⟨rfl, hw⟩; have hw' := hw.symm; subst hw'))
    go_ret
    exact ⟨rfl, Below.refl _ _⟩
  have h45' : ((name[0].toNat : Int) == 45) = false := by
    rw [beq_eq_false_iff_ne]
    intro h
    exact h45 (UInt8.toNat.inj (by show name[0].toNat = 45; omega))
  have hh := hasByte_any name 61 w w0
  obtain ⟨b, hbv⟩ : ∃ b, hasB name 61 = b := ⟨_, rfl⟩
  rw [hbv] at hh
  cases b with
  | true =>
    clear hbv h45
    go_enter Try.func3, Try.ntmps3
    go_wp2_with (first
      | (go_at_call 12; refine hb.mono ?_; rintro e w' ⟨rfl, hw⟩; have hw' := hw.symm; subst hw')
      | (go_at_call_of 13 (Value.int IntKind.i64 0); refine a1.mono ?_; rintro e w' ⟨rfl, hw⟩; have hw' := hw.symm; subst hw')
      | (go_at_call_of 13 (Value.string value); refine a2.mono ?_; rintro e w' ⟨rfl, hw⟩; have hw' := hw.symm; subst hw')
      | (go_at_call 14; refine hh.mono ?_; rintro e w' ⟨rfl, hw⟩; have hw' := hw.symm; subst hw'))
    go_ret
    exact ⟨rfl, Below.refl _ _⟩
  | false =>
    obtain ⟨f1, f2, f3, f4⟩ := flags name value hpos h45 hbv
    have s1 : (⟨#[45]⟩ : ByteArray).size = 1 := rfl
    have s2 : (⟨#[45, 45]⟩ : ByteArray).size = 2 := rfl
    have s3 : (⟨#[61]⟩ : ByteArray).size = 1 := rfl
    have k1 : ∀ v : World, v.cell? ⟨0, 0, none⟩ = some (.int .i64 m) → Calls Try.prog 15 #[.string ((⟨#[45]⟩ : ByteArray) ++ name)] v fun e w' => e = .returned (.tuple #[.string name, .string ⟨#[]⟩, .bool false]) ∧ ∃ q, w' = v.drewN q :=
      fun v hv => reads _ name ⟨#[]⟩ false v m hv (by rw [ByteArray.size_append]; omega) f1
    have k2 : ∀ v : World, v.cell? ⟨0, 0, none⟩ = some (.int .i64 m) → Calls Try.prog 15 #[.string ((⟨#[45, 45]⟩ : ByteArray) ++ name)] v fun e w' => e = .returned (.tuple #[.string name, .string ⟨#[]⟩, .bool false]) ∧ ∃ q, w' = v.drewN q :=
      fun v hv => reads _ name ⟨#[]⟩ false v m hv (by rw [ByteArray.size_append]; omega) f2
    have k3 : ∀ v : World, v.cell? ⟨0, 0, none⟩ = some (.int .i64 m) → Calls Try.prog 15 #[.string ((⟨#[45]⟩ : ByteArray) ++ name ++ ⟨#[61]⟩ ++ value)] v fun e w' => e = .returned (.tuple #[.string name, .string value, .bool true]) ∧ ∃ q, w' = v.drewN q :=
      fun v hv => reads _ name value true v m hv (by rw [ByteArray.size_append, ByteArray.size_append, ByteArray.size_append]; omega) f3
    have k4 : ∀ v : World, v.cell? ⟨0, 0, none⟩ = some (.int .i64 m) → Calls Try.prog 15 #[.string ((⟨#[45, 45]⟩ : ByteArray) ++ name ++ ⟨#[61]⟩ ++ value)] v fun e w' => e = .returned (.tuple #[.string name, .string value, .bool true]) ∧ ∃ q, w' = v.drewN q :=
      fun v hv => reads _ name value true v m hv (by rw [ByteArray.size_append, ByteArray.size_append, ByteArray.size_append]; omega) f4
    have K1 : Hid _ := k1
    have K2 : Hid _ := k2
    have K3 : Hid _ := k3
    have K4 : Hid _ := k4
    clear k1 k2 k3 k4
    clear f1 f2 f3 f4 s1 s2 s3 hbv h45
    go_enter Try.func3, Try.ntmps3
    go_wp2_with (first
      | (go_at_call 12; refine hb.mono ?_; rintro e w' ⟨rfl, hw⟩; have hw' := hw.symm; subst hw')
      | (go_at_call_of 13 (Value.int IntKind.i64 0); refine a1.mono ?_; rintro e w' ⟨rfl, hw⟩; have hw' := hw.symm; subst hw')
      | (go_at_call_of 13 (Value.string value); refine a2.mono ?_; rintro e w' ⟨rfl, hw⟩; have hw' := hw.symm; subst hw')
      | (go_at_call 14; refine hh.mono ?_; rintro e w' ⟨rfl, hw⟩; have hw' := hw.symm; subst hw'))
    refine (K1.out w HM.out).mono ?_
    rintro e v' ⟨rfl, q, rfl⟩
    have HM1 : Hid ((w.drewN q).cell? ⟨0, 0, none⟩ = some (.int .i64 m)) := HM.out
    have hb1 : Below w.heap.size w (w.drewN q) := below_drewN (Below.refl _ _) q
    generalize w.drewN q = v1 at HM1 hb1 ⊢
    go_wp2_with fail
    refine (K2.out v1 HM1.out).mono ?_
    rintro e v' ⟨rfl, q, rfl⟩
    have HM2 : Hid ((v1.drewN q).cell? ⟨0, 0, none⟩ = some (.int .i64 m)) := HM1.out
    have hb2 : Below w.heap.size w (v1.drewN q) := below_drewN hb1 q
    generalize v1.drewN q = v2 at HM2 hb2 ⊢
    go_wp2_with fail
    refine (K3.out v2 HM2.out).mono ?_
    rintro e v' ⟨rfl, q, rfl⟩
    have HM3 : Hid ((v2.drewN q).cell? ⟨0, 0, none⟩ = some (.int .i64 m)) := HM2.out
    have hb3 : Below w.heap.size w (v2.drewN q) := below_drewN hb2 q
    generalize v2.drewN q = v3 at HM3 hb3 ⊢
    go_wp2_with fail
    refine (K4.out v3 HM3.out).mono ?_
    rintro e v' ⟨rfl, q, rfl⟩
    have HM4 : Hid ((v3.drewN q).cell? ⟨0, 0, none⟩ = some (.int .i64 m)) := HM3.out
    have hb4 : Below w.heap.size w (v3.drewN q) := below_drewN hb3 q
    generalize v3.drewN q = v4 at HM4 hb4 ⊢
    go_wp2
    go_ret
    exact ⟨rfl, hb4⟩

theorem own : ownKnob Try.prog.godebug = none := by kernel_rfl

set_option maxRecDepth 100000 in
theorem lifted (os : Os) (started : os.Started) (H : Type) (enc : TypeId × Value → H) :
    ReturnsInHanded {} Try.checked os 3 .any (Rows.fnCutFlagRoundTripSpec.pre6 enc Try.prog Try.f3 Rows.fnCutFlagRoundTripRow.domain false) (Rows.fnCutFlagRoundTripSpec.post enc Try.prog Try.f3 false true false false) := by
  refine returnsInHanded_of_change_shaped (C := Try.checked) own started (by kernel_rfl) Try.func3
    (ChangeSpec.witness6 (enc := enc) (C := Try.checked) false ⟨#[], #[.string ByteArray.empty, .string ByteArray.empty], []⟩ 8 (by kernel_rfl) (by kernel_rfl) (by kernel_rfl) (by kernel_rfl)) ?_
  intro W base args ds gs before hval0 hW hcnd _ hsh _
  have hval : ∀ (j : Nat) t v, Try.f3.params[j]? = some t → args[j]? = some v → Value.okWide Try.prog W .any base t v := hval0
  have hW' := hW
  obtain ⟨p, q, hA0, hV, rfl, hfz, hnd⟩ := hW
  have hA : DataW.TrodAll enc Try.prog W 0 (fun _ => true) true Try.f3.params.toList args.toList ds p := hA0
  rw [Try.params3] at hA hval
  obtain ⟨v0, vs0, d0, ds0, p0, q0, hargs, rfl, rfl, h0, r0⟩ := trodAll_cons hA
  obtain ⟨v1, vs1, d1, ds1, p1, q1, rfl, rfl, rfl, h1, r1⟩ := trodAll_cons r0
  obtain ⟨rfl, rfl, rfl⟩ := trodAll_nil r1
  obtain rfl : args = #[v0, v1] := by cases args; simp_all
  obtain ⟨rfl, rfl⟩ := trodVars_none hV
  obtain ⟨a0, rfl, rfl, rfl, w0⟩ := open_string Try.underlying9 (hval 0 9 v0 rfl rfl) h0
  obtain ⟨a1, rfl, rfl, rfl, w1⟩ := open_string Try.underlying9 (hval 1 9 v1 rfl rfl) h1
  clear hA0 hval0
  simp only [List.append_nil] at hW'
  obtain ⟨m, hm⟩ := Try.laysM145.s1_3 W hsh
  refine (walk a0 a1 w0 w1 W m hm).mono fun e W' ⟨he, bel⟩ => ?_
  subst he
  exact ⟨_, rfl, _, _, _, [], [], [], hW', trodAll_mk1 (shut_bool Try.underlying4 _), (trodAll_cons_mk (shut_string Try.underlying9 w0) (trodAll_cons_mk (shut_string Try.underlying9 w1) trodAll_mk0)), rfl, bel.frame _, fun h => by cases h⟩

theorem over : Rows.fnCutFlagRoundTripRow.holds Try.pinned (OpenSpec.ofChange Rows.fnCutFlagRoundTripSpec) :=
  OpenClaim.holds_of_wide 3 Try.f3 rfl rfl rfl rfl rfl rfl rfl ⟨rfl, rfl, rfl, rfl, rfl⟩ rfl rfl rfl rfl rfl (by kernel_rfl) Try.func3 Facts3.closed
    (of_decide_eq_true (by kernel_rfl)) (by unfold Func.isWrapper; first | (rw [if_pos (by decide +kernel)]; kernel_rfl) | (rw [if_neg (by decide +kernel)]; exact ⟨rfl, rfl⟩))
    (fun os started H enc _ => lifted os started H enc)

/-- The statement. -/
theorem proved : Rows.FnCutFlagRoundTripSaid := over
#print axioms proved
end Go.Proofs.Qxb6600168a.CutTrip
