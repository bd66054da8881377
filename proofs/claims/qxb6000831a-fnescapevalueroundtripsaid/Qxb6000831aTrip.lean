import Derived.Test.Qxb6000831aEsc
import Derived.Test.Qxb6000831aUne
import Derived.Test.Qxb6000831aVal
import Derived.HandedShaped
import Derived.Test.Qxb6000831aFacts5
namespace Go.Proofs.Qxb6000831a.Trip
open Go.ChangeShapes Go.WideShapes Go.ChangeAt Go.RowKit
open Go.ChangeMaps (open_string shut_string)
set_option linter.unusedVariables false

theorem ret_bool {a b : Bool} (h : a = b) : Ending.returned (.bool a) = .returned (.bool b) := by rw [h]

/-- The bound on the length, laid by program. -/
theorem bound1 (s : ByteArray) (w : World) (hs : s.size ≤ maxLen) : Calls Try.prog 13 #[.string s] w fun e w' => e = .returned (.bool (decide (s.size ≤ 1048576))) ∧ w' = w := by
  unfold maxLen at hs
  obtain ⟨r, hr⟩ : ∃ r, decide (s.size ≤ 1048576) = r := ⟨_, rfl⟩
  have HR : Hid (decide (s.size ≤ 1048576) = r) := hr
  rw [hr]
  clear hr
  go_enter Try.func13, Try.ntmps13
  go_wp2
  all_goals
    go_ret
    refine ⟨?_, rfl⟩
    first | (refine ret_bool (a := false) ?_; rw [← HR.out, decide_eq_false (by omega)]; done) | (refine ret_bool (a := true) ?_; rw [← HR.out, decide_eq_true (by omega)]; done)

/-- ZZescapeValue hands on. -/
theorem zz_escape (s : ByteArray) (w : World) (hs : s.size ≤ 1048576) (hg : Good s 0) :
    Calls Try.prog 16 #[.string s] w fun e w' => (∃ acc : List UInt8, e = .returned (.string ⟨acc.toArray⟩) ∧ unesc acc = s.data.toList ∧ acc.length ≤ 5 * s.size) ∧ Below w.heap.size w w' := by
  have h := escape_any s w hs hg
  clear hg
  go_enter Try.func16, Try.ntmps16
  go_wp2_with (go_at_call 27; refine h.mono ?_; rintro e w' ⟨⟨acc, rfl, h1, h2⟩, hb⟩; have H1 : Hid (unesc acc = s.data.toList) := h1; clear h1)
  go_ret
  exact ⟨⟨acc, rfl, H1.out, h2⟩, hb⟩

theorem walk (s : ByteArray) (hs : s.size ≤ maxLen) (w : World) :
    Calls Try.prog 5 #[.string s] w fun e w' => e = .returned (.bool true) ∧ Below w.heap.size w w' := by
  have hb := bound1 s w hs
  by_cases h1 : s.size ≤ 1048576
  case neg =>
    rw [decide_eq_false h1] at hb
    go_enter Try.func5, Try.ntmps5
    go_wp2_with (go_at_call 13; refine hb.mono ?_; rintro e w' ⟨rfl, hw⟩; have hw' := hw.symm; subst hw')
    go_ret
    exact ⟨rfl, Below.refl _ _⟩
  rw [decide_eq_true h1] at hb
  have d1 : ¬ (1048576 : Int) < s.size := by omega
  have hv := valid_any s w h1
  go_enter Try.func5, Try.ntmps5
  go_wp2_with (first
    | (go_at_call 13; refine hb.mono ?_; rintro e w' ⟨rfl, hw⟩; have hw' := hw.symm; subst hw')
    | (go_at_call 14; refine hv.mono ?_))
  rintro e w1 ⟨⟨r, rfl, hr⟩, hw1⟩
  have hw1' := hw1.symm
  subst hw1'
  cases r with
  | false =>
    go_wp2
    go_ret
    exact ⟨rfl, Below.refl _ _⟩
  | true =>
    have hz := zz_escape s w h1 (hr rfl)
    clear hr hv hb
    go_wp2_with (go_at_call 16; refine hz.mono ?_)
    rintro e w1 ⟨⟨acc, rfl, hu, hl⟩, hb1⟩
    have hc := unescape_any ⟨acc.toArray⟩ w1 (by show acc.length ≤ _; omega)
    have eu : (⟨(unesc (⟨acc.toArray⟩ : ByteArray).data.toList).toArray⟩ : ByteArray) = s := by
      show (⟨(unesc acc).toArray⟩ : ByteArray) = s
      rw [hu]
    rw [eu] at hc
    clear hu eu hz
    go_wp2_with (go_at_call 15; refine hc.mono ?_)
    rintro e w2 ⟨rfl, hb2⟩
    go_wp2
    go_ret
    exact ⟨ret_bool (by simp), hb1.trans (hb2.mono hb1.size)⟩

theorem own : ownKnob Try.prog.godebug = none := by kernel_rfl

set_option maxRecDepth 100000 in
theorem lifted (os : Os) (started : os.Started) (H : Type) (enc : TypeId × Value → H) :
    ReturnsInHanded {} Try.checked os 5 .any (Rows.fnEscapeValueRoundTripSpec.pre6 enc Try.prog Try.f5 Rows.fnEscapeValueRoundTripRow.domain false) (Rows.fnEscapeValueRoundTripSpec.post enc Try.prog Try.f5 false true false false) := by
  refine returnsInHanded_of_change (C := Try.checked) own started (by kernel_rfl) Try.func5
    (ChangeSpec.witness6 (enc := enc) (C := Try.checked) false ⟨#[], #[.string ByteArray.empty], []⟩ 8 (by kernel_rfl) (by kernel_rfl) (by kernel_rfl) (by kernel_rfl)) ?_
  intro W base args ds gs before hval0 hW hcnd _
  have hval : ∀ (j : Nat) t v, Try.f5.params[j]? = some t → args[j]? = some v → Value.okWide Try.prog W .any base t v := hval0
  have hW' := hW
  obtain ⟨p, q, hA0, hV, rfl, hfz, hnd⟩ := hW
  have hA : DataW.TrodAll enc Try.prog W 0 (fun _ => true) true Try.f5.params.toList args.toList ds p := hA0
  rw [Try.params5] at hA hval
  obtain ⟨v0, vs0, d0, ds0, p0, q0, hargs, rfl, rfl, h0, r0⟩ := trodAll_cons hA
  obtain ⟨rfl, rfl, rfl⟩ := trodAll_nil r0
  obtain rfl : args = #[v0] := by cases args; simp_all
  obtain ⟨rfl, rfl⟩ := trodVars_none hV
  obtain ⟨a0, rfl, rfl, rfl, w0⟩ := open_string Try.underlying9 (hval 0 9 v0 rfl rfl) h0
  clear hA0 hval0
  simp only [List.append_nil] at hW'
  refine (walk a0 w0 W).mono fun e W' ⟨he, bel⟩ => ?_
  subst he
  exact ⟨_, rfl, _, _, _, [], [], [], hW', trodAll_mk1 (shut_bool Try.underlying4 _), (trodAll_cons_mk (shut_string Try.underlying9 w0) trodAll_mk0), rfl, bel.frame _, fun h => by cases h⟩

theorem over : Rows.fnEscapeValueRoundTripRow.holds Try.pinned (OpenSpec.ofChange Rows.fnEscapeValueRoundTripSpec) :=
  OpenClaim.holds_of_wide 5 Try.f5 rfl rfl rfl rfl rfl rfl rfl ⟨rfl, rfl, rfl, rfl, rfl⟩ rfl rfl rfl rfl rfl (by kernel_rfl) Try.func5 Facts5.closed
    (of_decide_eq_true (by kernel_rfl)) (by unfold Func.isWrapper; first | (rw [if_pos (by decide +kernel)]; kernel_rfl) | (rw [if_neg (by decide +kernel)]; exact ⟨rfl, rfl⟩))
    (fun os started H enc _ => lifted os started H enc)

/-- The statement. -/
theorem proved : Rows.FnEscapeValueRoundTripSaid := over
#print axioms proved
end Go.Proofs.Qxb6000831a.Trip
