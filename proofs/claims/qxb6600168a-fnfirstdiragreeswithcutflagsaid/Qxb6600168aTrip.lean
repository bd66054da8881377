import Derived.Test.Qxb6600168aDir
import Derived.Test.Qxb6600168aFacts6
import Derived.HandedShaped
import Derived.SliceStrings
namespace Go.Proofs.Qxb6600168a
open Go.ChangeShapes Go.WideShapes Go.ChangeAt Go.RowKit
set_option linter.unusedVariables false

theorem Strs.later {w w' : World} {a : Option Addr} {n : Nat} {ss : List ByteArray} (h : Strs w a n ss) (hb : Below w.heap.size w w') : Strs w' a n ss := by
  obtain ⟨hl, h⟩ := h
  refine ⟨hl, ?_⟩
  rcases h with h | ⟨b, off, ha, hc⟩
  · exact .inl h
  · exact .inr ⟨b, off, ha, fun i hi => (hb.cell (p := ⟨b, off + i, none⟩) (World.block_lt_of_cell? w _ (hc i hi))).trans (hc i hi)⟩

/-- The cells of a row of strings that the call made. -/
theorem own_cells {w : World} {base g n : Nat} {ss : List ByteArray} (h : w.ownsRow base 9 1 (.slice (some ⟨g, 0, none⟩) n n) n (ss.map Value.string)) : ss.length = n ∧ ∀ i, i < n → w.cell? ⟨g, i, none⟩ = some (.string (ss.getD i ⟨#[]⟩)) := by
  have hl : ss.length = n := by have := h.1; simpa using this
  refine ⟨hl, fun i hi => ?_⟩
  rw [h.cellAt i (by omega), List.getElem?_map, List.getD_eq_getElem?_getD, List.getElem?_eq_getElem (by omega)]
  rfl

theorem own_strs {w : World} {base g n : Nat} {ss : List ByteArray} (h : w.ownsRow base 9 1 (.slice (some ⟨g, 0, none⟩) n n) n (ss.map Value.string)) : Strs w (some ⟨g, 0, none⟩) n ss := by
  obtain ⟨hl, hc⟩ := own_cells h
  exact ⟨hl, .inr ⟨g, 0, rfl, fun i hi => by rw [Nat.zero_add]; exact hc i hi⟩⟩

theorem clone_all (a : Option Addr) (n c : Nat) (ss : List ByteArray) (w : World) (hn : n ≤ 1048576) (hS : Strs w a n ss) (hnil : a = none → n = 0 ∧ c = 0) :
    Calls Try.prog 20 #[.slice a n c] w fun e w' => ∃ b2 c2, e = .returned (.slice b2 n c2) ∧ Strs w' b2 n ss ∧ Below w.heap.size w w' := by
  cases a with
  | none =>
    obtain ⟨rfl, rfl⟩ := hnil rfl
    exact (clone_nil w).mono fun e w' ⟨he, hw⟩ => ⟨none, 0, he, by rw [hw]; exact hS, by rw [hw]; exact Below.refl _ _⟩
  | some ad => exact (clone_any ad n c ss w hn hS).mono fun e w' ⟨he, ho, hb⟩ => ⟨_, _, he, own_strs ho, hb⟩

end Go.Proofs.Qxb6600168a
namespace Go.Proofs.Qxb6600168a.Trip
open Go.ChangeShapes Go.WideShapes Go.ChangeAt Go.RowKit
set_option linter.unusedVariables false

theorem tl (s : ByteArray) : s.toList = s.data.toList := Lib.toList_data s

theorem cell0_alloc (w : World) (cs : Array Value) (t : TypeId) (i : Nat) (v : Value) (h : cs[i]? = some v) : (w.alloc (.cells cs t)).cell? ⟨w.heap.size, i, none⟩ = some v := by
  have : (w.alloc (.cells cs t)).heap[w.heap.size]? = some (.cells cs t (0, 0)) := heap_alloc_new w _
  simp only [World.cell?, this]
  simpa using h

theorem two_called (v1 : World) (a0 dir : ByteArray) (b2 : Option Addr) (n c2 : Nat) (ss : List ByteArray) (hS : Strs v1 b2 n ss) (hn : n ≤ 1048576) :
    Calls Try.prog 22 #[.slice (some ⟨v1.heap.size, 0, none⟩) 2 2, .slice b2 n c2] (v1.alloc (.cells #[.string a0, .string dir] 9)) fun e w' =>
      ∃ g, e = .returned (.slice (some ⟨g, 0, none⟩) (2 + n) (2 + n)) ∧ w'.cell? ⟨g, 0, none⟩ = some (.string a0) ∧ w'.cell? ⟨g, 0 + 1, none⟩ = some (.string dir) ∧ Below v1.heap.size v1 w' := by
  have hA : ∀ i, i < 2 → (v1.alloc (.cells #[.string a0, .string dir] 9)).cell? ⟨v1.heap.size, i, none⟩ = some (.string (([a0, dir] : List ByteArray).getD i ⟨#[]⟩)) := by
    intro i hi
    refine cell0_alloc v1 _ 9 i _ ?_
    have : i = 0 ∨ i = 1 := by omega
    rcases this with rfl | rfl <;> rfl
  have hal : Below v1.heap.size v1 (v1.alloc (.cells #[.string a0, .string dir] 9)) := ba (Below.refl _ _) _
  refine (concat_any v1.heap.size 2 2 [a0, dir] b2 n c2 ss _ (by omega) hn rfl hA (hS.later hal)).mono fun e w' ⟨he, ho, hb⟩ => ?_
  obtain ⟨_, hc⟩ := own_cells ho
  exact ⟨_, he, hc 0 (by omega), hc 1 (by omega), bt hal hb⟩

theorem one_called (v1 : World) (a0 : ByteArray) (b2 : Option Addr) (n c2 : Nat) (ss : List ByteArray) (hS : Strs v1 b2 n ss) (hn : n ≤ 1048576) :
    Calls Try.prog 22 #[.slice (some ⟨v1.heap.size, 0, none⟩) 1 1, .slice b2 n c2] (v1.alloc (.cells #[.string a0] 9)) fun e w' =>
      ∃ g, e = .returned (.slice (some ⟨g, 0, none⟩) (1 + n) (1 + n)) ∧ w'.cell? ⟨g, 0, none⟩ = some (.string a0) ∧ Below v1.heap.size v1 w' := by
  have hA : ∀ i, i < 1 → (v1.alloc (.cells #[.string a0] 9)).cell? ⟨v1.heap.size, i, none⟩ = some (.string (([a0] : List ByteArray).getD i ⟨#[]⟩)) := by
    intro i hi
    refine cell0_alloc v1 _ 9 i _ ?_
    have : i = 0 := by omega
    subst this; rfl
  have hal : Below v1.heap.size v1 (v1.alloc (.cells #[.string a0] 9)) := ba (Below.refl _ _) _
  refine (concat_any v1.heap.size 1 1 [a0] b2 n c2 ss _ (by omega) hn rfl hA (hS.later hal)).mono fun e w' ⟨he, ho, hb⟩ => ?_
  obtain ⟨_, hc⟩ := own_cells ho
  exact ⟨_, he, hc 0 (by omega), bt hal hb⟩

theorem cut_called (a : ByteArray) (X Y : List UInt8) (z : Bool) (w : World) (m : Int) (hm : w.cell? ⟨0, 0, none⟩ = some (.int .i64 m)) (hs : a.size < 4294967281) (h : Lib.cut a.data.toList [61] = (X, Y, z)) :
    Calls Try.prog 35 #[.string a, .string ⟨#[61]⟩] w fun e w' => e = .returned (.tuple #[.string ⟨X.toArray⟩, .string ⟨Y.toArray⟩, .bool z]) ∧ ∃ q, w' = w.drewN q := by
  have hc := Any.strings_Cut { Try.laysM145 with } a ⟨#[61]⟩ m w hs hm
  have e : (⟨#[61]⟩ : ByteArray).data.toList = [61] := rfl
  rw [e, h] at hc
  exact hc

theorem cut_one (D : List UInt8) : Lib.cut (45 :: 67 :: 61 :: D) [61] = ([45, 67], D, true) := by
  have e : Lib.index (45 :: 67 :: 61 :: D) [61] = 2 := by simp [Lib.index, List.isPrefixOf]
  unfold Lib.cut
  rw [e]
  simp
theorem cut_two (D : List UInt8) : Lib.cut (45 :: 45 :: 67 :: 61 :: D) [61] = ([45, 45, 67], D, true) := by
  have e : Lib.index (45 :: 45 :: 67 :: 61 :: D) [61] = 3 := by simp [Lib.index, List.isPrefixOf]
  unfold Lib.cut
  rw [e]
  simp

theorem back (s : ByteArray) : (⟨s.data.toList.toArray⟩ : ByteArray) = s := by cases s; rfl

/-- A first argument -C=dir. -/
theorem dir_one (a0 dir : ByteArray) (v : World) (m : Int) (hm : v.cell? ⟨0, 0, none⟩ = some (.int .i64 m)) (hd : dir.size ≤ 1048576) (b n c : Nat) (hn : 1 ≤ n) (hc0 : v.cell? ⟨b, 0, none⟩ = some (.string a0))
    (ha : a0 = ⟨#[45, 67, 61]⟩ ++ dir ∨ a0 = ⟨#[45, 45, 67, 61]⟩ ++ dir) :
    Calls Try.prog 21 #[.slice (some ⟨b, 0, none⟩) n c] v fun e w' => e = .returned (.tuple #[.string dir, .int .i64 1]) ∧ ∃ q, w' = v.drewN q := by
  have z3 : (⟨#[45, 67, 61]⟩ : ByteArray).size = 3 := rfl
  have z4 : (⟨#[45, 45, 67, 61]⟩ : ByteArray).size = 4 := rfl
  have hsz : a0.size < 4294967281 := by rcases ha with rfl | rfl <;> (rw [ByteArray.size_append]; omega)
  rcases ha with rfl | rfl
  · have ed : ((⟨#[45, 67, 61]⟩ : ByteArray) ++ dir).data.toList = 45 :: 67 :: 61 :: dir.data.toList := by rw [ByteArray.data_append, Array.toList_append]; rfl
    have hcut := cut_called _ [45, 67] dir.data.toList true v m hm hsz (by rw [ed]; exact cut_one _)
    have h := firstDir_one b 0 n c _ _ _ true v hn hc0 (by rw [tl, ed]; simp) (by rw [tl, ed]; simp) (.inl (by rw [ed]; simp [Lib.hasPrefix, List.isPrefixOf])) hcut
    rw [back] at h
    exact zz_firstDir _ _ _ _ h
  · have ed : ((⟨#[45, 45, 67, 61]⟩ : ByteArray) ++ dir).data.toList = 45 :: 45 :: 67 :: 61 :: dir.data.toList := by rw [ByteArray.data_append, Array.toList_append]; rfl
    have hcut := cut_called _ [45, 45, 67] dir.data.toList true v m hm hsz (by rw [ed]; exact cut_two _)
    have h := firstDir_one b 0 n c _ _ _ true v hn hc0 (by rw [tl, ed]; simp) (by rw [tl, ed]; simp) (.inr ⟨by rw [ed]; simp [Lib.hasPrefix, List.isPrefixOf], by rw [ed]; simp [Lib.hasPrefix, List.isPrefixOf]⟩) hcut
    rw [back] at h
    exact zz_firstDir _ _ _ _ h

set_option maxHeartbeats 4000000 in
theorem walk (dir : ByteArray) (a : Option Addr) (n c : Nat) (ss : List ByteArray) (w : World) (m : Int) (hm : w.cell? ⟨0, 0, none⟩ = some (.int .i64 m)) (hd : dir.size ≤ maxLen) (hn : n ≤ maxLen) (hS : Strs w a n ss) (hnil : a = none → n = 0 ∧ c = 0) :
    Calls Try.prog 6 #[.string dir, .slice a n c] w fun e w' => e = .returned (.bool true) ∧ Below w.heap.size w w' := by
  have hb := bound18 dir a n c ss w hd hn hS
  have HS : Hid (Strs w a n ss) := hS
  have HM : Hid (w.cell? ⟨0, 0, none⟩ = some (.int .i64 m)) := hm
  have HNil : Hid (a = none → n = 0 ∧ c = 0) := hnil
  clear hS hm hnil
  go_enter Try.func6, Try.ntmps6
  go_wp2_with fail
  refine hb.mono ?_
  rintro e w' ⟨⟨r, rfl, hr⟩, hw⟩
  have hw' := hw.symm
  subst hw'
  clear hb hw
  cases r with
  | false =>
    clear hr
    go_wp2
    go_ret
    exact ⟨rfl, Below.refl _ _⟩
  | true =>
    obtain ⟨hd1, hn1, hsm⟩ := hr rfl
    have HSm : Hid (∀ i, i < n → (ss.getD i ⟨#[]⟩).size ≤ 1048576) := hsm
    clear hr hsm
    have hadd := addStr_any 0 dir w (by omega) (by omega) hd1
    rw [Int.zero_add] at hadd
    have hadds := addStrs_any dir.size a n c ss w (by omega) (by omega) hn1 HS.out
    go_wp2_with (go_at_call 13; refine hadd.mono ?_; rintro e w' ⟨rfl, hw⟩; have hw' := hw.symm; subst hw')
    refine hadds.mono ?_
    rintro e w' ⟨⟨r, rfl⟩, hw⟩
    have hw' := hw.symm
    subst hw'
    clear hw hadd hadds
    by_cases hr : (1048576 : Int) < r
    · go_wp2
      go_ret
      exact ⟨rfl, Below.refl _ _⟩
    go_wp2_with fail
    refine (clone_all a n c ss w hn1 HS.out HNil.out).mono ?_
    rintro e w1 ⟨b2, c2, rfl, hS1, hbel1⟩
    have HS1 : Hid (Strs w1 b2 n ss) := hS1
    clear hS1
    go_wp2_with fail
    refine (two_called w1 ⟨#[45, 67]⟩ dir b2 n c2 ss HS1.out hn1).mono ?_
    rintro e w2 ⟨g2, rfl, hc20, hc21, hb2⟩
    go_wp2_with fail
    refine (zz_same _ _ _ _ (firstDir_two g2 0 (2 + n) (2 + n) ⟨#[45, 67]⟩ dir w2 (by omega) hc20 hc21 (.inl (by rw [tl]; rfl)))).mono ?_
    rintro e w3' ⟨rfl, q, rfl⟩
    have hbel2 : Below w.heap.size w (w2.drewN q) := below_drewN (bt hbel1 hb2) q
    have HS2 : Hid (Strs (w2.drewN q) b2 n ss) := HS1.out.later (below_drewN hb2 q)
    clear hc20 hc21 hb2 hbel1 HS1
    generalize w2.drewN q = w3 at hbel2 HS2 ⊢
    go_wp2_with fail
    refine (two_called w3 ⟨#[45, 45, 67]⟩ dir b2 n c2 ss HS2.out hn1).mono ?_
    rintro e w4 ⟨g4, rfl, hc40, hc41, hb4⟩
    go_wp2_with fail
    refine (zz_same _ _ _ _ (firstDir_two g4 0 (2 + n) (2 + n) ⟨#[45, 45, 67]⟩ dir w4 (by omega) hc40 hc41 (.inr (by rw [tl]; rfl)))).mono ?_
    rintro e w5' ⟨rfl, q, rfl⟩
    have hbel4 : Below w.heap.size w (w4.drewN q) := below_drewN (bt hbel2 hb4) q
    have HS4 : Hid (Strs (w4.drewN q) b2 n ss) := HS2.out.later (below_drewN hb4 q)
    clear hc40 hc41 hb4 hbel2 HS2
    generalize w4.drewN q = w5 at hbel4 HS4 ⊢
    have hlt := World.block_lt_of_cell? w _ HM.out
    go_wp2_with fail
    refine (one_called w5 _ b2 n c2 ss HS4.out hn1).mono ?_
    rintro e w6 ⟨g6, rfl, hc60, hb6⟩
    have hbel6 := bt hbel4 hb6
    go_wp2_with fail
    refine (dir_one _ dir w6 m ((hbel6.cell (p := ⟨0, 0, none⟩) hlt).trans HM.out) hd1 g6 (1 + n) (1 + n) (by omega) hc60 (.inl rfl)).mono ?_
    rintro e w7' ⟨rfl, q, rfl⟩
    have hbel7 : Below w.heap.size w (w6.drewN q) := below_drewN hbel6 q
    have HS6 : Hid (Strs (w6.drewN q) b2 n ss) := HS4.out.later (below_drewN hb6 q)
    clear hc60 hb6 hbel4 HS4 hbel6
    generalize w6.drewN q = w7 at hbel7 HS6 ⊢
    go_wp2_with fail
    refine (one_called w7 _ b2 n c2 ss HS6.out hn1).mono ?_
    rintro e w8 ⟨g8, rfl, hc80, hb8⟩
    have hbel8 := bt hbel7 hb8
    go_wp2_with fail
    refine (dir_one _ dir w8 m ((hbel8.cell (p := ⟨0, 0, none⟩) hlt).trans HM.out) hd1 g8 (1 + n) (1 + n) (by omega) hc80 (.inr rfl)).mono ?_
    rintro e w9' ⟨rfl, q, rfl⟩
    have hbel9 : Below w.heap.size w (w8.drewN q) := below_drewN hbel8 q
    clear hc80 hb8 hbel8 hbel7 HS6
    go_wp2
    go_ret
    exact ⟨rfl, hbel9⟩

end Go.Proofs.Qxb6600168a.Trip
namespace Go.Proofs.Qxb6600168a

open Go.ChangeShapes Go.WideShapes Go.ChangeAt Go.RowKit
open Go.ChangeMaps (open_string shut_string)

/-- What is told of a slice of strings that came in. -/
theorem opened {W : World} {a : Option Addr} {len cap : Nat} {H : Type} {enc : TypeId × Value → H} {d : DataW H} {ps : List MemPlace}
    (h : DataW.Trod enc Try.prog W 0 (fun _ => true) true 28 (.slice a len cap) d ps) :
    ∃ ss, Strs W a len ss ∧ len ≤ maxLen ∧ (a = none → len = 0 ∧ cap = 0) := by
  obtain ⟨fuel, hf⟩ := h
  rcases open_strings Try.underlying28 Try.underlying9 (by kernel_rfl) hf with ⟨hcs, _⟩ | ⟨x, l, c, ss, hcs, _, hl, hm, hz, _, hcell, hws⟩
  · simp [Value.cells] at hcs
    obtain ⟨rfl, rfl, rfl⟩ := hcs
    exact ⟨[], ⟨rfl, .inl rfl⟩, by unfold maxLen; omega, fun _ => ⟨rfl, rfl⟩⟩
  · simp [Value.cells] at hcs
    obtain ⟨rfl, rfl, rfl⟩ := hcs
    simp only [if_true] at hz
    refine ⟨ss.take len, ⟨by rw [List.length_take]; omega, ?_⟩, by omega, fun h => by cases h⟩
    by_cases h0 : len = 0
    · exact .inl h0
    · right
      obtain ⟨b, off, spot⟩ := x
      have hspot : spot = none := by simpa [Addr.add] using World.cell?_spot (hcell 0 (by omega))
      subst hspot
      refine ⟨b, off, rfl, fun i hi => ?_⟩
      have e : (⟨b, off, none⟩ : Addr).add i = ⟨b, off + i, none⟩ := by unfold Addr.add; split <;> simp_all
      rw [← e, hcell i (by omega), List.getD_eq_getElem?_getD, List.getD_eq_getElem?_getD, List.getElem?_take_of_lt hi]
      rfl

theorem own : ownKnob Try.prog.godebug = none := by kernel_rfl
theorem laidOut : laidOutB Try.prog = true := by kernel_rfl

set_option maxRecDepth 100000 in
theorem Trip.lifted (os : Os) (started : os.Started) (H : Type) (enc : TypeId × Value → H) :
    ReturnsInHanded {} Try.checked os 6 .any (Rows.fnFirstDirRoundTripSpec.pre6 enc Try.prog Try.f6 Rows.fnFirstDirRoundTripRow.domain false) (Rows.fnFirstDirRoundTripSpec.post enc Try.prog Try.f6 false true false false) := by
  refine returnsInHanded_of_change_shaped (C := Try.checked) own started (by kernel_rfl) Try.func6
    (ChangeSpec.witness6 (enc := enc) (C := Try.checked) false ⟨#[], #[.string ByteArray.empty, .slice none 0 0], []⟩ 8 (by kernel_rfl) (by kernel_rfl) (by kernel_rfl) (by kernel_rfl)) ?_
  intro W base args ds gs before hval0 hW hcnd _ hsh _
  have hval : ∀ (j : Nat) t v, Try.f6.params[j]? = some t → args[j]? = some v → Value.okWide Try.prog W .any base t v := hval0
  have hW' := hW
  obtain ⟨p, q, hA0, hV, rfl, hfz, hnd⟩ := hW
  have hA : DataW.TrodAll enc Try.prog W 0 (fun _ => true) true Try.f6.params.toList args.toList ds p := hA0
  rw [Try.params6] at hA hval
  obtain ⟨v0, vs0, d0, ds0, p0, q0, hargs, rfl, rfl, h0, r0⟩ := trodAll_cons hA
  obtain ⟨v1, vs1, d1, ds1, p1, q1, rfl, rfl, rfl, h1, r1⟩ := trodAll_cons r0
  obtain ⟨rfl, rfl, rfl⟩ := trodAll_nil r1
  obtain rfl : args = #[v0, v1] := by cases args; simp_all
  obtain ⟨rfl, rfl⟩ := trodVars_none hV
  obtain ⟨a0, rfl, rfl, rfl, w0⟩ := open_string Try.underlying9 (hval 0 9 v0 rfl rfl) h0
  obtain ⟨a1, len1, cap1, rfl⟩ := okWide_slice Try.underlying28 (hval 1 28 v1 rfl rfl)
  have lt1 : ∀ x ∈ p1, x.block < W.heap.size := by obtain ⟨m, hm⟩ := h1; exact DataW.trod_lt m _ _ _ hm
  obtain ⟨ss, hS, hlen, hnil⟩ := opened h1
  clear hA0 hval0
  obtain ⟨m, hm⟩ := Try.laysM145.s1_3 W hsh
  refine (Trip.walk a0 a1 len1 cap1 ss W m hm w0 hlen hS hnil).mono fun e W' ⟨he, bel⟩ => ?_
  subst he
  exact ⟨_, rfl, _, _, _, [], _, [], hW', trodAll_mk1 (shut_bool Try.underlying4 _), (trodAll_cons_mk (shut_string Try.underlying9 w0) (trodAll_cons_mk (Below.trod laidOut (by kernel_rfl) (of_decide_eq_true (by kernel_rfl)) h1 bel lt1) trodAll_mk0)), rfl, bel.frame _, fun h => by cases h⟩

theorem Trip.over : Rows.fnFirstDirRoundTripRow.holds Try.pinned (OpenSpec.ofChange Rows.fnFirstDirRoundTripSpec) :=
  OpenClaim.holds_of_wide 6 Try.f6 rfl rfl rfl rfl rfl rfl rfl ⟨rfl, rfl, rfl, rfl, rfl⟩ rfl rfl rfl rfl rfl (by kernel_rfl) Try.func6 Facts6.closed
    (of_decide_eq_true (by kernel_rfl)) (by unfold Func.isWrapper; first | (rw [if_pos (by decide +kernel)]; kernel_rfl) | (rw [if_neg (by decide +kernel)]; exact ⟨rfl, rfl⟩))
    (fun os started H enc _ => Trip.lifted os started H enc)

/-- The statement. -/
theorem Trip.proved : Rows.FnFirstDirRoundTripSaid := Trip.over
#print axioms Trip.proved
end Go.Proofs.Qxb6600168a
