import Derived.Test.Qxb6000831aAny
import Derived.HandedShaped
import Derived.Test.Qxb6000831aFacts3
namespace Go.Proofs.Qxb6000831a.Kerb
open Go.ChangeShapes Go.WideShapes Go.ChangeAt Go.RowKit
open Go.ChangeMaps (open_string shut_string)
set_option linter.unusedVariables false

theorem ret_bool {a b : Bool} (h : a = b) : Ending.returned (.bool a) = .returned (.bool b) := by rw [h]

/-! ### Plain laws -/
/-- kerberosName, on lists of bytes. -/
def kName (L : List UInt8) : Bool :=
  if (Lib.cut L [64]).2.2 then !hasAt (Lib.cut L [64]).2.1 && !decide (0 ≤ Lib.indexByte (Lib.cut (Lib.cut L [64]).1 [47]).2.1 47) else !L.isEmpty

theorem index_sep_none (c : UInt8) : ∀ L : List UInt8, (∀ b ∈ L, b ≠ c) → Lib.index L [c] = -1
  | [], _ => by simp [Lib.index]
  | b :: L, h => by
    have hb : b ≠ c := h b (by simp)
    have ih := index_sep_none c L (fun x hx => h x (by simp [hx]))
    have hp : List.isPrefixOf [c] (b :: L) = false := by simp [List.isPrefixOf]; exact fun e => hb e.symm
    rw [Lib.index, hp, ih]
    rfl

theorem index_sep_some (c : UInt8) (V : List UInt8) : ∀ L : List UInt8, (∀ b ∈ L, b ≠ c) → Lib.index (L ++ c :: V) [c] = L.length
  | [], _ => by simp [Lib.index, List.isPrefixOf]
  | b :: L, h => by
    have hb : b ≠ c := h b (by simp)
    have ih := index_sep_some c V L (fun x hx => h x (by simp [hx]))
    have hp : List.isPrefixOf [c] (b :: (L ++ c :: V)) = false := by simp [List.isPrefixOf]; exact fun e => hb e.symm
    have hn : ((L.length : Int) == -1) = false := by simp
    rw [List.cons_append, Lib.index, hp, ih, hn]
    simp

theorem cut_none (c : UInt8) (L : List UInt8) (h : ∀ b ∈ L, b ≠ c) : Lib.cut L [c] = (L, [], false) := by
  unfold Lib.cut
  rw [index_sep_none c L h]
  simp

theorem cut_some (c : UInt8) (L V : List UInt8) (h : ∀ b ∈ L, b ≠ c) : Lib.cut (L ++ c :: V) [c] = (L, V, true) := by
  unfold Lib.cut
  rw [index_sep_some c V L h]
  simp

/-- A text without the sign, or cut at its first one. -/
theorem parts (c : UInt8) : ∀ L : List UInt8, (∀ b ∈ L, b ≠ c) ∨ ∃ N R, L = N ++ c :: R ∧ ∀ b ∈ N, b ≠ c
  | [] => .inl (by simp)
  | b :: L => by
    by_cases hb : b = c
    · subst hb; exact .inr ⟨[], L, rfl, by simp⟩
    · rcases parts c L with h | ⟨N, R, rfl, h⟩
      · left; intro x hx; simp at hx; rcases hx with rfl | hx; exact hb; exact h x hx
      · right; refine ⟨b :: N, R, rfl, ?_⟩
        intro x hx; simp at hx; rcases hx with rfl | hx; exact hb; exact h x hx

theorem indexByte_count (c : UInt8) : ∀ L : List UInt8, decide (0 ≤ Lib.indexByte L c) = decide (1 ≤ L.count c)
  | [] => rfl
  | b :: L => by
    have ih := indexByte_count c L
    have hge := Lib.indexByte_ge L c
    by_cases hb : b = c
    · subst hb
      rw [Lib.indexByte]
      simp
    · have hne : (b == c) = false := by simpa using hb
      rw [Lib.indexByte, hne, List.count_cons_of_ne hb, ← ih]
      by_cases h1 : Lib.indexByte L c = -1
      · rw [h1]; rfl
      · have h1' : (Lib.indexByte L c == -1) = false := by simpa using h1
        rw [h1']
        simp
        omega

theorem count_none {c : UInt8} {L : List UInt8} (h : ∀ b ∈ L, b ≠ c) : L.count c = 0 := List.count_eq_zero.2 fun hm => h c hm rfl

theorem kName_A (L : List UInt8) (h : ∀ b ∈ L, b ≠ 64) : kName L = !L.isEmpty := by
  unfold kName
  rw [cut_none 64 L h]
  rfl

theorem kName_B (N R : List UInt8) (h : ∀ b ∈ N, b ≠ 64) : kName (N ++ 64 :: R) = (!hasAt R && decide (N.count 47 ≤ 1)) := by
  unfold kName
  rw [cut_some 64 N R h]
  simp only [if_true]
  congr 1
  rw [indexByte_count]
  rcases parts 47 N with h47 | ⟨A, I, rfl, hA⟩
  · rw [cut_none 47 N h47, count_none h47]
    rfl
  · rw [cut_some 47 A I hA, List.count_append, count_none hA, List.count_cons_self]
    by_cases hI : 1 ≤ I.count 47
    · rw [decide_eq_true hI, decide_eq_false (by omega)]; rfl
    · rw [decide_eq_false hI, decide_eq_true (by omega)]; rfl

theorem take_count (s : ByteArray) (c : UInt8) (k : Nat) (h : k < s.size) : (s.data.toList.take (k + 1)).count c = (s.data.toList.take k).count c + if s[k] = c then 1 else 0 := by
  rw [List.take_succ_eq_append_getElem (by simpa using h), List.count_append]
  congr 1
  have e : s.data.toList[k]'(by simpa using h) = s[k] := rfl
  rw [e, List.count_singleton]
  simp

/-! ### kerberosName -/
set_option maxHeartbeats 2000000 in
theorem name_any (id : ByteArray) (w : World) (m : Int) (hm : w.cell? ⟨0, 0, none⟩ = some (.int .i64 m)) (hs : id.size ≤ 1048576) :
    Calls Try.prog 10 #[.string id] w fun e w' => e = .returned (.bool (kName id.data.toList)) ∧ Below w.heap.size w w' := by
  have hlt := World.block_lt_of_cell? w _ hm
  have c1 := Any.strings_Cut { Try.laysM145 with } id ⟨#[64]⟩ m w (by omega) hm
  have e64 : (⟨#[64]⟩ : ByteArray).data.toList = [64] := rfl
  have e47 : (⟨#[47]⟩ : ByteArray).data.toList = [47] := rfl
  rw [e64] at c1
  suffices h : Calls Try.prog 26 #[.string id] w fun e w' => e = .returned (.bool (kName id.data.toList)) ∧ Below w.heap.size w w' by
    generalize kName id.data.toList = b at h ⊢
    clear c1 hm
    go_enter Try.func10, Try.ntmps10
    go_wp2_with (go_at_call 26; refine h.mono ?_; rintro e w' ⟨rfl, hb⟩)
    go_ret
    exact ⟨rfl, hb⟩
  obtain ⟨N, R, z, hc⟩ : ∃ N R z, Lib.cut id.data.toList [64] = (N, R, z) := ⟨_, _, _, rfl⟩
  have hk : kName id.data.toList = (if z then !hasAt R && !decide (0 ≤ Lib.indexByte (Lib.cut N [47]).2.1 47) else !id.data.toList.isEmpty) := by
    unfold kName; rw [hc]
  have hNl : N.length ≤ id.size ∧ R.length ≤ id.size := by
    have hl : id.data.toList.length = id.size := by simp
    rcases parts 64 id.data.toList with h | ⟨N', R', he, h⟩
    · rw [cut_none 64 _ h] at hc
      simp only [Prod.mk.injEq] at hc
      obtain ⟨rfl, rfl, rfl⟩ := hc
      simp
    · rw [he, cut_some 64 N' R' h] at hc
      simp only [Prod.mk.injEq] at hc
      obtain ⟨rfl, rfl, rfl⟩ := hc
      rw [he] at hl
      simp at hl
      omega
  rw [hc] at c1
  rw [hk]
  clear hk hc
  cases z with
  | false =>
    have hne : (!id.data.toList.isEmpty) = !id.toList.isEmpty := by rw [Lib.toList_data]
    simp only [Bool.false_eq_true, if_false]
    rw [hne]
    clear hne hm
    go_enter Try.func26, Try.ntmps26
    go_wp2_with (go_at_call 29; refine c1.mono ?_; rintro e w' ⟨rfl, q, rfl⟩)
    go_ret
    exact ⟨rfl, below_drewN (Below.refl _ _) _⟩
  | true =>
    simp only [if_true]
    have hNs : (⟨N.toArray⟩ : ByteArray).size = N.length := rfl
    have hRs : (⟨R.toArray⟩ : ByteArray).size = R.length := rfl
    have c2 : ∀ q, _ := fun q => Any.strings_Cut { Try.laysM145 with } ⟨N.toArray⟩ ⟨#[47]⟩ m (w.drewN q) (by omega) hm
    have eN : (⟨N.toArray⟩ : ByteArray).data.toList = N := rfl
    have eR : (⟨R.toArray⟩ : ByteArray).data.toList = R := rfl
    rw [e47, eN] at c2
    obtain ⟨A, I, y, hc⟩ : ∃ A I y, Lib.cut N [47] = (A, I, y) := ⟨_, _, _, rfl⟩
    rw [hc] at c2 ⊢
    simp only at c2 ⊢
    have c3 : ∀ v, _ := fun v => containsAny_all ⟨R.toArray⟩ v (by omega)
    rw [eR] at c3
    have c4 : ∀ v, _ := fun v => Any.strings_Contains_one Try.lays144 ⟨I.toArray⟩ 47 v
    have eI : (⟨I.toArray⟩ : ByteArray).data.toList = I := rfl
    rw [eI] at c4
    generalize hasAt R = b1 at c3 ⊢
    generalize decide (0 ≤ Lib.indexByte I 47) = b2 at c4 ⊢
    clear hm hNs hRs hc eN eR eI e64 e47 hNl
    go_enter Try.func26, Try.ntmps26
    go_wp2_with fail
    refine c1.mono ?_
    rintro e w' ⟨rfl, q, rfl⟩
    go_wp2_with fail
    refine (c2 q).mono ?_
    rintro e w' ⟨rfl, q', rfl⟩
    have hb1 : Below w.heap.size w ((w.drewN q).drewN q') := below_drewN (below_drewN (Below.refl _ _) _) _
    generalize (w.drewN q).drewN q' = v1 at hb1 ⊢
    go_wp2_with fail
    refine (c3 v1).mono ?_
    rintro e v2 ⟨rfl, hb2⟩
    have hb3 : Below w.heap.size w v2 := hb1.trans (hb2.mono hb1.size)
    clear c1 c2 c3 hb1 hb2
    cases b1 with
    | true =>
      go_wp2
      go_ret
      exact ⟨rfl, hb3⟩
    | false =>
      go_wp2_with fail
      refine (c4 v2).mono ?_
      rintro e v3 ⟨rfl, rfl⟩
      go_wp2
      go_ret
      exact ⟨ret_bool (by simp), hb3⟩

/-! ### kerberosModel -/
theorem model_empty (w : World) (id : ByteArray) (h : id.size = 0) : Calls Try.prog 11 #[.string id] w fun e w' => e = .returned (.bool false) ∧ w' = w := by
  have h0 : ((id.size : Int) == 0) = true := beq_iff_eq.2 (by omega)
  clear h
  go_enter Try.func11, Try.ntmps11
  go_wp2
  go_ret
  exact ⟨rfl, rfl⟩

set_option maxHeartbeats 2000000 in
theorem model_A (w : World) (id : ByteArray) (h : id.size ≠ 0) (hs : id.size ≤ 1048576) (hno : ∀ k (h : k < id.size), id[k] ≠ 64) : Calls Try.prog 11 #[.string id] w fun e w' => e = .returned (.bool true) ∧ w' = w := by
  have h0 : ((id.size : Int) == 0) = false := beq_eq_false_iff_ne.2 (by omega)
  have HN : Hid (∀ k (h : k < id.size), id[k] ≠ 64) := hno
  clear h hno
  go_enter Try.func11, Try.ntmps11
  go_wp2
  go_loop [3, 4, 5] (fun a f i => ∃ k : Nat, k ≤ id.size ∧ i = .int .i64 k ∧ a = .int .i64 0 ∧ f = .int .i64 (-1)) (fun _ _ i => id.size - (intOf i).toNat)
  case atStart => exact ⟨0, Nat.zero_le _, rfl, rfl, rfl⟩
  case round =>
    obtain ⟨k, hk, rfl, rfl, rfl⟩ := hrel
    by_cases hlt : k < id.size
    · have hne : ((id[k].toNat : Int) == 64) = false := by
        rw [beq_eq_false_iff_ne]
        intro e
        exact HN.out k hlt (UInt8.toNat.inj (by show id[k].toNat = 64; omega))
      go_wp2
      go_round
      case rel => exact ⟨k + 1, by omega, by go_num, rfl, rfl⟩
      case measure => simp [intOf]; omega
    · go_wp2
      go_ret
      exact ⟨rfl, rfl⟩

/-- The text is cut at place p by its first at sign. -/
structure CutAt (id : ByteArray) (p : Nat) : Prop where
  lt : p < id.size
  here : id[p]'lt = 64
  first : ∀ k (h : k < id.size), k < p → id[k] ≠ 64

theorem byte_eq {b : UInt8} {n : Nat} (hn : n < 256) : ((b.toNat : Int) == (n : Int)) = decide (b = UInt8.ofNat n) := by
  rw [Bool.eq_iff_iff, beq_iff_eq, decide_eq_true_eq]
  constructor
  · intro h
    apply UInt8.toNat.inj
    simp
    omega
  · intro h
    rw [h]
    simp
    omega

/-- Loop 1's count. -/
def cnt (id : ByteArray) (c : UInt8) (k : Nat) : Nat := (id.data.toList.take k).count c
theorem cnt_zero (id : ByteArray) (c : UInt8) : cnt id c 0 = 0 := by simp [cnt]
theorem cnt_succ (id : ByteArray) (c : UInt8) (k : Nat) (h : k < id.size) : cnt id c (k + 1) = cnt id c k + if id[k] = c then 1 else 0 := take_count id c k h
theorem cnt_le (id : ByteArray) (c : UInt8) (k : Nat) : cnt id c k ≤ k := by
  unfold cnt
  have := List.count_le_length (a := c) (l := id.data.toList.take k)
  have h2 := List.length_take_le k id.data.toList
  omega

set_option maxHeartbeats 4000000 in
theorem model_B (w : World) (id : ByteArray) (p : Nat) (hp : CutAt id p) (hs : id.size ≤ 1048576) :
    Calls Try.prog 11 #[.string id] w fun e w' => e = .returned (.bool (decide (cnt id 64 id.size ≤ 1) && (decide (∀ k (h : k < id.size), p < k → id[k] ≠ 47) && decide (cnt id 47 p ≤ 1)))) ∧ w' = w := by
  have hlt := hp.lt
  have h0 : ((id.size : Int) == 0) = false := beq_eq_false_iff_ne.2 (by omega)
  have HP : Hid (CutAt id p) := hp
  clear hp
  obtain ⟨Z, hZ⟩ : ∃ Z, (decide (cnt id 64 id.size ≤ 1) && (decide (∀ k (h : k < id.size), p < k → id[k] ≠ 47) && decide (cnt id 47 p ≤ 1))) = Z := ⟨_, rfl⟩
  have HZ : Hid ((decide (cnt id 64 id.size ≤ 1) && (decide (∀ k (h : k < id.size), p < k → id[k] ≠ 47) && decide (cnt id 47 p ≤ 1))) = Z) := hZ
  rw [hZ]
  clear hZ
  go_enter Try.func11, Try.ntmps11
  go_wp2
  go_loop [3, 4, 5] (fun a f i => ∃ (k : Nat) (q : Int), k ≤ id.size ∧ i = .int .i64 k ∧ a = .int .i64 (cnt id 64 k) ∧ f = .int .i64 q ∧ ((k ≤ p ∧ q = -1) ∨ (p < k ∧ q = p))) (fun _ _ i => id.size - (intOf i).toNat)
  case atStart => exact ⟨0, -1, Nat.zero_le _, rfl, by rw [cnt_zero]; rfl, rfl, .inl ⟨by omega, rfl⟩⟩
  case round =>
    obtain ⟨k, q, hk, rfl, rfl, rfl, hq⟩ := hrel
    have hc1 := cnt_le id 64 k
    by_cases hkl : k < id.size
    · have HC : Hid (cnt id 64 (k + 1) = cnt id 64 k + if id[k] = 64 then 1 else 0) := cnt_succ id 64 k hkl
      generalize cnt id 64 k = c at hc1 HC ⊢
      by_cases hv : id[k] = 64
      · have hb : ((id[k].toNat : Int) == 64) = true := by rw [hv]; rfl
        have HC2 : Hid (cnt id 64 (k + 1) = c + 1) := by have := HC.out; rw [if_pos hv] at this; exact this
        have hpk : p ≤ k := by
          rcases Nat.lt_or_ge k p with h | h
          · exact absurd hv (HP.out.first k hkl h)
          · exact h
        clear hv HC
        rcases hq with ⟨h1, rfl⟩ | ⟨h1, rfl⟩
        · go_wp2
          go_round
          case rel => exact ⟨k + 1, k, by omega, by go_num, by rw [HC2.out]; go_num, rfl, .inr ⟨by omega, by omega⟩⟩
          case measure => simp [intOf]; omega
        · have hpn : ¬ ((p : Int) < 0) := by omega
          go_wp2
          go_round
          case rel => exact ⟨k + 1, p, by omega, by go_num, by rw [HC2.out]; go_num, rfl, .inr ⟨by omega, rfl⟩⟩
          case measure => simp [intOf]; omega
      · have hb : ((id[k].toNat : Int) == 64) = false := by
          rw [beq_eq_false_iff_ne]
          intro e
          exact hv (UInt8.toNat.inj (by show id[k].toNat = 64; omega))
        have HC2 : Hid (cnt id 64 (k + 1) = c) := by have := HC.out; rw [if_neg hv] at this; exact this
        have hkp : k ≠ p := by
          intro e
          subst e
          exact hv HP.out.here
        clear hv HC
        have HQ : Hid ((k ≤ p ∧ q = -1) ∨ (p < k ∧ q = p)) := hq
        clear hq
        go_wp2
        go_round
        case rel => exact ⟨k + 1, q, by omega, by go_num, by rw [HC2.out], rfl, by have := HQ.out; omega⟩
        case measure => simp [intOf]; omega
    · obtain rfl : k = id.size := by omega
      obtain ⟨h1, rfl⟩ : p < id.size ∧ q = p := by omega
      clear hq hkl hk
      have hge : 1 ≤ cnt id 64 id.size := by
        have e1 := cnt_succ id 64 p hlt
        rw [if_pos HP.out.here] at e1
        have hmono : cnt id 64 (p + 1) ≤ cnt id 64 id.size := by
          unfold cnt
          exact List.Sublist.count_le _ (List.take_sublist_take_left (by omega))
        omega
      obtain ⟨c, hcc⟩ : ∃ c, cnt id 64 id.size = c := ⟨_, rfl⟩
      rw [hcc] at hge hc1 ⊢
      have HCC : Hid (cnt id 64 id.size = c) := hcc
      clear hcc
      by_cases hc2 : 2 ≤ c
      · have t1 : ((c : Int) == 0) = false := beq_eq_false_iff_ne.2 (by omega)
        have t2 : (1 : Int) < c := by omega
        have HZ2 : Hid (false = Z) := by
          have := HZ.out
          rw [HCC.out, decide_eq_false (by omega)] at this
          exact this
        go_wp2
        go_ret
        exact ⟨ret_bool HZ2.out, rfl⟩
      · obtain rfl : c = 1 := by omega
        have HZ2 : Hid ((decide (∀ k (h : k < id.size), p < k → id[k] ≠ 47) && decide (cnt id 47 p ≤ 1)) = Z) := by
          have := HZ.out
          rw [HCC.out, decide_eq_true (by omega), Bool.true_and] at this
          exact this
        clear HZ HCC hge hc1 hc2
        go_wp2
        go_loop [6, 7] (fun a i => ∃ k : Nat, k ≤ p ∧ i = .int .i64 k ∧ a = .int .i64 (cnt id 47 k)) (fun _ i => p - (intOf i).toNat)
        case atStart => exact ⟨0, Nat.zero_le _, rfl, by rw [cnt_zero]; rfl⟩
        case round =>
          obtain ⟨k, hk, rfl, rfl⟩ := hrel
          have hc1 := cnt_le id 47 k
          by_cases hkp : k < p
          · have hkl : k < id.size := by omega
            have hkI : (k : Int) < (p : Int) := by omega
            have HC : Hid (cnt id 47 (k + 1) = cnt id 47 k + if id[k] = 47 then 1 else 0) := cnt_succ id 47 k hkl
            generalize cnt id 47 k = c at hc1 HC ⊢
            by_cases hv : id[k] = 47
            · have hb : ((id[k].toNat : Int) == 47) = true := by rw [hv]; rfl
              have HC2 : Hid (cnt id 47 (k + 1) = c + 1) := by have := HC.out; rw [if_pos hv] at this; exact this
              clear hv HC
              go_wp2
              go_round
              case rel => exact ⟨k + 1, by omega, by go_num, by rw [HC2.out]; go_num⟩
              case measure => simp [intOf]; omega
            · have hb : ((id[k].toNat : Int) == 47) = false := by
                rw [beq_eq_false_iff_ne]
                intro e
                exact hv (UInt8.toNat.inj (by show id[k].toNat = 47; omega))
              have HC2 : Hid (cnt id 47 (k + 1) = c) := by have := HC.out; rw [if_neg hv] at this; exact this
              clear hv HC
              go_wp2
              go_round
              case rel => exact ⟨k + 1, by omega, by go_num, by rw [HC2.out]⟩
              case measure => simp [intOf]; omega
          · obtain rfl : k = p := by omega
            clear hkp hk
            obtain ⟨c, hcc⟩ : ∃ c, cnt id 47 k = c := ⟨_, rfl⟩
            rw [hcc] at hc1 ⊢
            have HZ3 : Hid ((decide (∀ j (h : j < id.size), k < j → id[j] ≠ 47) && decide (c ≤ 1)) = Z) := by rw [← hcc]; exact HZ2.out
            clear hcc HZ2
            go_wp2
            go_loop [8] (fun i => ∃ j : Nat, k + 1 ≤ j ∧ j ≤ id.size ∧ i = .int .i64 j ∧ ∀ t (h : t < id.size), k < t → t < j → id[t] ≠ 47) (fun i => id.size - (intOf i).toNat)
            case atStart => exact ⟨k + 1, Nat.le_refl _, by omega, by go_num, fun t h h1 h2 => absurd h2 (by omega)⟩
            case round =>
              obtain ⟨j, hj1, hj2, rfl, hno⟩ := hrel
              by_cases hjl : j < id.size
              · by_cases hv : id[j] = 47
                · have hb : ((id[j].toNat : Int) == 47) = true := by rw [hv]; rfl
                  have HZ4 : Hid (false = Z) := by
                    have := HZ3.out
                    rw [decide_eq_false (fun h => h j hjl (by omega) hv)] at this
                    exact this
                  clear hv hno HZ3
                  go_wp2
                  go_ret
                  exact ⟨ret_bool HZ4.out, rfl⟩
                · have hb : ((id[j].toNat : Int) == 47) = false := by
                    rw [beq_eq_false_iff_ne]
                    intro e
                    exact hv (UInt8.toNat.inj (by show id[j].toNat = 47; omega))
                  have HN : Hid (∀ t (h : t < id.size), k < t → t < j + 1 → id[t] ≠ 47) := by
                    intro t h h1 h2
                    by_cases htj : t = j
                    · subst htj; exact hv
                    · exact hno t h h1 (by omega)
                  clear hv hno
                  go_wp2
                  go_round
                  case rel => exact ⟨j + 1, by omega, by omega, by go_num, HN.out⟩
                  case measure => simp [intOf]; omega
              · have HZ4 : Hid (decide (c ≤ 1) = Z) := by
                  have := HZ3.out
                  rw [decide_eq_true (fun t h h1 => hno t h h1 (by omega)), Bool.true_and] at this
                  exact this
                clear hno HZ3
                go_wp2
                go_ret
                refine ⟨ret_bool (a := decide ((c : Int) ≤ 1)) ?_, rfl⟩
                rw [← HZ4.out]
                rw [Bool.eq_iff_iff, decide_eq_true_eq, decide_eq_true_eq]
                omega

theorem hasAt_iff (R : List UInt8) : hasAt R = false ↔ (∀ b ∈ R, b ≠ 47) ∧ ∀ b ∈ R, b ≠ 64 := by
  unfold hasAt
  rw [List.any_eq_false]
  constructor
  · intro h
    exact ⟨fun b hb e => h b hb (by rw [e]; rfl), fun b hb e => h b hb (by rw [e]; rfl)⟩
  · rintro ⟨h1, h2⟩ b hb
    simp [h1 b hb, h2 b hb]

theorem model_any (w : World) (id : ByteArray) (hs : id.size ≤ 1048576) : Calls Try.prog 11 #[.string id] w fun e w' => e = .returned (.bool (kName id.data.toList)) ∧ w' = w := by
  have hl : id.data.toList.length = id.size := by simp
  by_cases h0 : id.size = 0
  · have e : id.data.toList = [] := List.length_eq_zero_iff.1 (by omega)
    rw [e, kName_A [] (by simp)]
    exact model_empty w id h0
  rcases parts 64 id.data.toList with h | ⟨N, R, he, h⟩
  · rw [kName_A _ h]
    have e : (!id.data.toList.isEmpty) = true := by
      cases hh : id.data.toList with
      | nil => rw [hh] at hl; simp at hl; omega
      | cons => rfl
    rw [e]
    exact model_A w id h0 hs fun k hk => h _ (List.getElem_mem (l := id.data.toList) (by omega))
  · have hN : N.length < id.size := by rw [he] at hl; simp at hl; omega
    have hget : ∀ k (hk : k < id.size), some id[k] = (N ++ 64 :: R)[k]? := fun k hk => by
      rw [← he, List.getElem?_eq_getElem (by omega)]
      rfl
    have hcut : CutAt id N.length := by
      refine ⟨hN, ?_, fun k hk hkp => ?_⟩
      · have := hget N.length hN
        rw [List.getElem?_append_right (Nat.le_refl _), Nat.sub_self] at this
        simpa using this
      · have := hget k hk
        rw [List.getElem?_append_left hkp] at this
        exact h _ (List.mem_of_getElem? this.symm)
    have hm := model_B w id N.length hcut hs
    have e1 : cnt id 64 id.size = R.count 64 + 1 := by
      unfold cnt
      rw [List.take_of_length_le (by omega), he, List.count_append, count_none h, List.count_cons_self]
      omega
    have e2 : cnt id 47 N.length = N.count 47 := by
      unfold cnt
      rw [he, List.take_left]
    have e3 : (∀ k (h : k < id.size), N.length < k → id[k] ≠ 47) ↔ ∀ b ∈ R, b ≠ 47 := by
      constructor
      · intro hk b hb e
        obtain ⟨j, hj⟩ := List.getElem?_of_mem hb
        have hjl : j < R.length := (List.getElem?_eq_some_iff.1 hj).1
        have hlt : N.length + 1 + j < id.size := by rw [he] at hl; simp at hl; omega
        refine hk (N.length + 1 + j) hlt (by omega) ?_
        have := hget (N.length + 1 + j) hlt
        rw [List.getElem?_append_right (by omega), show N.length + 1 + j - N.length = j + 1 from by omega, List.getElem?_cons_succ, hj] at this
        simp only [Option.some.injEq] at this
        rw [this]; exact e
      · intro hR k hk hlt
        have := hget k hk
        rw [List.getElem?_append_right (by omega)] at this
        obtain ⟨j, hj⟩ : ∃ j, k - N.length = j + 1 := ⟨k - N.length - 1, by omega⟩
        rw [hj, List.getElem?_cons_succ] at this
        exact hR _ (List.mem_of_getElem? this.symm)
    have e4 : (decide (cnt id 64 id.size ≤ 1) && (decide (∀ k (h : k < id.size), N.length < k → id[k] ≠ 47) && decide (cnt id 47 N.length ≤ 1))) = kName id.data.toList := by
      rw [e1, e2, decide_eq_decide.2 e3, he, kName_B N R h, ← Bool.and_assoc]
      congr 1
      cases hh : hasAt R with
      | false =>
        obtain ⟨h1, h2⟩ := (hasAt_iff R).1 hh
        rw [decide_eq_true (by rw [count_none h2]; omega), decide_eq_true h1]
        rfl
      | true =>
        by_cases h2 : ∀ b ∈ R, b ≠ 64
        · have h1 : ¬ ∀ b ∈ R, b ≠ 47 := fun h1 => by rw [(hasAt_iff R).2 ⟨h1, h2⟩] at hh; cases hh
          rw [decide_eq_false h1]
          simp
        · have : 1 ≤ R.count 64 := by
            rcases Nat.eq_zero_or_pos (R.count 64) with h | h
            · exact absurd (fun b hb e => List.count_eq_zero.1 h (by rw [← e]; exact hb)) h2
            · exact h
          rw [decide_eq_false (by omega)]
          rfl
    rw [e4] at hm
    exact hm

/-! ### The law -/
theorem bound1 (s : ByteArray) (w : World) (hs : s.size ≤ maxLen) : Calls Try.prog 9 #[.string s] w fun e w' => e = .returned (.bool (decide (s.size ≤ 1048576))) ∧ w' = w := by
  unfold maxLen at hs
  obtain ⟨r, hr⟩ : ∃ r, decide (s.size ≤ 1048576) = r := ⟨_, rfl⟩
  have HR : Hid (decide (s.size ≤ 1048576) = r) := hr
  rw [hr]
  clear hr
  go_enter Try.func9, Try.ntmps9
  go_wp2
  all_goals
    go_ret
    refine ⟨?_, rfl⟩
    first | (refine ret_bool (a := false) ?_; rw [← HR.out, decide_eq_false (by omega)]; done) | (refine ret_bool (a := true) ?_; rw [← HR.out, decide_eq_true (by omega)]; done)

theorem walk (id : ByteArray) (hs : id.size ≤ maxLen) (w : World) (m : Int) (hm : w.cell? ⟨0, 0, none⟩ = some (.int .i64 m)) :
    Calls Try.prog 3 #[.string id] w fun e w' => e = .returned (.bool true) ∧ Below w.heap.size w w' := by
  have hb := bound1 id w hs
  by_cases h1 : id.size ≤ 1048576
  case neg =>
    rw [decide_eq_false h1] at hb
    clear hm
    go_enter Try.func3, Try.ntmps3
    go_wp2_with (go_at_call 9; refine hb.mono ?_; rintro e w' ⟨rfl, hw⟩; have hw' := hw.symm; subst hw')
    go_ret
    exact ⟨rfl, Below.refl _ _⟩
  rw [decide_eq_true h1] at hb
  have c1 := name_any id w m hm h1
  have c2 : ∀ v, _ := fun v => model_any v id h1
  generalize kName id.data.toList = b at c1 c2
  have d1 : ¬ (1048576 : Int) < id.size := by omega
  clear hm
  go_enter Try.func3, Try.ntmps3
  go_wp2_with (first
    | (go_at_call 9; refine hb.mono ?_; rintro e w' ⟨rfl, hw⟩; have hw' := hw.symm; subst hw')
    | (go_at_call 10; refine c1.mono ?_; rintro e v1 ⟨rfl, hb1⟩)
    | (go_at_call 11; refine (c2 _).mono ?_; rintro e v2 ⟨rfl, hw2⟩; have hw2' := hw2.symm; subst hw2'))
  go_ret
  exact ⟨ret_bool (by simp), hb1⟩

theorem own : ownKnob Try.prog.godebug = none := by kernel_rfl

set_option maxRecDepth 100000 in
theorem lifted (os : Os) (started : os.Started) (H : Type) (enc : TypeId × Value → H) :
    ReturnsInHanded {} Try.checked os 3 .any (Rows.fnKerberosNameMatchesModelSpec.pre6 enc Try.prog Try.f3 Rows.fnKerberosNameMatchesModelRow.domain false) (Rows.fnKerberosNameMatchesModelSpec.post enc Try.prog Try.f3 false true false false) := by
  refine returnsInHanded_of_change_shaped (C := Try.checked) own started (by kernel_rfl) Try.func3
    (ChangeSpec.witness6 (enc := enc) (C := Try.checked) false ⟨#[], #[.string ByteArray.empty], []⟩ 8 (by kernel_rfl) (by kernel_rfl) (by kernel_rfl) (by kernel_rfl)) ?_
  intro W base args ds gs before hval0 hW hcnd _ hsh _
  have hval : ∀ (j : Nat) t v, Try.f3.params[j]? = some t → args[j]? = some v → Value.okWide Try.prog W .any base t v := hval0
  have hW' := hW
  obtain ⟨p, q, hA0, hV, rfl, hfz, hnd⟩ := hW
  have hA : DataW.TrodAll enc Try.prog W 0 (fun _ => true) true Try.f3.params.toList args.toList ds p := hA0
  rw [Try.params3] at hA hval
  obtain ⟨v0, vs0, d0, ds0, p0, q0, hargs, rfl, rfl, h0, r0⟩ := trodAll_cons hA
  obtain ⟨rfl, rfl, rfl⟩ := trodAll_nil r0
  obtain rfl : args = #[v0] := by cases args; simp_all
  obtain ⟨rfl, rfl⟩ := trodVars_none hV
  obtain ⟨a0, rfl, rfl, rfl, w0⟩ := open_string Try.underlying9 (hval 0 9 v0 rfl rfl) h0
  clear hA0 hval0
  simp only [List.append_nil] at hW'
  obtain ⟨m, hm⟩ := Try.laysM145.s1_3 W hsh
  refine (walk a0 w0 W m hm).mono fun e W' ⟨he, bel⟩ => ?_
  subst he
  exact ⟨_, rfl, _, _, _, [], [], [], hW', trodAll_mk1 (shut_bool Try.underlying4 _), (trodAll_cons_mk (shut_string Try.underlying9 w0) trodAll_mk0), rfl, bel.frame _, fun h => by cases h⟩

theorem over : Rows.fnKerberosNameMatchesModelRow.holds Try.pinned (OpenSpec.ofChange Rows.fnKerberosNameMatchesModelSpec) :=
  OpenClaim.holds_of_wide 3 Try.f3 rfl rfl rfl rfl rfl rfl rfl ⟨rfl, rfl, rfl, rfl, rfl⟩ rfl rfl rfl rfl rfl (by kernel_rfl) Try.func3 Facts3.closed
    (of_decide_eq_true (by kernel_rfl)) (by unfold Func.isWrapper; first | (rw [if_pos (by decide +kernel)]; kernel_rfl) | (rw [if_neg (by decide +kernel)]; exact ⟨rfl, rfl⟩))
    (fun os started H enc _ => lifted os started H enc)

/-- The statement. -/
theorem proved : Rows.FnKerberosNameMatchesModelSaid := over
#print axioms proved
end Go.Proofs.Qxb6000831a.Kerb
