/-
  Contracts on the road of FnDeclaredFindsPlantedValue: the bound on four strings, hasByteIn, indexIn.
-/
import Derived.Test.Qxb6000564aLn
import Derived.Test.Qxb6000564aCopy
import Derived.WalkSmall
namespace Go.Proofs.Qxb6000564a
open Go.ChangeShapes Go.WideShapes Go.ChangeAt Go.RowKit
set_option linter.unusedVariables false

theorem ret_bool {a b : Bool} (h : a = b) : Ending.returned (.bool a) = .returned (.bool b) := by rw [h]
theorem ret_int {k : IntKind} {a b : Int} (h : a = b) : Ending.returned (.int k a) = .returned (.int k b) := by rw [h]

set_option maxHeartbeats 1000000 in
theorem bound4 (a b c d : ByteArray) (x : Bool) (w : World) (ha : a.size ≤ maxLen) (hb : b.size ≤ maxLen) (hc : c.size ≤ maxLen) (hd : d.size ≤ maxLen) :
    Calls Try.prog 16 #[.string a, .string b, .string c, .string d, .bool x] w fun e w' => e = .returned (.bool (decide (a.size + b.size + c.size + d.size ≤ 1048576))) ∧ w' = w := by
  unfold maxLen at ha hb hc hd
  obtain ⟨r, hr⟩ : ∃ r, decide (a.size + b.size + c.size + d.size ≤ 1048576) = r := ⟨_, rfl⟩
  have HR : Hid (decide (a.size + b.size + c.size + d.size ≤ 1048576) = r) := hr
  rw [hr]
  clear hr
  go_enter Try.func16, Try.ntmps16
  go_wp2
  all_goals
    go_ret
    refine ⟨?_, rfl⟩
    first | (refine ret_bool (a := false) ?_; rw [← HR.out, decide_eq_false (by omega)]; done) | (refine ret_bool (a := true) ?_; rw [← HR.out, decide_eq_true (by omega)]; done)

/-- Is the byte among the string's? -/
def hasB (s : ByteArray) (q : Int) : Bool := (nums s).any (· == q)

theorem nums_at (s : ByteArray) (k : Nat) (h : k < s.size) : (nums s)[k]? = some (s[k].toNat : Int) := by
  unfold nums
  rw [List.getElem?_map, List.getElem?_eq_getElem (by simpa using h)]
  rfl

theorem hasB_yes (s : ByteArray) (q : Int) (k : Nat) (h : k < s.size) (e : (s[k].toNat : Int) = q) : hasB s q = true := by
  unfold hasB
  rw [List.any_eq_true]
  exact ⟨q, List.mem_of_getElem? (by rw [nums_at s k h, e]), by simp⟩

theorem hasB_no (s : ByteArray) (q : Int) (hno : ∀ k (h : k < s.size), (s[k].toNat : Int) ≠ q) : hasB s q = false := by
  unfold hasB
  rw [List.any_eq_false]
  intro x hx
  obtain ⟨k, hk⟩ := List.getElem?_of_mem hx
  have hl : k < (nums s).length := (List.getElem?_eq_some_iff.1 hk).1
  rw [nums_length] at hl
  rw [nums_at s k hl] at hk
  simp only [Option.some.injEq] at hk
  rw [← hk]
  simpa using hno k hl

theorem hasB_false {s : ByteArray} {q : Int} (h : hasB s q = false) : ∀ k (h : k < s.size), (s[k].toNat : Int) ≠ q := by
  intro k hk e
  rw [hasB_yes s q k hk e] at h
  cases h

set_option maxHeartbeats 1000000 in
theorem hasByteIn_any (s : ByteArray) (q : Int) (w : World) (hs : s.size ≤ maxLen) :
    Calls Try.prog 17 #[.string s, .int .u8 q] w fun e w' => e = .returned (.bool (hasB s q)) ∧ w' = w := by
  unfold maxLen at hs
  go_enter Try.func17, Try.ntmps17
  go_wp2
  go_loop [5] (fun i => ∃ k : Nat, k ≤ s.size ∧ i = .int .i64 k ∧ ∀ j (h : j < s.size), j < k → (s[j].toNat : Int) ≠ q) (fun i => s.size - (intOf i).toNat)
  case atStart => exact ⟨0, Nat.zero_le _, rfl, fun j h hj => absurd hj (by omega)⟩
  case round =>
    obtain ⟨k, hk, rfl, hno⟩ := hrel
    by_cases hlt : k < s.size
    · obtain ⟨v, hv⟩ : ∃ v, (s[k].toNat : Int) = v := ⟨_, rfl⟩
      by_cases hc : v = q
      · have hy := hasB_yes s q k hlt (by rw [hv]; exact hc)
        have HY : Hid (hasB s q = true) := hy
        have hcI : (v == q) = true := beq_iff_eq.2 hc
        clear hno hy hc
        go_wp2
        go_ret
        exact ⟨ret_bool HY.out.symm, rfl⟩
      · have hcI : (v == q) = false := beq_eq_false_iff_ne.2 hc
        have HN : Hid (∀ j (h : j < s.size), j < k + 1 → (s[j].toNat : Int) ≠ q) := by
          intro j h hj
          by_cases hjk : j = k
          · subst hjk; rw [hv]; exact hc
          · exact hno j h (by omega)
        clear hno hc
        go_wp2
        go_round
        case rel => exact ⟨k + 1, by omega, by go_num, HN.out⟩
        case measure => simp [intOf]; omega
    · have HN : Hid (hasB s q = false) := hasB_no s q fun j h => hno j h (by omega)
      clear hno
      go_wp2
      go_ret
      exact ⟨ret_bool HN.out.symm, rfl⟩

/-- The needle stands in the row of bytes at place p. -/
def At (xs : List Int) (key : ByteArray) (p : Nat) : Prop := ∀ j (h : j < key.size), xs.getD (p + j) 0 = (key[j].toNat : Int)

set_option maxHeartbeats 2000000 in
theorem indexIn_any (B n c : Nat) (xs : List Int) (key : ByteArray) (w : World) (hx : xs.length = n) (hc : ∀ i, i < n → w.cell? ⟨B, i, none⟩ = some (.int .u8 (xs.getD i 0))) (hn : n ≤ 1048576) (hk : key.size ≤ 1048576) :
    Calls Try.prog 18 #[.slice (some ⟨B, 0, none⟩) n c, .string key] w fun e w' => ∃ r : Int, e = .returned (.int .i64 r) ∧ (∀ p : Nat, (p : Int) < r → ¬ At xs key p) ∧ ∃ q, w' = w.drewN q := by
  go_enter Try.func18, Try.ntmps18
  go_wp2
  go_loopw [5] (fun i wr => ∃ p q : Nat, p ≤ n + 1 ∧ i = .int .i64 p ∧ wr = w.drewN q ∧ ∀ t, t < p → ¬ At xs key t) (fun i _ => n + 1 - (intOf i).toNat)
  case atStart => exact ⟨0, 0, Nat.zero_le _, rfl, rfl, fun t ht => absurd ht (by omega)⟩
  case round =>
    obtain ⟨p, q, hp, rfl, rfl, hno⟩ := hrel
    have HN : Hid (∀ t, t < p → ¬ At xs key t) := hno
    clear hno
    by_cases hfit : p + key.size ≤ n
    · have hfI : (p : Int) + key.size ≤ n := by omega
      go_wp2
      go_loopw [6] (fun i wr => ∃ j q : Nat, j ≤ key.size ∧ i = .int .i64 j ∧ wr = w.drewN q ∧ ∀ t (h : t < key.size), t < j → xs.getD (p + t) 0 = (key[t].toNat : Int)) (fun i _ => key.size - (intOf i).toNat)
      case atStart => exact ⟨0, q, Nat.zero_le _, rfl, rfl, fun t h ht => absurd ht (by omega)⟩
      case round =>
        obtain ⟨j, q, hj, rfl, rfl, hyes⟩ := hrel
        by_cases hjk : j < key.size
        · have hcj := hc (p + j) (by omega)
          obtain ⟨v, hv⟩ : ∃ v, xs.getD (p + j) 0 = v := ⟨_, rfl⟩
          rw [hv] at hcj
          have hjI : (j : Int) < (key.size : Int) := by omega
          have hj0 : (0 : Int) ≤ (j : Int) := by omega
          have hpj : (p : Int) + j < n := by omega
          have hpj0 : (0 : Int) ≤ (p : Int) + j := by omega
          have hd : decide ((j : Int) < (key.size : Int)) = true := decide_eq_true hjI
          by_cases he : v = (key[j].toNat : Int)
          · have heb : (v == (key[j].toNat : Int)) = true := beq_iff_eq.2 he
            have HY : Hid (∀ t (h : t < key.size), t < j + 1 → xs.getD (p + t) 0 = (key[t].toNat : Int)) := by
              intro t h ht
              by_cases htj : t = j
              · subst htj; rw [hv]; exact he
              · exact hyes t h (by omega)
            clear hyes he hv hc
            go_wp2
            go_quiet (fail)
            go_wp2
            go_roundw
            case rel => exact ⟨j + 1, _, by omega, by go_num, rfl, HY.out⟩
            case measure => simp [intOf]; omega
          · have heb : (v == (key[j].toNat : Int)) = false := beq_eq_false_iff_ne.2 he
            have hlast : ((j : Int) == (key.size : Int)) = false := beq_eq_false_iff_ne.2 (by omega)
            have HY : Hid (∀ t, t < p + 1 → ¬ At xs key t) := by
              intro t ht
              by_cases htp : t = p
              · subst htp; intro ha; have := ha j hjk; rw [hv] at this; exact he this
              · exact HN.out t (by omega)
            clear hyes he hv hc
            go_wp2
            go_quiet (fail)
            go_wp2
            go_roundw
            case rel => exact ⟨p + 1, _, by omega, by go_num, rfl, HY.out⟩
            case measure => simp [intOf]; omega
        · have hjI : ¬ (j : Int) < (key.size : Int) := by omega
          have hd : decide ((j : Int) < (key.size : Int)) = false := decide_eq_false hjI
          have hlast : ((j : Int) == (key.size : Int)) = true := beq_iff_eq.2 (by omega)
          clear hyes hc
          go_wp2
          go_quiet (fail)
          go_wp2
          go_ret
          exact ⟨p, rfl, fun t ht => HN.out t (by omega), _, rfl⟩
    · have hfI : ¬ (p : Int) + key.size ≤ n := by omega
      clear hc
      go_wp2
      go_ret
      exact ⟨-1, rfl, fun t ht => absurd ht (by omega), _, rfl⟩

end Go.Proofs.Qxb6000564a
