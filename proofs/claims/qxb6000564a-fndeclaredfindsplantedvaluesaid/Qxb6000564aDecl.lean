import Derived.Test.Qxb6000564aPlant
import Derived.Laws.IdiomStrings
import Derived.Laws.BytesArg
namespace Go.Proofs.Qxb6000564a
open Go.ChangeShapes Go.WideShapes Go.ChangeAt Go.RowKit
set_option linter.unusedVariables false

/-- 'append(out, s...)' within the capacity, the length and the cells behind it named. -/
theorem wpList_append_fits_eq {P : Program} (w : World) {ops : Array Oper} {rest : List Oper} {o : Oper} {a : Act} {Q : Exit → Act → World → Prop}
    (hg : o.guard = none) (s x : Operand) (t : TypeId) (hop : o.op = Op.call { callee := Callee.builtin Builtin.append, args := #[s, x], argTypes := #[t, t] })
    (base : Nat) (e : TypeId) (i : TypeInfo) (h1 : P.underlying t = some (.slice e)) (h2 : P.info? e = some i) (h4 : i.size = 1)
    (g k cap : Nat) (xs : List Value) (hs : a.eval s = .slice (some ⟨g, 0, none⟩) k cap) (hown : w.ownsRow base e 1 (.slice (some ⟨g, 0, none⟩) k cap) k xs) (ad : Addr) (m c : Nat) (news : List Value) (hx : a.eval x = .slice (some ad) m c) (hn : news.length = m)
    (hc : ∀ j u, news[j]? = some u → w.cell? (ad.add j) = some u) (h1c : ∀ u ∈ news, u.oneCell' = true) (k' : Nat) (xs' : List Value) (hk' : k + m = k') (hxs' : xs ++ news = xs') (b1 : k' ≤ cap)
    (hK : ∀ w', w'.ownsRow base e 1 (.slice (some ⟨g, 0, none⟩) k' cap) k' xs' → w.grownBy w' (some g) → wpList P ops Q rest (a.put o.dst (.slice (some ⟨g, 0, none⟩) k' cap)) w') :
    wpList P ops Q (o :: rest) a w := by
  subst hk' hxs'
  exact wpList_append_fits w hg s x t hop base e i 1 h1 h2 h4 g k cap xs hs hown ad m c news hx (by omega) hc h1c b1 hK

/-- '[]byte(key)': a new row. -/
theorem conv_key (key : ByteArray) (w : World) : ∃ (w1 : World) (c : Nat), (convert 9 26 (.string key)).run Try.prog w = .ok (.slice (some ⟨w.heap.size, 0, none⟩) key.size c) w1 ∧ Below w.heap.size w w1 ∧
    ∀ i, i < key.size → w1.cell? ((⟨w.heap.size, 0, none⟩ : Addr).add i) = some (.int .u8 ((nums key).getD i 0)) := by
  refine ⟨_, _, run_bytes_of_string (P := Try.prog) w 9 26 5 key Try.underlying9 Try.underlying26 Try.underlying5, ((Below.refl _ _).drew).alloc (Nat.le_refl _) _, fun i hi => ?_⟩
  have ea : (⟨w.heap.size, 0, none⟩ : Addr).add i = ⟨w.heap.size, i, none⟩ := by unfold Addr.add; split <;> simp_all
  have e1 : (nums key).getD i 0 = (key.data[i].toNat : Int) := by
    rw [List.getD_eq_getElem?_getD, nums_at key i hi]
    rfl
  have hr := bytesRow_at key (grownCap w key.size 0 5) i hi
  rw [ea, e1]
  simp only [World.cell?]
  rw [show ((w.drew.alloc (.cells (bytesRow key (grownCap w key.size 0 5)) 5 ((bytesRow key (grownCap w key.size 0 5)).size, (bytesRow key (grownCap w key.size 0 5)).size + 1))).heap[w.heap.size]?) = some (.cells (bytesRow key (grownCap w key.size 0 5)) 5 ((bytesRow key (grownCap w key.size 0 5)).size, (bytesRow key (grownCap w key.size 0 5)).size + 1)) from by
    show (w.heap.push _)[w.heap.size]? = _
    simp]
  exact hr

set_option maxHeartbeats 2000000 in
theorem declared_found (B N : Nat) (xs : List Int) (key : ByteArray) (p v : Nat) (qv : Int) (w w1 : World) (c : Nat) (hx : xs.length = N) (hc : ∀ i, i < N → w1.cell? ⟨B, i, none⟩ = some (.int .u8 (xs.getD i 0))) (hN : N ≤ 2097152)
    (hcv : (convert 9 26 (.string key)).run Try.prog w = .ok (.slice (some ⟨w.heap.size, 0, none⟩) key.size c) w1) (hbel : Below w.heap.size w w1)
    (hI : Calls Try.prog 27 #[.slice (some ⟨B, 0, none⟩) N N, .slice (some ⟨w.heap.size, 0, none⟩) key.size c] w1 fun e w' => e = .returned (.int .i64 p) ∧ ∃ q, w' = w1.drewN q)
    (hq : xs.getD (p + key.size) 0 = qv) (hq2 : qv = 34 ∨ qv = 39)
    (hv : Lib.indexByte (Lib.bytesOf (xs.drop (p + key.size + 1))) qv.toNat.toUInt8 = v) (hlt : p + key.size + 1 + v < N) :
    Calls Try.prog 25 #[.slice (some ⟨B, 0, none⟩) N N, .string key] w fun e w' => e = .returned (.string (strOfNums ((xs.drop (p + key.size + 1)).take v))) ∧ Below w.heap.size w w' := by
  have hcq := hc (p + key.size) (by omega)
  rw [hq] at hcq
  have h2 : ∀ q, Calls Try.prog 26 #[.slice (some ⟨B, p + key.size + 1, none⟩) (N - (p + key.size) - 1) (N - (p + key.size) - 1), .int .u8 qv] (w1.drewN q) fun e w' => e = .returned (.int .i64 v) ∧ w' = w1.drewN q := by
    intro q
    have := indexByte_at B (p + key.size + 1) (N - (p + key.size) - 1) (N - (p + key.size) - 1) (xs.drop (p + key.size + 1)) qv (w1.drewN q) (by rw [List.length_drop]; omega)
      (fun i hi => by
        show w1.cell? _ = _
        rw [hc (p + key.size + 1 + i) (by omega), Lib.getD_drop])
    rw [hv] at this
    exact this
  have h3 : ∀ q C, (convert 26 9 (.slice (some ⟨B, p + key.size + 1, none⟩) v C)).run Try.prog (w1.drewN q) = .ok (.string (strOfNums ((xs.drop (p + key.size + 1)).take v))) (w1.drewN q) := by
    intro q C
    refine run_convert_bytes_arg (P := Try.prog) (w1.drewN q) 26 5 Try.underlying26 Try.underlying5 B (p + key.size + 1) v C ((xs.drop (p + key.size + 1)).take v) (by rw [List.length_take, List.length_drop]; omega) (fun i hi => ?_) 9 Try.underlying9
    show w1.cell? _ = _
    rw [hc (p + key.size + 1 + i) (by omega), List.getD_eq_getElem?_getD, List.getD_eq_getElem?_getD, List.getElem?_take_of_lt hi, List.getElem?_drop]
  generalize strOfNums ((xs.drop (p + key.size + 1)).take v) = S at h3 ⊢
  have hz : p + key.size < N := by omega
  clear hc hv hq hx
  rcases hq2 with rfl | rfl
  all_goals
    go_enter Try.func25, Try.ntmps25
    go_wp2
    refine wp_loop_rounds 1 ?_
    rw [rounds_succ]
    go_wp2_with (first | (go_at_call 27; refine hI.mono ?_; rintro e w' ⟨rfl, q, rfl⟩) | (go_at_call 26; refine (h2 _).mono ?_; rintro e w' ⟨rfl, rfl⟩))
    go_ret
    exact ⟨rfl, below_drewN hbel _⟩

theorem zz_declared (v : Value) (key S : ByteArray) (B : Nat) (w : World) (h : Calls Try.prog 25 #[v, .string key] w fun e w' => e = .returned (.string S) ∧ Below B w w') :
    Calls Try.prog 19 #[v, .string key] w fun e w' => e = .returned (.string S) ∧ Below B w w' := by
  go_enter Try.func19, Try.ntmps19
  go_wp2_with (go_at_call 25; refine h.mono ?_; rintro e w' ⟨rfl, hb⟩)
  go_ret
  exact ⟨rfl, by assumption⟩

end Go.Proofs.Qxb6000564a
