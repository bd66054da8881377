/-
  'append(b, s...)', s a string, WITHIN THE CAPACITY of a row of bytes that the call made itself: the value is known. Over any program.
-/
import Derived.Lib.AppendStr
import Derived.Below
namespace Go.Proofs.Qxb6000564a
open Go.RowKit

theorem run_append_fits_string {P : Program} (w : World) (base : Nat) (t u ty e : TypeId) (i : TypeInfo) (ht : P.underlying t = some (.slice e)) (hu : P.underlying u = some .string) (hi : P.info? e = some i) (hsize : i.size = 1)
    (g k cap : Nat) (xs : List Value) (hown : w.ownsRow base e 1 (.slice (some ⟨g, 0, none⟩) k cap) k xs) (s : ByteArray) (hroom : k + s.size ≤ cap) :
    ∃ w', (Builtin.append_ #[t, u] ty #[.slice (some ⟨g, 0, none⟩) k cap, .string s]).run P w = .ok (.slice (some ⟨g, 0, none⟩) (k + s.size) cap) w' ∧
      w'.ownsRow base e 1 (.slice (some ⟨g, 0, none⟩) (k + s.size) cap) (k + s.size) (xs ++ Lib.strCells s) ∧ w.grownBy w' (some g) := by
  have hxl : xs.length = k := by simpa using hown.1
  have hlen : (xs ++ Lib.strCells s).length = (k + s.size) * 1 := by rw [List.length_append, hxl, Lib.strCells_length, Nat.mul_one]
  rcases hown.2 with ⟨h, _⟩ | ⟨g', cap', cur, hv, hbg, hg, hnc, hcm, hcs, htake⟩
  · simp at h
  · simp only [Value.slice.injEq, Option.some.injEq, Addr.mk.injEq, true_and, and_true] at hv
    obtain ⟨rfl, rfl⟩ := hv
    have hcs' : cur.size = cap := by simpa using hcs
    have hr := Lib.run_append_room_string (P := P) w t u ty e i ht hu hi hsize g k cap cur hg s hroom (by omega)
    refine ⟨_, hr, ⟨hlen, .inr ⟨g, cap, _, rfl, hbg, setRow_heap w g cur _ e _ hg, hroom, hcm, ?_, ?_⟩⟩, ⟨rfl, rfl, rfl, by simp, fun k _ hk => setRow_other w g k _ (fun e => hk (by simp [e]))⟩⟩
    · simp only [List.size_toArray, List.length_append, List.length_take, List.length_drop, Array.length_toList, Lib.strCells_length]
      omega
    · have ht' : cur.toList.take k = xs := by simpa using htake
      rw [ht', ← hlen]
      exact List.take_left

theorem wpList_append_fits_string {P : Program} (w : World) {ops : Array Oper} {rest : List Oper} {o : Oper} {a : Act} {Q : Exit → Act → World → Prop} (hgd : o.guard = none) (sl x : Operand) (t u : TypeId)
    (ho : o.op = .call { callee := .builtin .append, args := #[sl, x], argTypes := #[t, u] })
    (base : Nat) (e : TypeId) (i : TypeInfo) (ht : P.underlying t = some (.slice e)) (hu : P.underlying u = some .string) (hi : P.info? e = some i) (hsize : i.size = 1)
    (g k cap : Nat) (xs : List Value) (hs : a.eval sl = .slice (some ⟨g, 0, none⟩) k cap) (hown : w.ownsRow base e 1 (.slice (some ⟨g, 0, none⟩) k cap) k xs) (s : ByteArray) (hx : a.eval x = .string s)
    (k' : Nat) (xs' : List Value) (hk' : k + s.size = k') (hxs' : xs ++ Lib.strCells s = xs') (hroom : k' ≤ cap)
    (h : ∀ w', w'.ownsRow base e 1 (.slice (some ⟨g, 0, none⟩) k' cap) k' xs' → w.grownBy w' (some g) → wpList P ops Q rest (a.put o.dst (.slice (some ⟨g, 0, none⟩) k' cap)) w') :
    wpList P ops Q (o :: rest) a w := by
  subst hk' hxs'
  refine wpList_plain hgd fun K hK => ?_
  obtain ⟨w', hr, h2, h3⟩ := run_append_fits_string (P := P) w base t u o.type e i ht hu hi hsize g k cap xs hown s hroom
  unfold Oper.wp execOp
  simp only [ho, resolve, invoke, builtin, Sem.run_bind, Sem.run_pure, Result.andThen_ok, List.map_toArray, List.map_cons, List.map_nil, hs, hx, hr]
  exact hK _ _ (h w' h2 h3)

/-- The cells of an owned row of bytes that holds known numbers. -/
theorem cells_of_own {w : World} {base : Nat} {e : TypeId} {g n cap : Nat} {vs : List Value} (zs : List Int) (h : w.ownsRow base e 1 (.slice (some ⟨g, 0, none⟩) n cap) n vs) (hz : vs = zs.map (Value.int .u8)) :
    zs.length = n ∧ n ≤ cap ∧ cap ≤ maxLen ∧ base ≤ g ∧ ∀ i, i < n → w.cell? ⟨g, 0 + i, none⟩ = some (.int .u8 (zs.getD i 0)) := by
  have hl : zs.length = n := by have := h.1; rw [hz] at this; simpa using this
  have hcl : n ≤ cap ∧ cap ≤ maxLen ∧ base ≤ g := by
    rcases h.2 with ⟨hv, _⟩ | ⟨g', cap', cur, hv, hbg, hg, hnc, hcm, hcs, htake⟩
    · simp at hv
    · simp only [Value.slice.injEq, Option.some.injEq, Addr.mk.injEq, true_and, and_true] at hv
      obtain ⟨rfl, rfl⟩ := hv
      exact ⟨hnc, hcm, hbg⟩
  refine ⟨hl, hcl.1, hcl.2.1, hcl.2.2, fun i hi => ?_⟩
  have := World.ownsRow.cellAt h i (by omega)
  rw [Nat.zero_add, this, hz, List.getElem?_map, List.getD_eq_getElem?_getD, List.getElem?_eq_getElem (by omega)]
  rfl

/-- A new block of one byte holds it. -/
theorem one_new (w : World) (x : Value) (t : TypeId) : ∀ j u, [x][j]? = some u → (w.alloc (.cells #[x] t)).cell? ((⟨w.heap.size, 0, none⟩ : Addr).add j) = some u := by
  intro j u hj
  match j, hj with
  | 0, hj =>
    simp at hj
    subst hj
    simp [Addr.add]

/-- A string's bytes as numbers. -/
def nums (s : ByteArray) : List Int := s.data.toList.map fun b => (b.toNat : Int)

theorem strCells_nums (s : ByteArray) : Lib.strCells s = (nums s).map (Value.int .u8) := by
  simp [Lib.strCells, nums]

theorem nums_length (s : ByteArray) : (nums s).length = s.size := by
  simp [nums]

end Go.Proofs.Qxb6000564a
