/-
  'c := make([]T, n); copy(c, s)' for elements of one cell: the new row holds what the source held. Over any program. And a plain law on the first colon of a row of bytes.
-/
import Derived.Laws.CopyOwn
import Derived.OwnWalk
import Derived.Lib.BytesEntry
namespace Go.Proofs.Qxb6000564a
open Go.RowKit

theorem run_copy_whole {P : Program} {w : World} (T ty e : TypeId) (hu : P.underlying T = some (.slice e)) (hsz : (P.info? e).map (·.size) = some 1)
    (g n sCap : Nat) (ad : Addr) (B : Nat) (w0 : World) (hb : Below B w0 w) (zs : List Value) (hown : w.ownsRow B e 1 (.slice (some ⟨g, 0, none⟩) n n) n zs)
    (cs : List Value) (hn : cs.length = n) (hsrc : ∀ j v, cs[j]? = some v → w.cell? (ad.add j) = some v) (h1 : ∀ v ∈ cs, v.oneCell' = true) :
    ∃ w', (Builtin.copy_ #[T, T] ty #[.slice (some ⟨g, 0, none⟩) n n, .slice (some ad) n sCap]).run P w = .ok (.int .i64 n) w' ∧ w'.ownsRow B e 1 (.slice (some ⟨g, 0, none⟩) n n) n cs ∧ Below B w0 w' := by
  rcases hown.2 with ⟨hv, _⟩ | ⟨g', cap', cur, hv, hbg, hg, hnc, hcm, hcs, htake⟩
  · simp at hv
  · simp only [Value.slice.injEq, Option.some.injEq, Addr.mk.injEq, true_and, and_true] at hv
    obtain ⟨rfl, rfl⟩ := hv
    have hcs' : cur.size = n := by simpa using hcs
    have hr := run_copy_row (P := P) w T T ty e g 0 n n ad n sCap cur e cs hu hsz hg (by simpa using hn) hsrc (by omega) h1
    have es : (cur.toList.take 0 ++ cs ++ cur.toList.drop (0 + cs.length)) = cs := by
      rw [List.drop_of_length_le (by simp; omega), List.append_nil, List.take_zero, List.nil_append]
    rw [es, hn] at hr
    have hg2 := setRow_heap w g cur cs.toArray e _ hg
    exact ⟨_, hr, ⟨by simpa using hn, .inr ⟨g, n, cs.toArray, rfl, hbg, hg2, Nat.le_refl _, hcm, by simpa using hn, by simp [← hn]⟩⟩, below_setRow hb hbg _⟩

theorem byte_inj {x y : Int} (hx : 0 ≤ x ∧ x < 256) (hy : 0 ≤ y ∧ y < 256) (h : UInt8.ofNat x.toNat = UInt8.ofNat y.toNat) : x = y := by
  have := congrArg UInt8.toNat h
  simp at this
  omega

/-- The first place of a byte in a row of bytes. -/
theorem index_cases (c : Int) (hc : 0 ≤ c ∧ c < 256) : ∀ xs : List Int, (∀ x ∈ xs, 0 ≤ x ∧ x < 256) →
    (Lib.indexByte (Lib.bytesOf xs) (UInt8.ofNat c.toNat) = -1 ∧ ∀ j, j < xs.length → xs.getD j 0 ≠ c) ∨
    ∃ k : Nat, Lib.indexByte (Lib.bytesOf xs) (UInt8.ofNat c.toNat) = k ∧ k < xs.length ∧ xs.getD k 0 = c ∧ ∀ j, j < k → xs.getD j 0 ≠ c
  | [], _ => .inl ⟨rfl, fun j hj => absurd hj (by simp)⟩
  | x :: xs, h => by
    have ih := index_cases c hc xs (fun y hy => h y (by simp [hy]))
    have hx := h x (by simp)
    by_cases hxc : x = c
    · right
      subst hxc
      exact ⟨0, by simp [Lib.bytesOf, Lib.indexByte], by simp, by simp, fun j hj => absurd hj (by omega)⟩
    · have hne : (UInt8.ofNat x.toNat == UInt8.ofNat c.toNat) = false := by
        rw [beq_eq_false_iff_ne]
        exact fun e => hxc (byte_inj hx hc e)
      have e1 : Lib.indexByte (Lib.bytesOf (x :: xs)) (UInt8.ofNat c.toNat) = if Lib.indexByte (Lib.bytesOf xs) (UInt8.ofNat c.toNat) == -1 then -1 else Lib.indexByte (Lib.bytesOf xs) (UInt8.ofNat c.toNat) + 1 := by
        show Lib.indexByte (UInt8.ofNat x.toNat :: Lib.bytesOf xs) _ = _
        rw [Lib.indexByte, hne]
        simp
      rcases ih with ⟨e, hno⟩ | ⟨k, e, hk, hkc, hno⟩
      · left
        refine ⟨by rw [e1, e]; rfl, fun j hj => ?_⟩
        match j with
        | 0 => simpa using hxc
        | j + 1 => simpa using hno j (by simpa using hj)
      · right
        have hn1 : ((k : Int) == -1) = false := by simp
        refine ⟨k + 1, by rw [e1, e, hn1]; simp, by simpa using hk, by simpa using hkc, fun j hj => ?_⟩
        match j with
        | 0 => simpa using hxc
        | j + 1 => simpa using hno j (by omega)

end Go.Proofs.Qxb6000564a
