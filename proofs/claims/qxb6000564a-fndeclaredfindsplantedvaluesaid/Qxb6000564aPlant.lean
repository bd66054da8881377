/-
  The plain law of FnDeclaredFindsPlantedValue: the first place of the key in pre ++ key ++ rest, where it stands at no earlier place of pre ++ key.
-/
import Derived.Lib.Index
import Derived.Test.Qxb6000564aDec
namespace Go.Proofs.Qxb6000564a

theorem nums_map (s : ByteArray) : nums s = s.data.toList.map fun b => (b.toNat : Int) := rfl

theorem index_planted (pre key : ByteArray) (R : List UInt8) (h : ∀ p : Nat, p < pre.size → ¬ At (nums pre ++ nums key) key p) :
    Lib.index (pre.data.toList ++ (key.data.toList ++ R)) key.data.toList = pre.size := by
  have hpl : pre.data.toList.length = pre.size := by simp
  have hkl : key.data.toList.length = key.size := by simp
  refine Lib.index_first (by rw [List.length_append, hpl]; omega) ?_ ?_
  · unfold Lib.occAt
    rw [← hpl, List.drop_left]
    simp
  · intro j hj
    cases ho : Lib.occAt (pre.data.toList ++ (key.data.toList ++ R)) key.data.toList j with
    | false => rfl
    | true =>
      refine absurd ?_ (h j hj)
      unfold Lib.occAt at ho
      rw [List.isPrefixOf_iff_prefix] at ho
      obtain ⟨T, hT⟩ := ho
      intro t ht
      have e1 : (key.data.toList ++ T)[t]? = some key[t] := by
        rw [List.getElem?_append_left (by omega), List.getElem?_eq_getElem (by omega)]
        rfl
      rw [hT, List.getElem?_drop, ← List.append_assoc, List.getElem?_append_left (by rw [List.length_append]; omega)] at e1
      have e2 : (nums pre ++ nums key)[j + t]? = some (key[t].toNat : Int) := by
        rw [nums_map, nums_map, ← List.map_append, List.getElem?_map, e1]
        rfl
      rw [List.getD_eq_getElem?_getD, e2]
      rfl

theorem bytesOf_append (a b : List Int) : Lib.bytesOf (a ++ b) = Lib.bytesOf a ++ Lib.bytesOf b := by simp [Lib.bytesOf]

/-- The bytes of the content. -/
def content (pre key value post : ByteArray) (q : Int) : List Int := nums pre ++ nums key ++ [q] ++ nums value ++ [q] ++ nums post

theorem content_length (pre key value post : ByteArray) (q : Int) : (content pre key value post q).length = pre.size + key.size + 1 + value.size + 1 + post.size := by
  simp [content, nums_length]; omega

theorem content_index (pre key value post : ByteArray) (q : Int) (h : ∀ p : Nat, p < pre.size → ¬ At (nums pre ++ nums key) key p) :
    Lib.index (Lib.bytesOf (content pre key value post q)) key.data.toList = pre.size := by
  have e : Lib.bytesOf (content pre key value post q) = pre.data.toList ++ (key.data.toList ++ (Lib.bytesOf [q] ++ (value.data.toList ++ (Lib.bytesOf [q] ++ post.data.toList)))) := by
    simp only [content, bytesOf_append, bytesOf_nums, List.append_assoc]
  rw [e]
  exact index_planted pre key _ h

theorem content_quote (pre key value post : ByteArray) (q : Int) : (content pre key value post q).getD (pre.size + key.size) 0 = q := by
  have e : content pre key value post q = (nums pre ++ nums key) ++ (q :: (nums value ++ [q] ++ nums post)) := by simp [content]
  have hl : (nums pre ++ nums key).length = pre.size + key.size := by simp [nums_length]
  rw [e, List.getD_eq_getElem?_getD, ← hl, List.getElem?_append_right (Nat.le_refl _)]
  simp

theorem content_drop (pre key value post : ByteArray) (q : Int) : (content pre key value post q).drop (pre.size + key.size + 1) = nums value ++ q :: nums post := by
  have e : content pre key value post q = (nums pre ++ nums key ++ [q]) ++ (nums value ++ q :: nums post) := by simp [content]
  have hl : (nums pre ++ nums key ++ [q]).length = pre.size + key.size + 1 := by simp [nums_length]; omega
  rw [e, ← hl, List.drop_left]

theorem content_second (pre key value post : ByteArray) (q : Int) (hq : 0 ≤ q ∧ q < 256) (hno : hasB value q = false) :
    Lib.indexByte (Lib.bytesOf ((content pre key value post q).drop (pre.size + key.size + 1))) (UInt8.ofNat q.toNat) = value.size := by
  rw [content_drop]
  have e : Lib.bytesOf (nums value ++ q :: nums post) = value.data.toList ++ UInt8.ofNat q.toNat :: post.data.toList := by
    rw [bytesOf_append, bytesOf_nums, ← bytesOf_nums post]
    rfl
  rw [e, indexByte_first]
  · simp
  · intro b hb
    obtain ⟨j, hj, rfl⟩ := List.getElem_of_mem hb
    intro e2
    refine hasB_false hno j (by simpa using hj) ?_
    have := congrArg UInt8.toNat e2
    simp at this
    show (((value.data.toList)[j].toNat : Nat) : Int) = q
    simp
    omega

theorem content_take (pre key value post : ByteArray) (q : Int) : strOfNums (((content pre key value post q).drop (pre.size + key.size + 1)).take value.size) = value := by
  rw [content_drop, ← nums_length value, List.take_left]
  apply ByteArray.ext
  apply Array.ext'
  show (Lib.bytesOf (nums value)).toArray.toList = _
  rw [bytesOf_nums]

theorem byte_nums (s : ByteArray) : ∀ x ∈ nums s, 0 ≤ x ∧ x < 256 := by
  intro x hx
  unfold nums at hx
  rw [List.mem_map] at hx
  obtain ⟨b, _, rfl⟩ := hx
  have := b.toNat_lt
  omega

theorem content_bytes (pre key value post : ByteArray) (q : Int) (hq : 0 ≤ q ∧ q < 256) : ∀ x ∈ content pre key value post q, 0 ≤ x ∧ x < 256 := by
  intro x hx
  simp only [content, List.mem_append, List.mem_singleton] at hx
  rcases hx with ((((h | h) | h) | h) | h) | h
  · exact byte_nums _ x h
  · exact byte_nums _ x h
  · rw [h]; exact hq
  · exact byte_nums _ x h
  · rw [h]; exact hq
  · exact byte_nums _ x h

end Go.Proofs.Qxb6000564a
