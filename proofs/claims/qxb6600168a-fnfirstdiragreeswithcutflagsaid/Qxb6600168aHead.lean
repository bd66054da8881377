/-
  The head's words: what 'initOrder' spells, once, so that the three facts that read it need not spell it each anew (in one piece the kernel outgrows the memory lid).
-/
import Derived.Test.Qxb6600168aRows
import Derived.JoinedOf
import Derived.KernelRfl
namespace Go.Proofs.Qxb6600168a.Head
open Go

/-- The signs of the head. -/
def signs : List Char := ([
  104, 97, 114, 110, 101, 115, 115, 32, 51, 53, 53, 52, 55, 48, 51, 101, 54, 53, 100, 97, 56, 55, 57, 51, 54, 55, 52, 48, 51, 52, 98, 53, 100, 98, 97, 101, 56, 54, 53, 56,
  97, 55, 48, 52, 57, 52, 101, 98, 57, 52, 52, 50, 52, 57, 49, 48, 99, 102, 98, 97, 100, 48, 102, 48, 56, 50, 97, 97, 56, 49, 99, 56, 32, 99, 117, 116, 32, 97, 116, 32,
  114, 111, 117, 120, 46, 101, 120, 97, 109, 112, 108, 101, 47, 114, 111, 117, 120, 47, 122, 122, 108, 97, 119, 115, 95, 105, 110, 116, 101, 114, 110, 97, 108, 95, 103, 111, 99, 109, 100, 95,
  98, 49, 46, 70, 110, 67, 117, 116, 70, 108, 97, 103, 82, 111, 117, 110, 100, 84, 114, 105, 112, 32, 114, 111, 117, 120, 46, 101, 120, 97, 109, 112, 108, 101, 47, 114, 111, 117, 120, 47,
  122, 122, 108, 97, 119, 115, 95, 105, 110, 116, 101, 114, 110, 97, 108, 95, 103, 111, 99, 109, 100, 95, 98, 49, 46, 70, 110, 67, 117, 116, 70, 108, 97, 103, 82, 101, 98, 117, 105, 108,
  100, 115, 73, 116, 115, 73, 110, 112, 117, 116, 32, 114, 111, 117, 120, 46, 101, 120, 97, 109, 112, 108, 101, 47, 114, 111, 117, 120, 47, 122, 122, 108, 97, 119, 115, 95, 105, 110, 116, 101,
  114, 110, 97, 108, 95, 103, 111, 99, 109, 100, 95, 98, 49, 46, 70, 110, 67, 117, 116, 70, 108, 97, 103, 68, 97, 115, 104, 101, 115, 65, 103, 114, 101, 101, 32, 114, 111, 117, 120, 46,
  101, 120, 97, 109, 112, 108, 101, 47, 114, 111, 117, 120, 47, 122, 122, 108, 97, 119, 115, 95, 105, 110, 116, 101, 114, 110, 97, 108, 95, 103, 111, 99, 109, 100, 95, 98, 49, 46, 70, 110,
  70, 105, 114, 115, 116, 68, 105, 114, 82, 111, 117, 110, 100, 84, 114, 105, 112, 32, 114, 111, 117, 120, 46, 101, 120, 97, 109, 112, 108, 101, 47, 114, 111, 117, 120, 47, 122, 122, 108, 97,
  119, 115, 95, 105, 110, 116, 101, 114, 110, 97, 108, 95, 103, 111, 99, 109, 100, 95, 98, 49, 46, 70, 110, 70, 105, 114, 115, 116, 68, 105, 114, 65, 103, 114, 101, 101, 115, 87, 105, 116,
  104, 67, 117, 116, 70, 108, 97, 103, 32, 114, 111, 117, 120, 46, 101, 120, 97, 109, 112, 108, 101, 47, 114, 111, 117, 120, 47, 122, 122, 108, 97, 119, 115, 95, 105, 110, 116, 101, 114, 110,
  97, 108, 95, 103, 111, 99, 109, 100, 95, 98, 49, 46, 70, 110, 70, 105, 114, 115, 116, 68, 105, 114, 82, 101, 97, 100, 115, 79, 110, 108, 121, 84, 104, 101, 76, 101, 97, 100, 32, 114,
  111, 117, 120, 46, 101, 120, 97, 109, 112, 108, 101, 47, 114, 111, 117, 120, 47, 122, 122, 108, 97, 119, 115, 95, 105, 110, 116, 101, 114, 110, 97, 108, 95, 103, 111, 99, 109, 100, 95, 98,
  49, 46, 70, 110, 80, 111, 115, 105, 116, 105, 111, 110, 97, 108, 75, 101, 101, 112, 115, 65, 110, 100, 82, 101, 99, 111, 114, 100, 115, 32, 114, 111, 117, 120, 46, 101, 120, 97, 109, 112,
  108, 101, 47, 114, 111, 117, 120, 47, 122, 122, 108, 97, 119, 115, 95, 105, 110, 116, 101, 114, 110, 97, 108, 95, 103, 111, 99, 109, 100, 95, 98, 49, 46, 70, 110, 80, 111, 115, 105, 116,
  105, 111, 110, 97, 108, 82, 117, 110, 84, 97, 107, 101, 115, 76, 101, 97, 100, 105, 110, 103, 71, 111, 70, 105, 108, 101, 115, 32, 114, 111, 117, 120, 46, 101, 120, 97, 109, 112, 108, 101,
  47, 114, 111, 117, 120, 47, 122, 122, 108, 97, 119, 115, 95, 105, 110, 116, 101, 114, 110, 97, 108, 95, 103, 111, 99, 109, 100, 95, 98, 49, 46, 70, 110, 80, 111, 115, 105, 116, 105, 111,
  110, 97, 108, 83, 112, 108, 105, 116, 65, 103, 114, 101, 101, 115] : List Nat).map Char.ofNat

theorem init_eq : Try.prog.initOrder = String.ofList signs := by kernel_rfl
theorem toList_eq : Try.prog.initOrder.toList = signs := by rw [init_eq, String.toList_ofList]
theorem words_eq : ∃ ws, behindMainWord (wordsSigns signs) = [Char.ofNat 99, Char.ofNat 117, Char.ofNat 116] :: ws := ⟨(behindMainWord (wordsSigns signs)).tail, by kernel_rfl⟩

theorem head_words : ∃ ws, behindMainWord (wordsSigns Try.prog.initOrder.toList) = [Char.ofNat 99, Char.ofNat 117, Char.ofNat 116] :: ws := by rw [toList_eq]; exact words_eq

/-- "cut", as signs. -/
def cutW : List Char := [Char.ofNat 99, Char.ofNat 117, Char.ofNat 116]

theorem strip (ws : List (List Char)) : stripLifts liftWords (cutW :: ws) = ([], cutW :: ws) := by kernel_rfl

theorem headLifts_of (P : Program) (ws : List (List Char)) (h : behindMainWord (wordsSigns P.initOrder.toList) = cutW :: ws) : P.headLifts = [] := by
  unfold Program.headLifts
  rw [h, strip]
  simp

theorem liftsFinal_of (P : Program) (ws : List (List Char)) (h : behindMainWord (wordsSigns P.initOrder.toList) = cutW :: ws) : P.liftsFinal = false := by
  unfold Program.liftsFinal
  rw [headLifts_of P ws h, h]
  have e : ((cutW :: ws).head? == some "carried".toList) = false := by kernel_rfl
  simp only [e]
  simp

theorem make_of (P : Program) (ws : List (List Char)) (h : behindMainWord (wordsSigns P.initOrder.toList) = cutW :: ws) : P.make = some .cut := by
  unfold Program.make
  rw [h]
  have e1 : (cutW == "gc".toList) = false := by kernel_rfl
  have e2 : (cutW == "spec".toList) = false := by kernel_rfl
  have e3 : (cutW == "cut".toList) = true := by kernel_rfl
  simp only [e1, e2, e3]
  simp

theorem mayEnter_of (P : Program) (ws : List (List Char)) (h : behindMainWord (wordsSigns P.initOrder.toList) = cutW :: ws) (h1 : P.laysLater = false) (h2 : P.bearsReflect = false) (h3 : P.doorFits [] = true) : P.mayEnter = true := by
  unfold Program.mayEnter
  rw [h]
  have e3 : ((cutW :: ws).head? == some "cut".toList) = true := by kernel_rfl
  simp only [strip, h1, h2, h3, e3]
  simp

theorem lays : Try.prog.laysLater = false := by kernel_rfl
theorem reflects : Try.prog.bearsReflect = false := by kernel_rfl
theorem door : Try.prog.doorFits [] = true := by kernel_rfl

theorem mayEnter : Try.prog.mayEnter = true := by
  obtain ⟨ws, h⟩ := head_words
  exact mayEnter_of Try.prog ws h lays reflects door
theorem liftsFinal : Try.prog.liftsFinal = false := by
  obtain ⟨ws, h⟩ := head_words
  exact liftsFinal_of Try.prog ws h
theorem make : Try.prog.make = some .cut := by
  obtain ⟨ws, h⟩ := head_words
  exact make_of Try.prog ws h

end Go.Proofs.Qxb6600168a.Head
