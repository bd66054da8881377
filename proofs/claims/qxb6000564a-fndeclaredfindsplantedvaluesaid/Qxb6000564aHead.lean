/-
  The head's words: what 'initOrder' spells, once, so that the three facts that read it need not spell it each anew (in one piece the kernel outgrows the memory lid).
-/
import Derived.Test.Qxb6000564aRows
import Derived.JoinedOf
import Derived.KernelRfl
namespace Go.Proofs.Qxb6000564a.Head
open Go

/-- The signs of the head. -/
def signs : List Char := ([
  104, 97, 114, 110, 101, 115, 115, 32, 48, 99, 52, 57, 49, 55, 55, 53, 57, 48, 50, 53, 101, 57, 56, 51, 100, 57, 101, 52, 97, 99, 49, 50, 52, 49, 57, 100, 97, 55, 56, 54,
  49, 99, 101, 50, 99, 100, 52, 52, 100, 53, 99, 100, 52, 98, 101, 102, 102, 51, 54, 50, 102, 100, 53, 50, 51, 50, 53, 97, 100, 56, 101, 57, 32, 99, 117, 116, 32, 97, 116, 32,
  101, 120, 97, 109, 112, 108, 101, 46, 99, 111, 109, 47, 98, 114, 97, 105, 100, 108, 105, 110, 101, 47, 98, 114, 97, 105, 100, 108, 105, 110, 101, 47, 122, 122, 108, 97, 119, 115, 95, 105,
  110, 116, 101, 114, 110, 97, 108, 95, 120, 109, 108, 115, 99, 97, 110, 95, 98, 49, 46, 70, 110, 68, 105, 103, 105, 116, 77, 97, 116, 99, 104, 101, 115, 84, 97, 98, 108, 101, 32, 101,
  120, 97, 109, 112, 108, 101, 46, 99, 111, 109, 47, 98, 114, 97, 105, 100, 108, 105, 110, 101, 47, 98, 114, 97, 105, 100, 108, 105, 110, 101, 47, 122, 122, 108, 97, 119, 115, 95, 105, 110,
  116, 101, 114, 110, 97, 108, 95, 120, 109, 108, 115, 99, 97, 110, 95, 98, 49, 46, 70, 110, 68, 105, 103, 105, 116, 72, 101, 120, 82, 111, 117, 110, 100, 84, 114, 105, 112, 32, 101, 120,
  97, 109, 112, 108, 101, 46, 99, 111, 109, 47, 98, 114, 97, 105, 100, 108, 105, 110, 101, 47, 98, 114, 97, 105, 100, 108, 105, 110, 101, 47, 122, 122, 108, 97, 119, 115, 95, 105, 110, 116,
  101, 114, 110, 97, 108, 95, 120, 109, 108, 115, 99, 97, 110, 95, 98, 49, 46, 70, 110, 68, 105, 103, 105, 116, 66, 97, 115, 101, 49, 54, 69, 120, 116, 101, 110, 100, 115, 79, 116, 104,
  101, 114, 115, 32, 101, 120, 97, 109, 112, 108, 101, 46, 99, 111, 109, 47, 98, 114, 97, 105, 100, 108, 105, 110, 101, 47, 98, 114, 97, 105, 100, 108, 105, 110, 101, 47, 122, 122, 108, 97,
  119, 115, 95, 105, 110, 116, 101, 114, 110, 97, 108, 95, 120, 109, 108, 115, 99, 97, 110, 95, 98, 49, 46, 70, 110, 76, 111, 99, 97, 108, 78, 97, 109, 101, 83, 112, 108, 105, 116, 115,
  80, 114, 101, 102, 105, 120, 101, 100, 78, 97, 109, 101, 32, 101, 120, 97, 109, 112, 108, 101, 46, 99, 111, 109, 47, 98, 114, 97, 105, 100, 108, 105, 110, 101, 47, 98, 114, 97, 105, 100,
  108, 105, 110, 101, 47, 122, 122, 108, 97, 119, 115, 95, 105, 110, 116, 101, 114, 110, 97, 108, 95, 120, 109, 108, 115, 99, 97, 110, 95, 98, 49, 46, 70, 110, 76, 111, 99, 97, 108, 78,
  97, 109, 101, 67, 117, 116, 115, 65, 116, 70, 105, 114, 115, 116, 73, 110, 110, 101, 114, 67, 111, 108, 111, 110, 32, 101, 120, 97, 109, 112, 108, 101, 46, 99, 111, 109, 47, 98, 114, 97,
  105, 100, 108, 105, 110, 101, 47, 98, 114, 97, 105, 100, 108, 105, 110, 101, 47, 122, 122, 108, 97, 119, 115, 95, 105, 110, 116, 101, 114, 110, 97, 108, 95, 120, 109, 108, 115, 99, 97, 110,
  95, 98, 49, 46, 70, 110, 68, 101, 99, 108, 97, 114, 101, 100, 70, 105, 110, 100, 115, 80, 108, 97, 110, 116, 101, 100, 86, 97, 108, 117, 101, 32, 101, 120, 97, 109, 112, 108, 101, 46,
  99, 111, 109, 47, 98, 114, 97, 105, 100, 108, 105, 110, 101, 47, 98, 114, 97, 105, 100, 108, 105, 110, 101, 47, 122, 122, 108, 97, 119, 115, 95, 105, 110, 116, 101, 114, 110, 97, 108, 95,
  120, 109, 108, 115, 99, 97, 110, 95, 98, 49, 46, 70, 110, 68, 101, 99, 108, 97, 114, 101, 100, 69, 109, 112, 116, 121, 87, 105, 116, 104, 111, 117, 116, 75, 101, 121, 79, 114, 81, 117,
  111, 116, 101, 32, 101, 120, 97, 109, 112, 108, 101, 46, 99, 111, 109, 47, 98, 114, 97, 105, 100, 108, 105, 110, 101, 47, 98, 114, 97, 105, 100, 108, 105, 110, 101, 47, 122, 122, 108, 97,
  119, 115, 95, 105, 110, 116, 101, 114, 110, 97, 108, 95, 120, 109, 108, 115, 99, 97, 110, 95, 98, 49, 46, 70, 110, 68, 101, 99, 108, 97, 114, 101, 100, 86, 97, 108, 117, 101, 83, 105,
  116, 115, 66, 101, 116, 119, 101, 101, 110, 81, 117, 111, 116, 101, 115, 65, 102, 116, 101, 114, 75, 101, 121] : List Nat).map Char.ofNat

theorem init_eq : Try.prog.initOrder = String.ofList signs := by kernel_rfl
theorem toList_eq : Try.prog.initOrder.toList = signs := by rw [init_eq, String.toList_ofList]
theorem words_eq : ∃ ws, behindMainWord (wordsSigns signs) = [Char.ofNat 99, Char.ofNat 117, Char.ofNat 116] :: ws := ⟨(behindMainWord (wordsSigns signs)).tail, by kernel_rfl⟩

theorem head_words : ∃ ws, behindMainWord (wordsSigns Try.prog.initOrder.toList) = [Char.ofNat 99, Char.ofNat 117, Char.ofNat 116] :: ws := by rw [toList_eq]; exact words_eq

/-- "cut", as signs. -/
def cutW : List Char := [Char.ofNat 99, Char.ofNat 117, Char.ofNat 116]

theorem strip (ws : List (List Char)) : stripLifts liftWords (cutW :: ws) = ([], cutW :: ws) := by kernel_rfl

theorem headLifts_of (P : Program) (ws : List (List Char)) (h : behindMainWord (wordsSigns P.initOrder.toList) = cutW :: ws) : P.headLifts = [] := by
  unfold Program.headLifts
  rw [h, strip]
  simp

theorem liftsFinal_of (P : Program) (ws : List (List Char)) (h : behindMainWord (wordsSigns P.initOrder.toList) = cutW :: ws) : P.liftsFinal = false := by
  unfold Program.liftsFinal
  rw [headLifts_of P ws h, h]
  have e : ((cutW :: ws).head? == some "carried".toList) = false := by kernel_rfl
  simp only [e]
  simp

theorem make_of (P : Program) (ws : List (List Char)) (h : behindMainWord (wordsSigns P.initOrder.toList) = cutW :: ws) : P.make = some .cut := by
  unfold Program.make
  rw [h]
  have e1 : (cutW == "gc".toList) = false := by kernel_rfl
  have e2 : (cutW == "spec".toList) = false := by kernel_rfl
  have e3 : (cutW == "cut".toList) = true := by kernel_rfl
  simp only [e1, e2, e3]
  simp

theorem mayEnter_of (P : Program) (ws : List (List Char)) (h : behindMainWord (wordsSigns P.initOrder.toList) = cutW :: ws) (h1 : P.laysLater = false) (h2 : P.bearsReflect = false) (h3 : P.doorFits [] = true) : P.mayEnter = true := by
  unfold Program.mayEnter
  rw [h]
  have e3 : ((cutW :: ws).head? == some "cut".toList) = true := by kernel_rfl
  simp only [strip, h1, h2, h3, e3]
  simp

theorem lays : Try.prog.laysLater = false := by kernel_rfl
theorem reflects : Try.prog.bearsReflect = false := by kernel_rfl
theorem door : Try.prog.doorFits [] = true := by kernel_rfl

theorem mayEnter : Try.prog.mayEnter = true := by
  obtain ⟨ws, h⟩ := head_words
  exact mayEnter_of Try.prog ws h lays reflects door
theorem liftsFinal : Try.prog.liftsFinal = false := by
  obtain ⟨ws, h⟩ := head_words
  exact liftsFinal_of Try.prog ws h
theorem make : Try.prog.make = some .cut := by
  obtain ⟨ws, h⟩ := head_words
  exact make_of Try.prog ws h

end Go.Proofs.Qxb6000564a.Head
