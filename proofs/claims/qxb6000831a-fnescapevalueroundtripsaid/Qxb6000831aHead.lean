/-
  The head's words: what 'initOrder' spells, once, so that the three facts that read it need not spell it each anew (in one piece the kernel outgrows the memory lid).
-/
import Derived.Test.Qxb6000831aRows
import Derived.JoinedOf
import Derived.KernelRfl
namespace Go.Proofs.Qxb6000831a.Head
open Go

/-- The signs of the head. -/
def signs : List Char := ([
  104, 97, 114, 110, 101, 115, 115, 32, 52, 50, 57, 100, 51, 102, 52, 55, 54, 56, 53, 101, 99, 98, 97, 102, 55, 102, 55, 102, 99, 57, 98, 55, 51, 56, 101, 51, 101, 57, 54, 57,
  53, 56, 102, 57, 57, 49, 97, 48, 100, 102, 55, 48, 97, 99, 101, 97, 97, 57, 49, 48, 55, 52, 48, 56, 101, 50, 49, 102, 98, 101, 53, 57, 32, 99, 117, 116, 32, 97, 116, 32,
  101, 120, 97, 109, 112, 108, 101, 46, 99, 111, 109, 47, 116, 114, 101, 101, 116, 121, 47, 116, 114, 101, 101, 116, 121, 47, 122, 122, 108, 97, 119, 115, 95, 105, 110, 116, 101, 114, 110, 97,
  108, 95, 116, 114, 101, 101, 95, 98, 49, 46, 70, 110, 75, 101, 114, 98, 101, 114, 111, 115, 78, 97, 109, 101, 77, 97, 116, 99, 104, 101, 115, 77, 111, 100, 101, 108, 32, 101, 120, 97,
  109, 112, 108, 101, 46, 99, 111, 109, 47, 116, 114, 101, 101, 116, 121, 47, 116, 114, 101, 101, 116, 121, 47, 122, 122, 108, 97, 119, 115, 95, 105, 110, 116, 101, 114, 110, 97, 108, 95, 116,
  114, 101, 101, 95, 98, 49, 46, 70, 110, 75, 101, 114, 98, 101, 114, 111, 115, 78, 97, 109, 101, 73, 110, 115, 101, 114, 116, 75, 101, 101, 112, 115, 86, 101, 114, 100, 105, 99, 116, 32,
  101, 120, 97, 109, 112, 108, 101, 46, 99, 111, 109, 47, 116, 114, 101, 101, 116, 121, 47, 116, 114, 101, 101, 116, 121, 47, 122, 122, 108, 97, 119, 115, 95, 105, 110, 116, 101, 114, 110, 97,
  108, 95, 116, 114, 101, 101, 95, 98, 49, 46, 70, 110, 69, 115, 99, 97, 112, 101, 86, 97, 108, 117, 101, 82, 111, 117, 110, 100, 84, 114, 105, 112, 32, 101, 120, 97, 109, 112, 108, 101,
  46, 99, 111, 109, 47, 116, 114, 101, 101, 116, 121, 47, 116, 114, 101, 101, 116, 121, 47, 122, 122, 108, 97, 119, 115, 95, 105, 110, 116, 101, 114, 110, 97, 108, 95, 116, 114, 101, 101, 95,
  98, 49, 46, 70, 110, 69, 115, 99, 97, 112, 101, 86, 97, 108, 117, 101, 83, 97, 102, 101, 65, 110, 100, 77, 105, 110, 105, 109, 97, 108, 32, 101, 120, 97, 109, 112, 108, 101, 46, 99,
  111, 109, 47, 116, 114, 101, 101, 116, 121, 47, 116, 114, 101, 101, 116, 121, 47, 122, 122, 108, 97, 119, 115, 95, 105, 110, 116, 101, 114, 110, 97, 108, 95, 116, 114, 101, 101, 95, 98, 49,
  46, 70, 110, 76, 97, 112, 115, 101, 83, 116, 97, 121, 115, 76, 97, 112, 115, 101, 100, 32, 101, 120, 97, 109, 112, 108, 101, 46, 99, 111, 109, 47, 116, 114, 101, 101, 116, 121, 47, 116,
  114, 101, 101, 116, 121, 47, 122, 122, 108, 97, 119, 115, 95, 105, 110, 116, 101, 114, 110, 97, 108, 95, 116, 114, 101, 101, 95, 98, 49, 46, 70, 110, 76, 97, 112, 115, 101, 67, 111, 110,
  116, 97, 105, 110, 101, 114, 69, 109, 112, 116, 105, 101, 100, 65, 102, 116, 101, 114, 83, 99, 114, 105, 112, 116] : List Nat).map Char.ofNat

theorem init_eq : Try.prog.initOrder = String.ofList signs := by kernel_rfl
theorem toList_eq : Try.prog.initOrder.toList = signs := by rw [init_eq, String.toList_ofList]
theorem words_eq : ∃ ws, behindMainWord (wordsSigns signs) = [Char.ofNat 99, Char.ofNat 117, Char.ofNat 116] :: ws := ⟨(behindMainWord (wordsSigns signs)).tail, by kernel_rfl⟩

theorem head_words : ∃ ws, behindMainWord (wordsSigns Try.prog.initOrder.toList) = [Char.ofNat 99, Char.ofNat 117, Char.ofNat 116] :: ws := by rw [toList_eq]; exact words_eq

/-- "cut", as signs. -/
def cutW : List Char := [Char.ofNat 99, Char.ofNat 117, Char.ofNat 116]

theorem strip (ws : List (List Char)) : stripLifts liftWords (cutW :: ws) = ([], cutW :: ws) := by kernel_rfl

theorem headLifts_of (P : Program) (ws : List (List Char)) (h : behindMainWord (wordsSigns P.initOrder.toList) = cutW :: ws) : P.headLifts = [] := by
  unfold Program.headLifts
  rw [h, strip]
  simp

theorem liftsFinal_of (P : Program) (ws : List (List Char)) (h : behindMainWord (wordsSigns P.initOrder.toList) = cutW :: ws) : P.liftsFinal = false := by
  unfold Program.liftsFinal
  rw [headLifts_of P ws h, h]
  have e : ((cutW :: ws).head? == some "carried".toList) = false := by kernel_rfl
  simp only [e]
  simp

theorem make_of (P : Program) (ws : List (List Char)) (h : behindMainWord (wordsSigns P.initOrder.toList) = cutW :: ws) : P.make = some .cut := by
  unfold Program.make
  rw [h]
  have e1 : (cutW == "gc".toList) = false := by kernel_rfl
  have e2 : (cutW == "spec".toList) = false := by kernel_rfl
  have e3 : (cutW == "cut".toList) = true := by kernel_rfl
  simp only [e1, e2, e3]
  simp

theorem mayEnter_of (P : Program) (ws : List (List Char)) (h : behindMainWord (wordsSigns P.initOrder.toList) = cutW :: ws) (h1 : P.laysLater = false) (h2 : P.bearsReflect = false) (h3 : P.doorFits [] = true) : P.mayEnter = true := by
  unfold Program.mayEnter
  rw [h]
  have e3 : ((cutW :: ws).head? == some "cut".toList) = true := by kernel_rfl
  simp only [strip, h1, h2, h3, e3]
  simp

theorem lays : Try.prog.laysLater = false := by kernel_rfl
theorem reflects : Try.prog.bearsReflect = false := by kernel_rfl
theorem door : Try.prog.doorFits [] = true := by kernel_rfl

theorem mayEnter : Try.prog.mayEnter = true := by
  obtain ⟨ws, h⟩ := head_words
  exact mayEnter_of Try.prog ws h lays reflects door
theorem liftsFinal : Try.prog.liftsFinal = false := by
  obtain ⟨ws, h⟩ := head_words
  exact liftsFinal_of Try.prog ws h
theorem make : Try.prog.make = some .cut := by
  obtain ⟨ws, h⟩ := head_words
  exact make_of Try.prog ws h

end Go.Proofs.Qxb6000831a.Head
