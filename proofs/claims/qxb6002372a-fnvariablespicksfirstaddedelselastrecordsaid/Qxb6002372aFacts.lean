/-
  THE CLOSED FACTS OF A ROW, CUT SMALL. The fact 'mayEnter' reads the words of the translation's head, a string of some 900 signs: asked at once it outgrows the memory's lid. Here the head is laid as a list of numbers first.
-/
import Derived.Test.Qxb6002372aRows
import Derived.WalkKit
import Derived.ProofKit
namespace Go.Proofs.Qxb6002372a

theorem and_mk {a b : Bool} (ha : a = true) (hb : b = true) : (a && b) = true := by rw [ha, hb]; rfl

def headNums : List Nat := [104, 97, 114, 110, 101, 115, 115, 32, 50, 50, 101, 51, 56, 48, 54, 53, 55, 57, 100, 48, 97, 100, 55, 97, 52, 55, 51, 50, 56, 101, 53, 54, 56, 48, 97, 102, 102, 100, 54, 55, 49, 55, 54, 50, 55, 57, 99, 102, 56, 99, 50, 100, 50, 49, 102, 100, 52, 51, 53, 55, 53, 101, 53, 49, 54, 51, 102, 53, 55, 98, 51, 57, 32, 99, 117, 116, 32, 97, 116, 32, 101, 120, 97, 109, 112, 108, 101, 46, 99, 111, 109, 47, 102, 105, 114, 109, 114, 117, 100, 100, 101, 114, 47, 102, 105, 114, 109, 114, 117, 100, 100, 101, 114, 47, 122, 122, 108, 97, 119, 115, 95, 98, 111, 111, 116, 102, 105, 108, 101, 95, 103, 49, 46, 70, 110, 83, 99, 114, 105, 112, 116, 75, 101, 101, 112, 115, 76, 105, 110, 101, 67, 111, 117, 110, 116, 65, 110, 100, 78, 101, 118, 101, 114, 83, 112, 108, 105, 116, 115, 67, 82, 76, 70, 32, 101, 120, 97, 109, 112, 108, 101, 46, 99, 111, 109, 47, 102, 105, 114, 109, 114, 117, 100, 100, 101, 114, 47, 102, 105, 114, 109, 114, 117, 100, 100, 101, 114, 47, 122, 122, 108, 97, 119, 115, 95, 98, 111, 111, 116, 102, 105, 108, 101, 95, 103, 49, 46, 70, 110, 76, 105, 110, 101, 69, 110, 100, 105, 110, 103, 66, 97, 99, 107, 115, 108, 97, 115, 104, 83, 112, 101, 99, 32, 101, 120, 97, 109, 112, 108, 101, 46, 99, 111, 109, 47, 102, 105, 114, 109, 114, 117, 100, 100, 101, 114, 47, 102, 105, 114, 109, 114, 117, 100, 100, 101, 114, 47, 122, 122, 108, 97, 119, 115, 95, 101, 102, 105, 95, 103, 49, 46, 70, 110, 83, 112, 108, 105, 116, 79, 117, 116, 115, 105, 100, 101, 74, 111, 105, 110, 115, 66, 97, 99, 107, 73, 110, 116, 111, 87, 104, 111, 108, 101, 80, 97, 114, 116, 115, 32, 101, 120, 97, 109, 112, 108, 101, 46, 99, 111, 109, 47, 102, 105, 114, 109, 114, 117, 100, 100, 101, 114, 47, 102, 105, 114, 109, 114, 117, 100, 100, 101, 114, 47, 122, 122, 108, 97, 119, 115, 95, 101, 102, 105, 95, 103, 49, 46, 70, 110, 83, 112, 108, 105, 116, 79, 117, 116, 115, 105, 100, 101, 73, 115, 80, 108, 97, 105, 110, 83, 112, 108, 105, 116, 87, 105, 116, 104, 111, 117, 116, 80, 97, 114, 101, 110, 116, 104, 101, 115, 101, 115, 32, 101, 120, 97, 109, 112, 108, 101, 46, 99, 111, 109, 47, 102, 105, 114, 109, 114, 117, 100, 100, 101, 114, 47, 102, 105, 114, 109, 114, 117, 100, 100, 101, 114, 47, 122, 122, 108, 97, 119, 115, 95, 101, 102, 105, 95, 103, 49, 46, 70, 110, 78, 111, 100, 101, 78, 97, 109, 101, 73, 115, 84, 104, 101, 73, 100, 101, 110, 116, 105, 102, 105, 101, 114, 66, 101, 102, 111, 114, 101, 84, 104, 101, 80, 97, 114, 101, 110, 116, 104, 101, 115, 105, 115, 32, 101, 120, 97, 109, 112, 108, 101, 46, 99, 111, 109, 47, 102, 105, 114, 109, 114, 117, 100, 100, 101, 114, 47, 102, 105, 114, 109, 114, 117, 100, 100, 101, 114, 47, 122, 122, 108, 97, 119, 115, 95, 101, 102, 105, 95, 103, 49, 46, 70, 110, 85, 82, 73, 65, 114, 103, 115, 73, 115, 76, 97, 116, 105, 110, 49, 32, 101, 120, 97, 109, 112, 108, 101, 46, 99, 111, 109, 47, 102, 105, 114, 109, 114, 117, 100, 100, 101, 114, 47, 102, 105, 114, 109, 114, 117, 100, 100, 101, 114, 47, 122, 122, 108, 97, 119, 115, 95, 118, 97, 114, 115, 116, 111, 114, 101, 95, 103, 49, 46, 70, 110, 82, 101, 99, 111, 114, 100, 83, 105, 122, 101, 67, 111, 117, 110, 116, 115, 85, 84, 70, 49, 54, 85, 110, 105, 116, 115, 32, 101, 120, 97, 109, 112, 108, 101, 46, 99, 111, 109, 47, 102, 105, 114, 109, 114, 117, 100, 100, 101, 114, 47, 102, 105, 114, 109, 114, 117, 100, 100, 101, 114, 47, 122, 122, 108, 97, 119, 115, 95, 118, 97, 114, 115, 116, 111, 114, 101, 95, 103, 49, 46, 70, 110, 86, 97, 114, 105, 97, 98, 108, 101, 115, 80, 105, 99, 107, 115, 70, 105, 114, 115, 116, 65, 100, 100, 101, 100, 69, 108, 115, 101, 76, 97, 115, 116, 82, 101, 99, 111, 114, 100, 32, 101, 120, 97, 109, 112, 108, 101, 46, 99, 111, 109, 47, 102, 105, 114, 109, 114, 117, 100, 100, 101, 114, 47, 102, 105, 114, 109, 114, 117, 100, 100, 101, 114, 47, 122, 122, 108, 97, 119, 115, 95, 118, 97, 114, 115, 116, 111, 114, 101, 95, 103, 49, 46, 70, 110, 84, 97, 107, 101, 82, 101, 99, 111, 114, 100, 115, 82, 101, 109, 111, 118, 101, 115, 69, 120, 97, 99, 116, 108, 121, 79, 110, 101, 86, 97, 114, 105, 97, 98, 108, 101]

theorem head_str : Try.prog.initOrder = String.ofList (headNums.map Char.ofNat) := by kernel_rfl
theorem head_words : (behindMainWord (wordsSigns (headNums.map Char.ofNat))).head? = some "cut".toList := by kernel_rfl
theorem head_cut : ∃ rest, behindMainWord (wordsSigns Try.prog.initOrder.toList) = "cut".toList :: rest := by
  rw [head_str, String.toList_ofList]
  cases h : behindMainWord (wordsSigns (headNums.map Char.ofNat)) with
  | nil => have := head_words; rw [h] at this; cases this
  | cons c rest =>
    have e := head_words
    rw [h] at e
    exact ⟨rest, by rw [Option.some.inj e]⟩
theorem no_later : Try.prog.laysLater = false := by kernel_rfl
theorem no_refl : Try.prog.bearsReflect = false := by kernel_rfl
theorem doors_fit : Try.prog.doorFits [] = true := by kernel_rfl
theorem strip (rest : List (List Char)) : stripLifts liftWords ("cut".toList :: rest) = ([], "cut".toList :: rest) := by kernel_rfl
theorem mayEnter_of (P : Program) (rest : List (List Char)) (h : behindMainWord (wordsSigns P.initOrder.toList) = "cut".toList :: rest) (h1 : P.laysLater = false) (h2 : P.bearsReflect = false) (h3 : P.doorFits [] = true) : P.mayEnter = true := by
  unfold Program.mayEnter
  rw [h]
  simp only [strip, h1, h2, h3]
  simp
theorem may_enter : Try.prog.mayEnter = true := by
  obtain ⟨rest, h⟩ := head_cut
  exact mayEnter_of Try.prog rest h no_later no_refl doors_fit

theorem headLifts_of (P : Program) (rest : List (List Char)) (h : behindMainWord (wordsSigns P.initOrder.toList) = "cut".toList :: rest) : P.headLifts = [] := by
  unfold Program.headLifts
  rw [h, strip]
  simp
theorem liftsFinal_of (P : Program) (rest : List (List Char)) (h : behindMainWord (wordsSigns P.initOrder.toList) = "cut".toList :: rest) : P.liftsFinal = false := by
  unfold Program.liftsFinal
  rw [headLifts_of P rest h, h]
  simp
theorem make_of (P : Program) (rest : List (List Char)) (h : behindMainWord (wordsSigns P.initOrder.toList) = "cut".toList :: rest) : P.make = some .cut := by
  unfold Program.make
  rw [h]
  simp
theorem lifts_final : Try.prog.liftsFinal = false := by
  obtain ⟨rest, h⟩ := head_cut
  exact liftsFinal_of Try.prog rest h
theorem make_cut : Try.prog.make = some .cut := by
  obtain ⟨rest, h⟩ := head_cut
  exact make_of Try.prog rest h

end Go.Proofs.Qxb6002372a
