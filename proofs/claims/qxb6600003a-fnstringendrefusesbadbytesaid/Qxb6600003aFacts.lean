/-
  THE CLOSED FACTS OF A ROW, CUT SMALL. The fact 'mayEnter' reads the words of the translation's head, a string of some 900 signs: asked at once it outgrows the memory's lid. Here the head is laid as a list of numbers first.
-/
import Derived.Test.Qxb6600003aRows
import Derived.WalkKit
import Derived.ProofKit
namespace Go.Proofs.Qxb6600003a

theorem and_mk {a b : Bool} (ha : a = true) (hb : b = true) : (a && b) = true := by rw [ha, hb]; rfl

def headNums : List Nat := [104, 97, 114, 110, 101, 115, 115, 32, 48, 57, 51, 97, 49, 100, 102, 98, 49, 50, 57, 57, 101, 97, 101, 56, 52, 100, 52, 51, 57, 99, 99, 50, 53, 98, 53, 54, 56, 101, 48, 51, 48, 52, 54, 57, 98, 98, 100, 55, 102, 99, 48, 99, 100, 101, 56, 100, 50, 97, 57, 97, 97, 49, 56, 102, 52, 57, 101, 50, 100, 99, 50, 50, 32, 99, 117, 116, 32, 97, 116, 32, 101, 120, 97, 109, 112, 108, 101, 46, 99, 111, 109, 47, 111, 107, 114, 97, 106, 47, 111, 107, 114, 97, 106, 47, 122, 122, 108, 97, 119, 115, 95, 106, 115, 111, 110, 114, 101, 97, 100, 95, 98, 49, 46, 70, 110, 83, 116, 114, 105, 110, 103, 69, 110, 100, 65, 99, 99, 101, 112, 116, 115, 69, 115, 99, 97, 112, 101, 100, 84, 101, 120, 116, 32, 101, 120, 97, 109, 112, 108, 101, 46, 99, 111, 109, 47, 111, 107, 114, 97, 106, 47, 111, 107, 114, 97, 106, 47, 122, 122, 108, 97, 119, 115, 95, 106, 115, 111, 110, 114, 101, 97, 100, 95, 98, 49, 46, 70, 110, 83, 116, 114, 105, 110, 103, 69, 110, 100, 65, 99, 99, 101, 112, 116, 101, 100, 83, 104, 97, 112, 101, 32, 101, 120, 97, 109, 112, 108, 101, 46, 99, 111, 109, 47, 111, 107, 114, 97, 106, 47, 111, 107, 114, 97, 106, 47, 122, 122, 108, 97, 119, 115, 95, 106, 115, 111, 110, 114, 101, 97, 100, 95, 98, 49, 46, 70, 110, 83, 116, 114, 105, 110, 103, 69, 110, 100, 82, 101, 102, 117, 115, 101, 115, 66, 97, 100, 66, 121, 116, 101, 32, 101, 120, 97, 109, 112, 108, 101, 46, 99, 111, 109, 47, 111, 107, 114, 97, 106, 47, 111, 107, 114, 97, 106, 47, 122, 122, 108, 97, 119, 115, 95, 106, 115, 111, 110, 114, 101, 97, 100, 95, 98, 49, 46, 70, 110, 78, 117, 109, 98, 101, 114, 69, 110, 100, 65, 99, 99, 101, 112, 116, 115, 66, 117, 105, 108, 116, 78, 117, 109, 98, 101, 114, 32, 101, 120, 97, 109, 112, 108, 101, 46, 99, 111, 109, 47, 111, 107, 114, 97, 106, 47, 111, 107, 114, 97, 106, 47, 122, 122, 108, 97, 119, 115, 95, 106, 115, 111, 110, 114, 101, 97, 100, 95, 98, 49, 46, 70, 110, 78, 117, 109, 98, 101, 114, 69, 110, 100, 65, 99, 99, 101, 112, 116, 101, 100, 83, 104, 97, 112, 101, 32, 101, 120, 97, 109, 112, 108, 101, 46, 99, 111, 109, 47, 111, 107, 114, 97, 106, 47, 111, 107, 114, 97, 106, 47, 122, 122, 108, 97, 119, 115, 95, 106, 115, 111, 110, 114, 101, 97, 100, 95, 98, 49, 46, 70, 110, 78, 117, 109, 98, 101, 114, 69, 110, 100, 82, 101, 102, 117, 115, 101, 115, 69, 109, 112, 116, 121, 80, 97, 114, 116, 32, 101, 120, 97, 109, 112, 108, 101, 46, 99, 111, 109, 47, 111, 107, 114, 97, 106, 47, 111, 107, 114, 97, 106, 47, 122, 122, 108, 97, 119, 115, 95, 106, 115, 111, 110, 114, 101, 97, 100, 95, 98, 49, 46, 70, 110, 86, 97, 108, 117, 101, 69, 110, 100, 66, 111, 117, 110, 100, 115, 32, 101, 120, 97, 109, 112, 108, 101, 46, 99, 111, 109, 47, 111, 107, 114, 97, 106, 47, 111, 107, 114, 97, 106, 47, 122, 122, 108, 97, 119, 115, 95, 106, 115, 111, 110, 114, 101, 97, 100, 95, 98, 49, 46, 70, 110, 86, 97, 108, 117, 101, 69, 110, 100, 65, 103, 114, 101, 101, 115, 87, 105, 116, 104, 83, 116, 114, 105, 110, 103, 69, 110, 100, 32, 101, 120, 97, 109, 112, 108, 101, 46, 99, 111, 109, 47, 111, 107, 114, 97, 106, 47, 111, 107, 114, 97, 106, 47, 122, 122, 108, 97, 119, 115, 95, 106, 115, 111, 110, 114, 101, 97, 100, 95, 98, 49, 46, 70, 110, 86, 97, 108, 117, 101, 69, 110, 100, 65, 103, 114, 101, 101, 115, 87, 105, 116, 104, 78, 117, 109, 98, 101, 114, 69, 110, 100]

theorem head_str : Try.prog.initOrder = String.ofList (headNums.map Char.ofNat) := by kernel_rfl
theorem head_words : (behindMainWord (wordsSigns (headNums.map Char.ofNat))).head? = some "cut".toList := by kernel_rfl
theorem head_cut : ∃ rest, behindMainWord (wordsSigns Try.prog.initOrder.toList) = "cut".toList :: rest := by
  rw [head_str, String.toList_ofList]
  cases h : behindMainWord (wordsSigns (headNums.map Char.ofNat)) with
  | nil => have := head_words; rw [h] at this; cases this
  | cons c rest =>
    have e := head_words
    rw [h] at e
    exact ⟨rest, by rw [Option.some.inj e]⟩
theorem no_later : Try.prog.laysLater = false := by kernel_rfl
theorem no_refl : Try.prog.bearsReflect = false := by kernel_rfl
theorem doors_fit : Try.prog.doorFits [] = true := by kernel_rfl
theorem strip (rest : List (List Char)) : stripLifts liftWords ("cut".toList :: rest) = ([], "cut".toList :: rest) := by kernel_rfl
theorem mayEnter_of (P : Program) (rest : List (List Char)) (h : behindMainWord (wordsSigns P.initOrder.toList) = "cut".toList :: rest) (h1 : P.laysLater = false) (h2 : P.bearsReflect = false) (h3 : P.doorFits [] = true) : P.mayEnter = true := by
  unfold Program.mayEnter
  rw [h]
  simp only [strip, h1, h2, h3]
  simp
theorem may_enter : Try.prog.mayEnter = true := by
  obtain ⟨rest, h⟩ := head_cut
  exact mayEnter_of Try.prog rest h no_later no_refl doors_fit

theorem headLifts_of (P : Program) (rest : List (List Char)) (h : behindMainWord (wordsSigns P.initOrder.toList) = "cut".toList :: rest) : P.headLifts = [] := by
  unfold Program.headLifts
  rw [h, strip]
  simp
theorem liftsFinal_of (P : Program) (rest : List (List Char)) (h : behindMainWord (wordsSigns P.initOrder.toList) = "cut".toList :: rest) : P.liftsFinal = false := by
  unfold Program.liftsFinal
  rw [headLifts_of P rest h, h]
  simp
theorem make_of (P : Program) (rest : List (List Char)) (h : behindMainWord (wordsSigns P.initOrder.toList) = "cut".toList :: rest) : P.make = some .cut := by
  unfold Program.make
  rw [h]
  simp
theorem lifts_final : Try.prog.liftsFinal = false := by
  obtain ⟨rest, h⟩ := head_cut
  exact liftsFinal_of Try.prog rest h
theorem make_cut : Try.prog.make = some .cut := by
  obtain ⟨rest, h⟩ := head_cut
  exact make_of Try.prog rest h

end Go.Proofs.Qxb6600003a
