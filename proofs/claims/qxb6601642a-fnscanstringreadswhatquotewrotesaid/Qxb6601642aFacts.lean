/-
  THE CLOSED FACTS OF A ROW, CUT SMALL. The fact 'mayEnter' reads the words of the translation's head, a string of some 900 signs: asked at once it outgrows the memory's lid. Here the head is laid as a list of numbers first.
-/
import Derived.Test.Qxb6601642aRows
import Derived.WalkKit
import Derived.ProofKit
namespace Go.Proofs.Qxb6601642a

theorem and_mk {a b : Bool} (ha : a = true) (hb : b = true) : (a && b) = true := by rw [ha, hb]; rfl

def headNums : List Nat := [104, 97, 114, 110, 101, 115, 115, 32, 49, 99, 52, 57, 52, 54, 57, 53, 98, 56, 97, 55, 101, 50, 50, 102, 52, 101, 54, 56, 48, 50, 55, 51, 53, 48, 50, 99, 56, 53, 97, 48, 53, 99, 55, 57, 101, 50, 53, 97, 101, 57, 52, 100, 56, 98, 52, 56, 53, 100, 52, 51, 101, 101, 101, 97, 48, 48, 98, 100, 56, 51, 56, 102, 32, 99, 117, 116, 32, 97, 116, 32, 101, 120, 97, 109, 112, 108, 101, 46, 99, 111, 109, 47, 115, 105, 103, 104, 116, 108, 105, 110, 101, 47, 115, 105, 103, 104, 116, 108, 105, 110, 101, 47, 122, 122, 108, 97, 119, 115, 95, 105, 110, 116, 101, 114, 110, 97, 108, 95, 112, 97, 114, 115, 101, 114, 95, 98, 49, 46, 70, 110, 83, 107, 105, 112, 83, 112, 97, 99, 101, 65, 110, 100, 67, 111, 109, 109, 101, 110, 116, 115, 77, 97, 116, 99, 104, 101, 115, 65, 117, 116, 111, 109, 97, 116, 111, 110, 32, 101, 120, 97, 109, 112, 108, 101, 46, 99, 111, 109, 47, 115, 105, 103, 104, 116, 108, 105, 110, 101, 47, 115, 105, 103, 104, 116, 108, 105, 110, 101, 47, 122, 122, 108, 97, 119, 115, 95, 105, 110, 116, 101, 114, 110, 97, 108, 95, 112, 97, 114, 115, 101, 114, 95, 98, 49, 46, 70, 110, 83, 107, 105, 112, 83, 112, 97, 99, 101, 65, 110, 100, 67, 111, 109, 109, 101, 110, 116, 115, 73, 100, 101, 109, 112, 111, 116, 101, 110, 116, 32, 101, 120, 97, 109, 112, 108, 101, 46, 99, 111, 109, 47, 115, 105, 103, 104, 116, 108, 105, 110, 101, 47, 115, 105, 103, 104, 116, 108, 105, 110, 101, 47, 122, 122, 108, 97, 119, 115, 95, 105, 110, 116, 101, 114, 110, 97, 108, 95, 112, 97, 114, 115, 101, 114, 95, 98, 49, 46, 70, 110, 83, 107, 105, 112, 83, 112, 97, 99, 101, 65, 110, 100, 67, 111, 109, 109, 101, 110, 116, 115, 83, 104, 105, 102, 116, 73, 110, 118, 97, 114, 105, 97, 110, 116, 32, 101, 120, 97, 109, 112, 108, 101, 46, 99, 111, 109, 47, 115, 105, 103, 104, 116, 108, 105, 110, 101, 47, 115, 105, 103, 104, 116, 108, 105, 110, 101, 47, 122, 122, 108, 97, 119, 115, 95, 105, 110, 116, 101, 114, 110, 97, 108, 95, 112, 97, 114, 115, 101, 114, 95, 98, 49, 46, 70, 110, 83, 99, 97, 110, 83, 116, 114, 105, 110, 103, 82, 101, 97, 100, 115, 87, 104, 97, 116, 81, 117, 111, 116, 101, 87, 114, 111, 116, 101, 32, 101, 120, 97, 109, 112, 108, 101, 46, 99, 111, 109, 47, 115, 105, 103, 104, 116, 108, 105, 110, 101, 47, 115, 105, 103, 104, 116, 108, 105, 110, 101, 47, 122, 122, 108, 97, 119, 115, 95, 105, 110, 116, 101, 114, 110, 97, 108, 95, 112, 97, 114, 115, 101, 114, 95, 98, 49, 46, 70, 110, 83, 99, 97, 110, 83, 116, 114, 105, 110, 103, 73, 103, 110, 111, 114, 101, 115, 87, 104, 97, 116, 70, 111, 108, 108, 111, 119, 115]

theorem head_str : Try.prog.initOrder = String.ofList (headNums.map Char.ofNat) := by kernel_rfl
theorem head_words : (behindMainWord (wordsSigns (headNums.map Char.ofNat))).head? = some "cut".toList := by kernel_rfl
theorem head_cut : ∃ rest, behindMainWord (wordsSigns Try.prog.initOrder.toList) = "cut".toList :: rest := by
  rw [head_str, String.toList_ofList]
  cases h : behindMainWord (wordsSigns (headNums.map Char.ofNat)) with
  | nil => have := head_words; rw [h] at this; cases this
  | cons c rest =>
    have e := head_words
    rw [h] at e
    exact ⟨rest, by rw [Option.some.inj e]⟩
theorem no_later : Try.prog.laysLater = false := by kernel_rfl
theorem no_refl : Try.prog.bearsReflect = false := by kernel_rfl
theorem doors_fit : Try.prog.doorFits [] = true := by kernel_rfl
theorem strip (rest : List (List Char)) : stripLifts liftWords ("cut".toList :: rest) = ([], "cut".toList :: rest) := by kernel_rfl
theorem mayEnter_of (P : Program) (rest : List (List Char)) (h : behindMainWord (wordsSigns P.initOrder.toList) = "cut".toList :: rest) (h1 : P.laysLater = false) (h2 : P.bearsReflect = false) (h3 : P.doorFits [] = true) : P.mayEnter = true := by
  unfold Program.mayEnter
  rw [h]
  simp only [strip, h1, h2, h3]
  simp
theorem may_enter : Try.prog.mayEnter = true := by
  obtain ⟨rest, h⟩ := head_cut
  exact mayEnter_of Try.prog rest h no_later no_refl doors_fit

theorem headLifts_of (P : Program) (rest : List (List Char)) (h : behindMainWord (wordsSigns P.initOrder.toList) = "cut".toList :: rest) : P.headLifts = [] := by
  unfold Program.headLifts
  rw [h, strip]
  simp
theorem liftsFinal_of (P : Program) (rest : List (List Char)) (h : behindMainWord (wordsSigns P.initOrder.toList) = "cut".toList :: rest) : P.liftsFinal = false := by
  unfold Program.liftsFinal
  rw [headLifts_of P rest h, h]
  simp
theorem make_of (P : Program) (rest : List (List Char)) (h : behindMainWord (wordsSigns P.initOrder.toList) = "cut".toList :: rest) : P.make = some .cut := by
  unfold Program.make
  rw [h]
  simp
theorem lifts_final : Try.prog.liftsFinal = false := by
  obtain ⟨rest, h⟩ := head_cut
  exact liftsFinal_of Try.prog rest h
theorem make_cut : Try.prog.make = some .cut := by
  obtain ⟨rest, h⟩ := head_cut
  exact make_of Try.prog rest h

end Go.Proofs.Qxb6601642a
