/-
  The cells of a variable, of a record, of a key; what a key reads as; how two arrays are told apart.
-/
import Derived.Test.Qxb6002372aVarKit
import Derived.DeepKeys5
import Derived.Maps.Keyed
import Derived.Laws.StructEq
namespace Go.Proofs.Qxb6002372a
open Go.RowKit

/-- A cell that holds a byte. -/
def U8 (v : Value) : Prop := ∃ z : Int, v = .int .u8 z ∧ (Lit.int .u8 z).wf = true
/-- The cells of a GUID. -/
def G16 (gs : List Value) : Prop := gs.length = 16 ∧ ∀ v ∈ gs, U8 v

/-- A GUID, as numbers; its cells. -/
def gcells (g : List Int) : List Value := g.map (Value.int .u8)
theorem gcells_inj {g h : List Int} (e : gcells g = gcells h) : g = h := by
  induction g generalizing h with
  | nil => cases h <;> simp_all [gcells]
  | cons a r ih =>
    cases h with
    | nil => simp [gcells] at e
    | cons b q =>
      simp only [gcells, List.map_cons, List.cons.injEq, Value.int.injEq, true_and] at e
      rw [e.1, ih e.2]

def varCells (s : ByteArray) (gs : List Value) (i : Nat) : List Value := .string s :: (gs ++ [.int .u32 i, .slice none 0 0])
def recCells (t : Int) (cs : List Value) : List Value := .int .i64 0 :: .int .i64 0 :: .int .u8 t :: cs
def keyCells (s : ByteArray) (gs : List Value) : List Value := .string s :: gs

theorem varCells_length {s : ByteArray} {gs : List Value} (h : gs.length = 16) (i : Nat) : (varCells s gs i).length = 19 := by simp [varCells, h]
theorem recCells_length {t : Int} {cs : List Value} (h : cs.length = 19) : (recCells t cs).length = 22 := by simp [recCells, h]
theorem keyCells_length {s : ByteArray} {gs : List Value} (h : gs.length = 16) : (keyCells s gs).length = 17 := by simp [keyCells, h]

theorem U8.one {v : Value} (h : U8 v) : v.oneCell' = true := by obtain ⟨z, rfl, _⟩ := h; rfl
theorem varCells_one {s : ByteArray} {gs : List Value} (h : G16 gs) (i : Nat) : ∀ v ∈ varCells s gs i, v.oneCell' = true := by
  intro v hv
  simp only [varCells, List.mem_cons, List.mem_append, List.not_mem_nil, or_false] at hv
  rcases hv with rfl | hv | rfl | rfl
  · rfl
  · exact (h.2 v hv).one
  · rfl
  · rfl
theorem recCells_one {t : Int} {cs : List Value} (h : ∀ v ∈ cs, v.oneCell' = true) : ∀ v ∈ recCells t cs, v.oneCell' = true := by
  intro v hv
  simp only [recCells, List.mem_cons] at hv
  rcases hv with rfl | rfl | rfl | hv
  · rfl
  · rfl
  · rfl
  · exact h v hv
theorem keyCells_one {s : ByteArray} {gs : List Value} (h : G16 gs) : ∀ v ∈ keyCells s gs, v.oneCell' = true := by
  intro v hv
  simp only [keyCells, List.mem_cons] at hv
  rcases hv with rfl | hv
  · rfl
  · exact (h.2 v hv).one

theorem six {gs : List Value} (h : gs.length = 16) : ∃ a0 a1 a2 a3 a4 a5 a6 a7 a8 a9 b0 b1 b2 b3 b4 b5, gs = [a0, a1, a2, a3, a4, a5, a6, a7, a8, a9, b0, b1, b2, b3, b4, b5] := by
  match gs, h with
  | [a0, a1, a2, a3, a4, a5, a6, a7, a8, a9, b0, b1, b2, b3, b4, b5], _ => exact ⟨_, _, _, _, _, _, _, _, _, _, _, _, _, _, _, _, rfl⟩

theorem size54 : (Try.prog.info? 54).map (·.size) = some 16 := by kernel_rfl
theorem size57 : (Try.prog.info? 57).map (·.size) = some 19 := by kernel_rfl
theorem size71 : (Try.prog.info? 71).map (·.size) = some 22 := by kernel_rfl
theorem size80 : (Try.prog.info? 80).map (·.size) = some 17 := by kernel_rfl
theorem size53 : (Try.prog.info? 53).map (·.size) = some 16 := by kernel_rfl

/-! ### What is built -/
theorem built57 (s : ByteArray) {gs : List Value} (h : gs.length = 16) (i : Nat) : Try.prog.built 57 [(0, .string s), (1, .agg gs.toArray), (2, .int .u32 i)] = some (varCells s gs i).toArray := by
  obtain ⟨a0, a1, a2, a3, a4, a5, a6, a7, a8, a9, b0, b1, b2, b3, b4, b5, rfl⟩ := six h
  kernel_rfl
theorem built71 (t : Int) {cs : List Value} (s : ByteArray) {gs : List Value} (h : gs.length = 16) (i : Nat) (hc : cs = varCells s gs i) : Try.prog.built 71 [(2, .int .u8 t), (3, .agg cs.toArray)] = some (recCells t cs).toArray := by
  subst hc
  obtain ⟨a0, a1, a2, a3, a4, a5, a6, a7, a8, a9, b0, b1, b2, b3, b4, b5, rfl⟩ := six h
  kernel_rfl
theorem built80 (s : ByteArray) {gs : List Value} (h : gs.length = 16) : Try.prog.built 80 [(0, .string s), (1, .agg gs.toArray)] = some (keyCells s gs).toArray := by
  obtain ⟨a0, a1, a2, a3, a4, a5, a6, a7, a8, a9, b0, b1, b2, b3, b4, b5, rfl⟩ := six h
  kernel_rfl

/-! ### Keys -/
theorem laidOutT : laidOutB Try.prog = true := by kernel_rfl
theorem wide54 : (match Try.prog.underlying 54 with | some (.array _ _) | some (.struct _) => true | _ => false) = true := by kernel_rfl
theorem wide80 : (match Try.prog.underlying 80 with | some (.array _ _) | some (.struct _) => true | _ => false) = true := by kernel_rfl
theorem keyAt54 : Try.prog.keyTypeAt 3 54 = true := by kernel_rfl
theorem keyAt80 : Try.prog.keyTypeAt 4 80 = true := by kernel_rfl
theorem keyType54 : Try.prog.keyType 54 = true := by kernel_rfl
theorem keyType80 : Try.prog.keyType 80 = true := by kernel_rfl
theorem row54 : (54 : TypeId) < Try.prog.types.size := of_decide_eq_true (by kernel_rfl)
theorem row80 : (80 : TypeId) < Try.prog.types.size := of_decide_eq_true (by kernel_rfl)
set_option maxRecDepth 100000 in
theorem law54 : WideMaps.KeyLaw Try.prog 54 := deep_law_laid laidOutT (m := 3) (by omega) row54 keyAt54 wide54
set_option maxRecDepth 100000 in
theorem law80 : WideMaps.KeyLaw Try.prog 80 := deep_law_laid laidOutT (m := 4) (by omega) row80 keyAt80 wide80
theorem keyed80 : Maps.Keyed Try.prog 80 := Maps.Keyed.of_law law80
theorem cells5 : Try.prog.cellsOf 5 = 1 := by kernel_rfl
theorem cells54 : Try.prog.cellsOf 54 = 16 := by kernel_rfl
theorem cells80 : Try.prog.cellsOf 80 = 17 := by kernel_rfl
theorem cells9 : Try.prog.cellsOf 9 = 1 := by kernel_rfl
theorem depthT : ∃ d, Try.prog.types.size + 1 = d + 4 := ⟨Try.prog.types.size - 3, by have h : 54 < Try.prog.types.size := row54; omega⟩

theorem mapM_all {α β : Type} {f : α → Option β} : ∀ (l : List α), (∀ x ∈ l, ∃ y, f x = some y) → ∃ ys, l.mapM f = some ys
  | [], _ => ⟨[], rfl⟩
  | x :: r, h => by
    obtain ⟨y, hy⟩ := h x (by simp)
    obtain ⟨ys, hys⟩ := mapM_all r (fun z hz => h z (by simp [hz]))
    exact ⟨y :: ys, by simp [List.mapM_cons, hy, hys]⟩

theorem lits54 {gs : List Value} (h : G16 gs) (d : Nat) : ∃ l, Try.prog.keyLits (d + 2) 54 gs = some l := by
  obtain ⟨ys, hys⟩ := mapM_all (f := fun i => Try.prog.keyLits (d + 1) 5 ((gs.drop (i * Try.prog.cellsOf 5)).take (Try.prog.cellsOf 5))) (List.range 16) (fun i hi => by
    have hi' : i < gs.length := by rw [h.1]; exact List.mem_range.1 hi
    obtain ⟨z, hz, hw⟩ := h.2 _ (List.getElem_mem hi')
    have e : (gs.drop (i * Try.prog.cellsOf 5)).take (Try.prog.cellsOf 5) = [.int .u8 z] := by
      rw [cells5, Nat.mul_one, List.drop_eq_getElem_cons hi', hz]
      rfl
    exact ⟨[.int .u8 z], by rw [e]; simp [Program.keyLits, Try.underlying5, hw]⟩)
  refine ⟨ys.flatten, ?_⟩
  unfold Program.keyLits
  simp only [Try.underlying54]
  rw [if_pos (by rw [h.1, cells54]), hys]
  rfl

theorem keyOf54 {gs : List Value} (h : G16 gs) : ∃ l, keyOf Try.prog 54 (.agg gs.toArray) = some l := by
  obtain ⟨d, hd⟩ := depthT
  obtain ⟨l, hl⟩ := lits54 h (d + 2)
  have hf : (Value.agg gs.toArray).formed Try.prog 54 = true := by simp [Value.formed, Try.underlying54, cells54, h.1]
  refine ⟨.string (keyBytes l), ?_⟩
  unfold keyOf
  simp only [Try.underlying54, keyType54, hf, Bool.and_self, if_true, hd]
  simp [Value.cells, hl]

theorem keyOf80 {s : ByteArray} (hs : s.size ≤ maxLen) {gs : List Value} (h : G16 gs) : ∃ l, keyOf Try.prog 80 (.agg (keyCells s gs).toArray) = some l := by
  obtain ⟨d, hd⟩ := depthT
  obtain ⟨l, hl⟩ := lits54 h (d + 1)
  have hf : (Value.agg (keyCells s gs).toArray).formed Try.prog 80 = true := by simp [Value.formed, Try.underlying80, cells80, keyCells, h.1]
  have h9 : Try.prog.keyLits (d + 3) 9 [.string s] = some [.string s.data.toList] := by simp [Program.keyLits, Try.underlying9, hs]
  have hk : Try.prog.keyLits (d + 4) 80 (keyCells s gs) = some (.string s.data.toList :: l) := by
    unfold Program.keyLits
    simp only [Try.underlying80]
    rw [if_pos (by rw [keyCells_length h.1, cells80]; exact ⟨rfl, by simp⟩)]
    have e1 : ((keyCells s gs).drop 0).take (Try.prog.cellsOf 9) = [.string s] := by rw [cells9]; rfl
    have e2 : ((keyCells s gs).drop 1).take (Try.prog.cellsOf 54) = gs := by rw [cells54, keyCells, List.drop_succ_cons, List.drop_zero, ← h.1, List.take_length]
    simp only [List.mapM_cons, List.mapM_nil, e1, e2, h9, hl]
    simp
  refine ⟨.string (keyBytes (.string s.data.toList :: l)), ?_⟩
  unfold keyOf
  simp only [Try.underlying80, keyType80, hf, Bool.and_self, if_true, hd]
  simp [Value.cells, hk]

/- '==' between two arrays of bytes. -/
set_option maxRecDepth 100000 in
theorem run_eq54 {gs hs : List Int} (h1 : G16 (gcells gs)) (h2 : G16 (gcells hs)) (w : World) : (Op.equalIn 10000 54 (.agg (gcells gs).toArray) (.agg (gcells hs).toArray)).run Try.prog w = .ok (decide (gs = hs)) w := by
  obtain ⟨l1, k1⟩ := keyOf54 h1
  obtain ⟨l2, k2⟩ := keyOf54 h2
  obtain ⟨r, hr, hi⟩ := run_equal_deep w (m := 3) (by omega) keyAt54 wide54 k1 k2
  have e : r = decide (gs = hs) := by
    by_cases he : gs = hs
    · subst he
      rw [k1] at k2
      simp only [decide_true]
      exact hi.2 (Option.some.inj k2)
    · have : r ≠ true := fun hc => he (by
        have hl := hi.1 hc
        rw [← hl] at k2
        have := law54.inj k1 k2
        exact gcells_inj (by simpa using this))
      simp only [he, decide_false]
      cases r
      · rfl
      · exact absurd rfl this
  rw [← e]
  exact hr

theorem key_inj {s s' : ByteArray} {gs hs : List Int} {l : Lit} (h1 : keyOf Try.prog 80 (.agg (keyCells s (gcells gs)).toArray) = some l) (h2 : keyOf Try.prog 80 (.agg (keyCells s' (gcells hs)).toArray) = some l) : s = s' ∧ gs = hs := by
  have := law80.inj h1 h2
  have e : keyCells s (gcells gs) = keyCells s' (gcells hs) := by simpa using this
  simp only [keyCells, List.cons.injEq, Value.string.injEq] at e
  exact ⟨e.1, gcells_inj e.2⟩

end Go.Proofs.Qxb6002372a
