/-
  zzSameKey, zzSameVar: two variables that were handed over by value.
-/
import Derived.Test.Qxb6002372aVarOps
import Derived.Deep.DeepCutAuto
import Derived.Deep.CutBlock
namespace Go.Proofs.Qxb6002372a
open Go.RowKit

theorem natInt_beq (i j : Nat) : ((i : Int) == (j : Int)) = decide (i = j) := by
  by_cases h : i = j
  · simp [h]
  · have : ¬ (i : Int) = j := by omega
    simp [h, this]

theorem bytes_ne {s t : ByteArray} (e : s.toList = t.toList) : s = t := by
  rw [ByteArray.toList_eq, ByteArray.toList_eq] at e
  cases s
  cases t
  congr 1
  exact Array.ext' e

section
variable {w : World} {b : Nat} {s : ByteArray} {g : List Int} {i : Nat}
theorem var_name (h : w.rangeAt b 0 (varCells s (gcells g) i)) : w.cell? ⟨b, 0, none⟩ = some (.string s) := by simpa using h 0 (.string s) rfl
theorem var_guid (h : w.rangeAt b 0 (varCells s (gcells g) i)) (hg : G16 (gcells g)) : w.rangeAt b 1 (gcells g) := by
  have := rangeAt_part h 1 16
  rw [varCells, List.drop_succ_cons, List.drop_zero, Nat.zero_add, ← hg.1, List.take_left] at this
  exact this
theorem var_attr (h : w.rangeAt b 0 (varCells s (gcells g) i)) (hg : G16 (gcells g)) : w.cell? ⟨b, 17, none⟩ = some (.int .u32 i) := by
  have := h 17 (.int .u32 i) (by
    have : (varCells s (gcells g) i)[17]? = ((gcells g) ++ [.int .u32 i, .slice none 0 0])[16]? := rfl
    rw [this, List.getElem?_append_right (by rw [hg.1]; omega), hg.1]
    rfl)
  simpa using this
end

set_option maxRecDepth 100000 in
theorem samekey_any (s t : ByteArray) (g h : List Int) (i j : Nat) (hg : G16 (gcells g)) (hh : G16 (gcells h)) (w : World) :
    Calls Try.prog 42 #[.agg (varCells s (gcells g) i).toArray, .agg (varCells t (gcells h) j).toArray] w fun e w' => e = .returned (.bool (decide (s = t ∧ g = h))) ∧ Below w.heap.size w w' := by
  go_enter Try.func42, Try.ntmps42
  go_upto_region 1 with (first | (refine wpList_bx 57 _ rfl (varCells s (gcells g) i) rfl (by rfl) ?_; intro g1 w1 hg1 hr1 hb1) | (refine wpList_bx 57 _ rfl (varCells t (gcells h) j) rfl (by rfl) ?_; intro g2 w2 hg2 hr2 hb2))
  obtain ⟨e1, s1⟩ := hg1.out
  obtain ⟨e2, s2⟩ := hg2.out
  have hb : Below w.heap.size w w2 := hb1.trans (hb2.mono (by omega))
  have r1 : w2.rangeAt g1 0 (varCells s (gcells g) i) := rangeAt_of_heap hr1 (hb2.block g1 (by omega))
  have c1 := var_name r1
  have c2 := var_name hr2
  have p1 := var_guid r1 hg
  have p2 := var_guid hr2 hh
  have heq := fun w => run_eq54 hg hh w
  have Hb : Hid (Below w.heap.size w w2) := hb
  clear hb hg1 hr1 hb1 hg2 hr2 hb2 r1 e1 s1 e2 s2
  by_cases hst : s = t
  · subst hst
    go_wp2_with (first | (refine wpList_ld 54 _ rfl _ rfl (run_ld g1 1 54 _ _ p1 Try.underlying54 rfl (by rw [hg.1]; exact size54)) (by rfl) ?_) | (refine wpList_ld 54 _ rfl _ rfl (run_ld g2 1 54 _ _ p2 Try.underlying54 rfl (by rw [hh.1]; exact size54)) (by rfl) ?_))
    go_ret
    refine ⟨?_, Hb.out⟩
    simp
  · have hne : ¬ s.toList = t.toList := fun e => hst (bytes_ne e)
    have hnb : (s.toList == t.toList) = false := by simpa using hne
    go_wp2
    go_ret
    refine ⟨?_, Hb.out⟩
    simp [hst]

set_option maxRecDepth 100000 in
set_option maxHeartbeats 400000 in
theorem samevar_any (s t : ByteArray) (g h : List Int) (i j : Nat) (hg : G16 (gcells g)) (hh : G16 (gcells h)) (w : World) :
    Calls Try.prog 38 #[.agg (varCells s (gcells g) i).toArray, .agg (varCells t (gcells h) j).toArray] w fun e w' => e = .returned (.bool (decide ((s = t ∧ g = h) ∧ i = j))) ∧ Below w.heap.size w w' := by
  go_enter Try.func38, Try.ntmps38
  go_upto_region 1 with (first | (refine wpList_bx 57 _ rfl (varCells s (gcells g) i) rfl (by rfl) ?_; intro g1 w1 hg1 hr1 hb1) | (refine wpList_bx 57 _ rfl (varCells t (gcells h) j) rfl (by rfl) ?_; intro g2 w2 hg2 hr2 hb2))
  obtain ⟨e1, s1⟩ := hg1.out
  obtain ⟨e2, s2⟩ := hg2.out
  have hb : Below w.heap.size w w2 := hb1.trans (hb2.mono (by omega))
  have r1 : w2.rangeAt g1 0 (varCells s (gcells g) i) := rangeAt_of_heap hr1 (hb2.block g1 (by omega))
  have l1 : (varCells s (gcells g) i).length = 19 := varCells_length hg.1 i
  have l2 : (varCells t (gcells h) j).length = 19 := varCells_length hh.1 j
  have L1 : Hid ((varCells s (gcells g) i).length = 19) := l1
  have L2 : Hid ((varCells t (gcells h) j).length = 19) := l2
  have HR : Hid (g1 < w2.heap.size ∧ g2 < w2.heap.size ∧ Below w.heap.size w w2 ∧ w.heap.size ≤ w2.heap.size) := ⟨by omega, by omega, hb, by omega⟩
  clear hb hg1 hr1 hb1 hg2 hb2 e1 s1 e2 s2 l1 l2
  by_cases hk : s = t ∧ g = h
  · obtain ⟨rfl, rfl⟩ := hk
    go_wp2_with (first | (refine wpList_ld 57 _ rfl _ rfl (run_ld g1 0 57 _ _ r1 Try.underlying57 rfl (by rw [L1.out]; exact size57)) (by rfl) ?_) | (refine wpList_ld 57 _ rfl _ rfl (run_ld g2 0 57 _ _ hr2 Try.underlying57 rfl (by rw [L2.out]; exact size57)) (by rfl) ?_) |
      (go_at_call 42; refine (samekey_any s s g g i j hg hh _).mono ?_; rintro e w3 ⟨rfl, hb3⟩; have c1 : w3.cell? ⟨g1, 17, none⟩ = some (.int .u32 i) := var_attr (rangeAt_of_heap r1 (hb3.block g1 HR.out.1)) hg; have c2 : w3.cell? ⟨g2, 17, none⟩ = some (.int .u32 j) := var_attr (rangeAt_of_heap hr2 (hb3.block g2 HR.out.2.1)) hh; have HB : Hid (Below w.heap.size w w3) := HR.out.2.2.1.trans (hb3.mono HR.out.2.2.2)))
    go_ret
    refine ⟨?_, HB.out⟩
    simp
    exact natInt_beq i j
  · go_wp2_with (first | (refine wpList_ld 57 _ rfl _ rfl (run_ld g1 0 57 _ _ r1 Try.underlying57 rfl (by rw [L1.out]; exact size57)) (by rfl) ?_) | (refine wpList_ld 57 _ rfl _ rfl (run_ld g2 0 57 _ _ hr2 Try.underlying57 rfl (by rw [L2.out]; exact size57)) (by rfl) ?_) |
      (go_at_call 42; refine (samekey_any s t g h i j hg hh _).mono ?_; rintro e w3 ⟨rfl, hb3⟩; have HB : Hid (Below w.heap.size w w3) := HR.out.2.2.1.trans (hb3.mono HR.out.2.2.2)))
    go_ret
    refine ⟨?_, HB.out⟩
    simp [hk]

end Go.Proofs.Qxb6002372a
