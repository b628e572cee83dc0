/-
  ZZNewStore: a store whose records are the given variables.
-/
import Derived.Test.Qxb6002372aVarBuild
namespace Go.Proofs.Qxb6002372a
open Go.RowKit

set_option maxRecDepth 100000 in
theorem run_bs71 (S : Nat → ByteArray) (G : Nat → List Int) (T : Nat → Int) (k : Nat) (h : (gcells (G k)).length = 16) (w : World) :
    (Instr.buildSlice 67 1 #[(0, .agg (rcs S G T k).toArray)]).run Try.prog w = .ok (.slice (some ⟨w.heap.size, 0, none⟩) 1 1) (w.alloc (.cells (rcs S G T k).toArray 71)) := by
  obtain ⟨a0, a1, a2, a3, a4, a5, a6, a7, a8, a9, b0, b1, b2, b3, b4, b5, e⟩ := six h
  simp only [rcs, vcs, e, recCells, varCells]
  simp [Instr.buildSlice, run_underlying Try.underlying67, Try.sizeOf71, Try.zeroValue71, Instr.fill, Value.cells, newRow, Result.andThen]
  kernel_rfl
theorem run_fld (b : Nat) (w : World) : (Instr.fieldAt 69 (.pointer (some ⟨b, 0, none⟩)) 1).run Try.prog w = .ok (.pointer (some ⟨b, 1, none⟩)) w := by
  simp [Instr.fieldAt, run_underlying Try.underlying69, Instr.sureAddr, fieldPlace, Try.sizeOf67, Addr.add]

theorem run_st67 (w : World) (p : Addr) (ao : Option Addr) (n c : Nat) (u : Value) (hc : w.cell? p = some u) (hf : w.frozen? p = false) : (storeVar 67 p (.slice ao n c)).run Try.prog w = .ok () (w.setCell p (.slice ao n c)) := by
  simp [storeVar, Try.sizeOf67, Value.cells, storeCells, Addr.add]
  rw [run_store Try.prog w p _ _ rfl]
  simp [hc, hf]

theorem range_flat (f : Nat → List Value) (k : Nat) : (List.range (k + 1)).flatMap f = (List.range k).flatMap f ++ f k := by
  rw [List.range_succ, List.flatMap_append]
  simp

theorem zinfo71 : (Try.prog.info? 71).map (fun i => (i.zero.map (fun z => z.cells.size), i.size, i.bytes)) = some (some 22, 22, 88) := by kernel_rfl
theorem zparts71 : ∃ i z, Try.prog.info? 71 = some i ∧ i.zero = some z ∧ i.size = 22 ∧ i.bytes = 88 ∧ z.cells.size = 22 := by
  obtain ⟨i, hi, h2⟩ := Option.map_eq_some_iff.1 zinfo71
  simp only [Prod.mk.injEq] at h2
  obtain ⟨z, hz, hc⟩ := Option.map_eq_some_iff.1 h2.1
  exact ⟨i, z, hi, hz, h2.2.1, h2.2.2, hc⟩

section
variable {P : Program} {o : Oper} {a : Act} {w : World} {K : Act → World → Prop} {Q : Exit → Act → World → Prop}
theorem wp_ld (t : TypeId) (x : Operand) (ho : o.op = .load t x) (d : Tmp) (hd : o.dst = some d) {p : Addr} {v : Value} (hx : a.eval x = .pointer (some p)) (hr : (loadVar t p).run P w = .ok v w) (h : K (a.put (some d) v) w) : o.wp P a w K Q :=
  wp_run v (by unfold execOp; simp only [ho, hx, Instr.loadAt, Instr.sureAddr, Sem.run_bind, Sem.run_pure, Result.andThen_ok, hr]) d hd h
theorem wp_bs (t : TypeId) (m : Nat) (parts : Array (Nat × Operand)) (ho : o.op = .buildSlice t m parts) (d : Tmp) (hd : o.dst = some d) (ps : List (Nat × Value)) (hp : parts.toList.map (fun p => (p.1, a.eval p.2)) = ps) {v : Value} {w' : World}
    (hr : (Instr.buildSlice t m ps.toArray).run P w = .ok v w') (h : K (a.put (some d) v) w') : o.wp P a w K Q := by
  have e : parts.map (fun (i, x) => (i, a.eval x)) = ps.toArray := by
    apply Array.ext'
    rw [Array.toList_map, ← hp]
  exact wp_run v (by unfold execOp; simp only [ho, e, Sem.run_bind, Sem.run_pure, Result.andThen_ok, hr]) d hd h
end

set_option maxRecDepth 100000 in
theorem newstore_any (w : World) (n : Nat) (hn : n ≤ 4096) (S : Nat → ByteArray) (G : Nat → List Int) (T : Nat → Int) (hF : Fine n S G) (gv gs : Nat) (hV : Rw w gv 57 19 n n (vcs S G)) (hS : Rw w gs 5 1 n n (fun i => [.int .u8 (T i)])) :
    Calls Try.prog 34 #[.slice (some ⟨gv, 0, none⟩) n n, .slice (some ⟨gs, 0, none⟩) n n] w fun e w' => ∃ sb ao cap, e = .returned (.pointer (some ⟨sb, 0, none⟩)) ∧ w.heap.size ≤ sb ∧
      w'.cell? ⟨sb, 1, none⟩ = some (.slice ao n cap) ∧ Recs w' ao n S G T ∧ Below w.heap.size w w' := by
  obtain ⟨i0, z0, hi, hz, hsz, hby, hzc⟩ := zparts71
  go_enter Try.func34, Try.ntmps34
  go_wp2
  go_loopw [11] (fun i wr => ∃ (k : Nat) (ao : Option Addr) (cap : Nat), k ≤ n ∧ i = .int .i64 k ∧ wr.cell? ⟨w.heap.size, 1, none⟩ = some (.slice ao k cap) ∧ wr.frozen? ⟨w.heap.size, 1, none⟩ = false ∧
      wr.ownsRow (w.heap.size + 1) 71 22 (.slice ao k cap) k ((List.range k).flatMap (rcs S G T)) ∧ Below w.heap.size w wr ∧ w.heap.size + 1 ≤ wr.heap.size) (fun i _ => n - (intOf i).toNat)
  case atStart =>
    refine ⟨0, none, 0, Nat.zero_le _, rfl, ?_, ?_, World.ownsRow_nil _ _ _ _, below_new w _, by simp⟩
    · rw [cell_of_row _ _ 1 _ 69 (0, 0) (heap_alloc_new w _)]
      rfl
    · exact frozen_of_row _ _ 1 _ 69 (heap_alloc_new w _)
  case round =>
    obtain ⟨k, ao, cap, hk, rfl, hcell, hfz, hown, hbel, hsz1⟩ := hrel
    by_cases hlt : k < n
    · have ix0 : ∀ w, (Instr.indexAt 22 (.slice (some ⟨gs, 0, none⟩) n n) (.int .i64 (k : Int))).run Try.prog w = .ok (.pointer (some ⟨gs, k, none⟩)) w := fun w => by rw [run_ixg (P := Try.prog) Try.underlying22 Try.sizeOf5 gs hlt n w, Nat.mul_one]
      have ix1 := fun w => run_ixg (P := Try.prog) Try.underlying44 Try.sizeOf57 gv hlt n w
      have ld0 : ∀ w', Below w.heap.size w w' → (loadVar 5 ⟨gs, k, none⟩).run Try.prog w' = .ok (.int .u8 (T k)) w' := fun w' hb => by
        have := (hS.later hb).cell1 hlt rfl
        simp [loadVar, Try.isAgg5, this]
      have ld1 : ∀ w', Below w.heap.size w w' → (loadVar 57 ⟨gv, k * 19, none⟩).run Try.prog w' = .ok (.agg (vcs S G k).toArray) w' := fun w' hb =>
        run_ld gv (k * 19) 57 (vcs S G k) _ ((hV.later hb).range k hlt) Try.underlying57 rfl (by rw [vcs_len hF hlt]; exact size57)
      have ld2 : ∀ w', w'.cell? ⟨w.heap.size, 1, none⟩ = some (.slice ao k cap) → (loadVar 67 ⟨w.heap.size, 1, none⟩).run Try.prog w' = .ok (.slice ao k cap) w' := fun w' this => by
        simp [loadVar, Try.isAgg67, this]
      go_upto_region 5 with fail
      refine wp_region_held_drew (S := fun w' => Below w.heap.size w w') (by kernel_rfl) hbel.drew (fun hHeld => ?_)
      refine held_take 0 14 (.pointer (some ⟨w.heap.size, 0, none⟩)) rfl rfl (by kernel_rfl) (by kernel_rfl) (by kernel_rfl) (fun _ _ _ h => h) (yi_move _ rfl rfl (by rfl)) hHeld ?_
      go_frame
      refine held_take 1 15 (.pointer (some ⟨w.heap.size, 0, none⟩)) rfl rfl (by kernel_rfl) (by kernel_rfl) (by kernel_rfl) (fun _ _ _ h => h) (yi_move _ rfl rfl (by rfl)) hHeld ?_
      go_frame
      refine held_take 2 16 (.pointer (some ⟨w.heap.size, 0, none⟩)) rfl rfl (by kernel_rfl) (by kernel_rfl) (by kernel_rfl) (fun _ _ _ h => h) (yi_nil _ rfl rfl (by rfl)) hHeld ?_
      go_frame
      refine held_take 3 17 (.pointer (some ⟨w.heap.size, 1, none⟩)) rfl rfl (by kernel_rfl) (by kernel_rfl) (by kernel_rfl) (fun _ _ _ h => h) (yi_field _ _ _ rfl rfl (run_fld w.heap.size) (by rfl)) hHeld ?_
      go_frame
      refine held_take 5 19 (.slice (some ⟨gs, 0, none⟩) n n) rfl rfl (by kernel_rfl) (by kernel_rfl) (by kernel_rfl) (fun _ _ _ h => h) (yi_move _ rfl rfl (by rfl)) hHeld ?_
      go_frame
      refine held_take 6 20 (.int .i64 (k : Int)) rfl rfl (by kernel_rfl) (by kernel_rfl) (by kernel_rfl) (fun _ _ _ h => h) (yi_move _ rfl rfl (by rfl)) hHeld ?_
      go_frame
      refine held_take 7 21 (.pointer (some ⟨gs, k, none⟩)) rfl rfl (by kernel_rfl) (by kernel_rfl) (by kernel_rfl) (fun _ _ _ h => h) (yi_index _ _ _ rfl rfl rfl ix0 (by rfl)) hHeld ?_
      go_frame
      refine held_take 8 22 (.int .u8 (T k)) rfl rfl (by kernel_rfl) (by kernel_rfl) (by kernel_rfl) (fun _ _ _ h => h) (yi_load _ _ rfl rfl ld0 (by rfl)) hHeld ?_
      go_frame
      refine held_take 9 23 (.slice (some ⟨gv, 0, none⟩) n n) rfl rfl (by kernel_rfl) (by kernel_rfl) (by kernel_rfl) (fun _ _ _ h => h) (yi_move _ rfl rfl (by rfl)) hHeld ?_
      go_frame
      refine held_take 10 24 (.int .i64 (k : Int)) rfl rfl (by kernel_rfl) (by kernel_rfl) (by kernel_rfl) (fun _ _ _ h => h) (yi_move _ rfl rfl (by rfl)) hHeld ?_
      go_frame
      refine held_take 11 25 (.pointer (some ⟨gv, k * 19, none⟩)) rfl rfl (by kernel_rfl) (by kernel_rfl) (by kernel_rfl) (fun _ _ _ h => h) (yi_index _ _ _ rfl rfl rfl ix1 (by rfl)) hHeld ?_
      go_frame
      refine held_take 12 26 (.agg (vcs S G k).toArray) rfl rfl (by kernel_rfl) (by kernel_rfl) (by kernel_rfl) (fun _ _ _ h => h) (yi_load _ _ rfl rfl ld1 (by rfl)) hHeld ?_
      go_frame
      refine held_take 13 27 (.agg (rcs S G T k).toArray) rfl rfl (by kernel_rfl) (by kernel_rfl) (by kernel_rfl) (fun _ _ _ h => h) (yi_build _ _ rfl [(2, .int .u8 (T k)), (3, .agg (vcs S G k).toArray)] rfl (built71 (T k) (S k) (hF k hlt).2.1 k rfl) (by rfl)) hHeld ?_
      go_frame
      have hown1 : (wr.drew.alloc (.cells (rcs S G T k).toArray 71)).ownsRow (w.heap.size + 1) 71 22 (.slice ao k cap) k ((List.range k).flatMap (rcs S G T)) := World.ownsRow.alloc (w := wr.drew) hown _
      have hb1 : Below w.heap.size w (wr.drew.alloc (.cells (rcs S G T k).toArray 71)) := hHeld.alloc (by show w.heap.size ≤ wr.heap.size; omega) _
      have hblk1 : (wr.drew.alloc (.cells (rcs S G T k).toArray 71)).heap[w.heap.size]? = wr.heap[w.heap.size]? := Below.heap_alloc wr.drew _ w.heap.size (by show w.heap.size < wr.heap.size; omega)
      have hc1 : (wr.drew.alloc (.cells (rcs S G T k).toArray 71)).cell? ⟨w.heap.size, 1, none⟩ = some (.slice ao k cap) := (World.cell?_of_block hblk1).trans hcell
      have hf1 : (wr.drew.alloc (.cells (rcs S G T k).toArray 71)).frozen? ⟨w.heap.size, 1, none⟩ = false := (World.frozen?_of_block hblk1).trans hfz
      have hnews : ∀ j u, (rcs S G T k)[j]? = some u → (wr.drew.alloc (.cells (rcs S G T k).toArray 71)).cell? ((⟨wr.heap.size, 0, none⟩ : Addr).add j) = some u := fun j u hu => by
        rw [Addr.add_mid]
        exact rangeAt_new wr.drew (rcs S G T k) 71 j u hu
      clear hblk1
      refine held_two 4 14 rfl rfl (by kernel_rfl) (by rfl) (by rfl) (fun K hK => ?_) (fun K hK => ?_)
      · refine wp_ld 67 _ rfl 18 rfl rfl (ld2 _ hcell) (hK _ _ hHeld ?_)
        go_frame
        refine held_one 14 rfl (by kernel_rfl) (by rfl) (fun K hK => ?_)
        refine wp_bs 67 1 _ rfl 28 rfl [(0, .agg (rcs S G T k).toArray)] rfl (run_bs71 S G T k (hF k hlt).2.1 _) (hK _ _ hb1 ?_)
        go_frame
        all_goals
          refine held_one 15 rfl (by kernel_rfl) (by rfl) (fun K hK => ?_)
          refine wp_append_lies _ _ _ 67 rfl (w.heap.size + 1) 71 i0 z0 22 88 Try.underlying67 hi hz hsz hby hzc (by decide) (.slice ao k cap) k _ rfl hown1 ⟨wr.heap.size, 0, none⟩ 1 1 (rcs S G T k) rfl (by rw [rcs_len hF hlt]) hnews (rcs_one hF hlt) (by decide) (by unfold maxLen; omega) (by omega) (by simp; omega) _ rfl ?_
          intro g cap2 w2 hown2 hgr2 hat2 hlt2
          have hb2 : Below w.heap.size w w2 := hb1.grown hgr2 (by simp; omega) (fun j hj => by have := (hown1.lt j hj).1; omega)
          have hblk : w2.heap[w.heap.size]? = (wr.drew.alloc (.cells (rcs S G T k).toArray 71)).heap[w.heap.size]? := hgr2.block w.heap.size (by simp; omega) (row_ne_low hown1 (by omega))
          have hc2 : w2.cell? ⟨w.heap.size, 1, none⟩ = some (.slice ao k cap) := (World.cell?_of_block hblk).trans hc1
          have hf2 : w2.frozen? ⟨w.heap.size, 1, none⟩ = false := (World.frozen?_of_block hblk).trans hf1
          refine hK _ _ hb2 ?_
          go_frame
          refine held_take 16 30 (.pointer (some ⟨w.heap.size, 0, none⟩)) rfl rfl (by kernel_rfl) (by kernel_rfl) (by kernel_rfl) (fun _ _ _ h => h) (yi_nil _ rfl rfl (by rfl)) hb2 ?_
          go_frame
          refine held_take 17 31 (.pointer (some ⟨w.heap.size, 1, none⟩)) rfl rfl (by kernel_rfl) (by kernel_rfl) (by kernel_rfl) (fun _ _ _ h => h) (yi_field _ _ _ rfl rfl (run_fld w.heap.size) (by rfl)) hb2 ?_
          go_frame
          refine held_last_store 18 rfl rfl (by kernel_rfl) 67 _ _ rfl ⟨w.heap.size, 1, none⟩ rfl (.slice (some ⟨g, 0, none⟩) (k + 1) cap2) rfl _ (run_st67 w2 ⟨w.heap.size, 1, none⟩ _ _ _ _ hc2 hf2) (by rfl) (hb2.setCell (p := ⟨w.heap.size, 1, none⟩) (Nat.le_refl _) _) (by kernel_rfl) ?_
          have hc3 : (w2.setCell ⟨w.heap.size, 1, none⟩ (.slice (some ⟨g, 0, none⟩) (k + 1) cap2)).cell? ⟨w.heap.size, 1, none⟩ = some (.slice (some ⟨g, 0, none⟩) (k + 1) cap2) := World.cell?_setCell_same _ _ _ hc2
          have hf3 : (w2.setCell ⟨w.heap.size, 1, none⟩ (.slice (some ⟨g, 0, none⟩) (k + 1) cap2)).frozen? ⟨w.heap.size, 1, none⟩ = false := by rw [World.frozen?_setCell]; exact hf2
          have hown3 : (w2.setCell ⟨w.heap.size, 1, none⟩ (.slice (some ⟨g, 0, none⟩) (k + 1) cap2)).ownsRow (w.heap.size + 1) 71 22 (.slice (some ⟨g, 0, none⟩) (k + 1) cap2) (k + 1) ((List.range (k + 1)).flatMap (rcs S G T)) := by
            rw [range_flat]
            exact hown2.kept (grownBy_setCells w.heap.size [.slice (some ⟨g, 0, none⟩) (k + 1) cap2] 1 w2) (Or.inr (row_ne_low hown2 (by omega)).symm)
          have hb3 := hb2.setCell (p := ⟨w.heap.size, 1, none⟩) (Nat.le_refl _) (.slice (some ⟨g, 0, none⟩) (k + 1) cap2)
          have hs3 : w.heap.size + 1 ≤ (w2.setCell ⟨w.heap.size, 1, none⟩ (.slice (some ⟨g, 0, none⟩) (k + 1) cap2)).heap.size := by have := hgr2.size; simp at this; simp [World.setCell]; omega
          obtain ⟨w5, hw5⟩ : ∃ w5, w5 = w2.setCell ⟨w.heap.size, 1, none⟩ (.slice (some ⟨g, 0, none⟩) (k + 1) cap2) := ⟨_, rfl⟩
          rw [← hw5] at hc3 hf3 hown3 hb3 hs3 ⊢
          clear hw5 hc2 hf2 hown2 hgr2 hat2 hlt2 hb2 hblk hcell hfz hown hbel hc1 hf1 hown1 hb1 hnews hHeld ld2
          have HC : Hid (w5.cell? ⟨w.heap.size, 1, none⟩ = some (.slice (some ⟨g, 0, none⟩) (k + 1) cap2) ∧ w5.frozen? ⟨w.heap.size, 1, none⟩ = false) := ⟨hc3, hf3⟩
          go_wp2
          go_roundw
          case measure => simp [intOf]; omega
          case rel => exact ⟨k + 1, _, _, by omega, by go_num, HC.out.1, HC.out.2, hown3, hb3, hs3⟩
      · refine wp_bs 67 1 _ rfl 28 rfl [(0, .agg (rcs S G T k).toArray)] rfl (run_bs71 S G T k (hF k hlt).2.1 _) (hK _ _ hb1 ?_)
        go_frame
        refine held_one 4 rfl (by kernel_rfl) (by rfl) (fun K hK => ?_)
        refine wp_ld 67 _ rfl 18 rfl rfl (ld2 _ hc1) (hK _ _ hb1 ?_)
        go_frame
        all_goals
          refine held_one 15 rfl (by kernel_rfl) (by rfl) (fun K hK => ?_)
          refine wp_append_lies _ _ _ 67 rfl (w.heap.size + 1) 71 i0 z0 22 88 Try.underlying67 hi hz hsz hby hzc (by decide) (.slice ao k cap) k _ rfl hown1 ⟨wr.heap.size, 0, none⟩ 1 1 (rcs S G T k) rfl (by rw [rcs_len hF hlt]) hnews (rcs_one hF hlt) (by decide) (by unfold maxLen; omega) (by omega) (by simp; omega) _ rfl ?_
          intro g cap2 w2 hown2 hgr2 hat2 hlt2
          have hb2 : Below w.heap.size w w2 := hb1.grown hgr2 (by simp; omega) (fun j hj => by have := (hown1.lt j hj).1; omega)
          have hblk : w2.heap[w.heap.size]? = (wr.drew.alloc (.cells (rcs S G T k).toArray 71)).heap[w.heap.size]? := hgr2.block w.heap.size (by simp; omega) (row_ne_low hown1 (by omega))
          have hc2 : w2.cell? ⟨w.heap.size, 1, none⟩ = some (.slice ao k cap) := (World.cell?_of_block hblk).trans hc1
          have hf2 : w2.frozen? ⟨w.heap.size, 1, none⟩ = false := (World.frozen?_of_block hblk).trans hf1
          refine hK _ _ hb2 ?_
          go_frame
          refine held_take 16 30 (.pointer (some ⟨w.heap.size, 0, none⟩)) rfl rfl (by kernel_rfl) (by kernel_rfl) (by kernel_rfl) (fun _ _ _ h => h) (yi_nil _ rfl rfl (by rfl)) hb2 ?_
          go_frame
          refine held_take 17 31 (.pointer (some ⟨w.heap.size, 1, none⟩)) rfl rfl (by kernel_rfl) (by kernel_rfl) (by kernel_rfl) (fun _ _ _ h => h) (yi_field _ _ _ rfl rfl (run_fld w.heap.size) (by rfl)) hb2 ?_
          go_frame
          refine held_last_store 18 rfl rfl (by kernel_rfl) 67 _ _ rfl ⟨w.heap.size, 1, none⟩ rfl (.slice (some ⟨g, 0, none⟩) (k + 1) cap2) rfl _ (run_st67 w2 ⟨w.heap.size, 1, none⟩ _ _ _ _ hc2 hf2) (by rfl) (hb2.setCell (p := ⟨w.heap.size, 1, none⟩) (Nat.le_refl _) _) (by kernel_rfl) ?_
          have hc3 : (w2.setCell ⟨w.heap.size, 1, none⟩ (.slice (some ⟨g, 0, none⟩) (k + 1) cap2)).cell? ⟨w.heap.size, 1, none⟩ = some (.slice (some ⟨g, 0, none⟩) (k + 1) cap2) := World.cell?_setCell_same _ _ _ hc2
          have hf3 : (w2.setCell ⟨w.heap.size, 1, none⟩ (.slice (some ⟨g, 0, none⟩) (k + 1) cap2)).frozen? ⟨w.heap.size, 1, none⟩ = false := by rw [World.frozen?_setCell]; exact hf2
          have hown3 : (w2.setCell ⟨w.heap.size, 1, none⟩ (.slice (some ⟨g, 0, none⟩) (k + 1) cap2)).ownsRow (w.heap.size + 1) 71 22 (.slice (some ⟨g, 0, none⟩) (k + 1) cap2) (k + 1) ((List.range (k + 1)).flatMap (rcs S G T)) := by
            rw [range_flat]
            exact hown2.kept (grownBy_setCells w.heap.size [.slice (some ⟨g, 0, none⟩) (k + 1) cap2] 1 w2) (Or.inr (row_ne_low hown2 (by omega)).symm)
          have hb3 := hb2.setCell (p := ⟨w.heap.size, 1, none⟩) (Nat.le_refl _) (.slice (some ⟨g, 0, none⟩) (k + 1) cap2)
          have hs3 : w.heap.size + 1 ≤ (w2.setCell ⟨w.heap.size, 1, none⟩ (.slice (some ⟨g, 0, none⟩) (k + 1) cap2)).heap.size := by have := hgr2.size; simp at this; simp [World.setCell]; omega
          obtain ⟨w5, hw5⟩ : ∃ w5, w5 = w2.setCell ⟨w.heap.size, 1, none⟩ (.slice (some ⟨g, 0, none⟩) (k + 1) cap2) := ⟨_, rfl⟩
          rw [← hw5] at hc3 hf3 hown3 hb3 hs3 ⊢
          clear hw5 hc2 hf2 hown2 hgr2 hat2 hlt2 hb2 hblk hcell hfz hown hbel hc1 hf1 hown1 hb1 hnews hHeld ld2
          have HC : Hid (w5.cell? ⟨w.heap.size, 1, none⟩ = some (.slice (some ⟨g, 0, none⟩) (k + 1) cap2) ∧ w5.frozen? ⟨w.heap.size, 1, none⟩ = false) := ⟨hc3, hf3⟩
          go_wp2
          go_roundw
          case measure => simp [intOf]; omega
          case rel => exact ⟨k + 1, _, _, by omega, by go_num, HC.out.1, HC.out.2, hown3, hb3, hs3⟩
    · have hkn : k = n := by omega
      rw [hkn] at hcell hown
      clear hkn
      go_wp2
      go_ret
      refine ⟨_, ao, cap, rfl, Nat.le_refl _, hcell, fun h0 => ?_, hbel⟩
      obtain ⟨g, hg, _, _, _, hr⟩ := Rw.of_owns h0 (fun i hi => rcs_len hF hi) hown
      exact ⟨g, hg, hr⟩

end Go.Proofs.Qxb6002372a
