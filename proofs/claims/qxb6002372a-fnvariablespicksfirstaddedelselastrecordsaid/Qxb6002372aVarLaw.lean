/-
  The law itself: what it builds, it finds again.
-/
import Derived.Test.Qxb6002372aVarChosen
namespace Go.Proofs.Qxb6002372a
open Go.RowKit

theorem Recs.later {w w' : World} {ao : Option Addr} {n : Nat} {S : Nat → ByteArray} {G : Nat → List Int} {T : Nat → Int} (h : Recs w ao n S G T) (hb : Below w.heap.size w w') : Recs w' ao n S G T := fun h0 => by
  obtain ⟨g, hg, hr⟩ := h h0
  exact ⟨g, hg, hr.later hb⟩

theorem yi_ne8 {P : Program} {ops : Array Oper} {S : World → Prop} {o : Oper} {a : Act} (t ty : TypeId) (x y : Operand) (ho : o.op = .binOp .neq t x y ty) {A B : Int} (hx : a.eval x = .int .u8 A) (hy : a.eval y = .int .u8 B) {b : Bool} (hb : (A != B) = b)
    (hw : Region.wanted o (yielded ops a.tmps) = true) : YieldsIf P ops S o (.bool b) a :=
  .inl ⟨hw, fun w _ => by
    unfold execOp
    simp only [ho, hx, hy, ← hb]
    rfl⟩

set_option maxRecDepth 100000 in
set_option maxHeartbeats 2000000 in
theorem law_main (w : World) (n : Nat) (hn : n ≤ 4096) (S : Nat → ByteArray) (G : Nat → List Int) (T : Nat → Int) (hF : Fine n S G)
    (a0 : Option Addr) (c0 : Nat) (h0 : StrsAt w a0 n S) (a1 : Option Addr) (c1 : Nat) (h1 : GuidsAt w a1 n G) (a2 : Option Addr) (c2 : Nat) (h2 : BytesAt w a2 n T) :
    Calls Try.prog 10 #[.slice a0 n c0, .slice a1 n c1, .slice a2 n c2] w fun e w' => e = .returned (.bool true) ∧ Below w.heap.size w w' := by
  obtain ⟨m, hm⟩ : ∃ m, (stands (keyAt S G) T n n).length = m := ⟨_, rfl⟩
  obtain ⟨L, hL⟩ : ∃ L : Nat → Nat, L = fun i => (stands (keyAt S G) T n n).getD i 0 := ⟨_, rfl⟩
  have HM : Hid ((stands (keyAt S G) T n n).length = m ∧ L = fun i => (stands (keyAt S G) T n n).getD i 0) := ⟨hm, hL⟩
  clear hm hL
  go_enter Try.func10, Try.ntmps10
  go_upto_region 10 with (first
    | (go_at_call 31; refine (zbytes_any _ a0 n c0 S h0 (by unfold maxLen; omega) a1 n c1 (by unfold maxLen; omega) a2 n c2 (by unfold maxLen; omega)).mono ?_; rintro e w' ⟨⟨b, rfl⟩, rfl⟩)
    | (go_at_call 32; refine (zrec_any _ a0 n c0 S h0 (by unfold maxLen; omega) a1 n c1 (by unfold maxLen; omega) a2 n c2 (by unfold maxLen; omega)).mono ?_; rintro e w' ⟨⟨z, rfl⟩, rfl⟩))
  all_goals first
    | (go_ret; exact ⟨rfl, Below.refl _ _⟩)
    | skip
  go_upto_region 11 with (go_at_call 33; refine (build_any _ n hn S G T hF a0 c0 h0 a1 c1 h1 a2 c2 h2).mono ?_; rintro e w1 ⟨gv, gs, rfl, hgv, hgs, hV1, hS1, hb1⟩)
  go_upto_region 12 with (go_at_call 34; refine (newstore_any _ n hn S G T hF gv gs hV1 hS1).mono ?_; rintro e w2 ⟨sb, ao, cap, rfl, hsb, hcell2, hR2, hb2⟩)
  go_upto_region 13 with (go_at_call 35; refine (variables_any _ sb ao n cap S G T hcell2 hR2 hF hn m HM.out.1 L HM.out.2).mono ?_; rintro e w3 ⟨gg, rfl, hgg, hG3, hb3⟩)
  have hcell3 := cell_below hb3 hcell2
  have hR3 := hR2.later hb3
  go_upto_region 14 with (go_at_call 36; refine (currents_any _ sb ao n cap S G T hcell3 hR3 hF hn m HM.out.1 L HM.out.2).mono ?_; rintro e w4 ⟨gc, gt, rfl, hgc, hgt, hC4, hT4, hb4⟩)
  have s1 := hb1.size
  have s2 := hb2.size
  have s3 := hb3.size
  have hV4 := ((hV1.later hb2).later hb3).later hb4
  have hS4 := ((hS1.later hb2).later hb3).later hb4
  have hG4 := hG3.later hb4
  have HB : Hid (Below w.heap.size w w4) := ((hb1.trans (hb2.mono s1)).trans (hb3.mono (by omega))).trans (hb4.mono (by omega))
  obtain ⟨hmn, _⟩ := L_lt n S G T m HM.out.1 L HM.out.2
  clear s1 s2 s3 hV1 hS1 hb1 hgv hgs hsb hcell2 hR2 hb2 hgg hG3 hb3 hcell3 hR3 hgc hgt hb4 h0 h1 h2
  go_wp2
  go_loopw [14, 15] (fun kk ii wr => ∃ i k : Nat, i ≤ n ∧ k = (stands (keyAt S G) T n i).length ∧ kk = .int .i64 k ∧ ii = .int .i64 i ∧ Below w4.heap.size w4 wr) (fun _ ii _ => n - (intOf ii).toNat)
  case atStart => exact ⟨0, 0, Nat.zero_le _, rfl, rfl, rfl, Below.refl _ _⟩
  case round =>
    obtain ⟨i, k, hin, hk, rfl, rfl, hbel⟩ := hrel
    have HK : Hid (k = (stands (keyAt S G) T n i).length) := hk
    have hki : k ≤ i := by rw [hk]; exact stands_le n i
    clear hk
    by_cases hlt : i < n
    · obtain ⟨c, hc⟩ : ∃ c, chosen (keyAt S G) T n i = c := ⟨_, rfl⟩
      have hch := chosen_any wr n hn S G T hF gv gs (hV4.later hbel) (hS4.later hbel) i hlt
      rw [hc] at hch
      have HC : Hid (chosen (keyAt S G) T n i = c) := hc
      clear hc
      cases c
      · go_wp2_with (go_at_call 37; refine hch.mono ?_; rintro e w5 ⟨rfl, hb5⟩)
        go_roundw
        case measure => simp [intOf]; omega
        case rel => exact ⟨i + 1, k, by omega, by rw [stands_succ, HC.out, HK.out]; simp, rfl, by go_num, hbel.trans (hb5.mono hbel.size)⟩
      · have hat := stands_at hlt HC.out
        rw [← HK.out] at hat
        have hkm : k < m := by rw [← HM.out.1]; exact (List.getElem?_eq_some_iff.1 hat).1
        have hLk : L k = i := by rw [HM.out.2]; simp [List.getD_eq_getElem?_getD, hat]
        go_upto_region 23 with (go_at_call 37; refine hch.mono ?_; rintro e w5 ⟨rfl, hb5⟩)
        have hb6 : Below w4.heap.size w4 w5 := hbel.trans (hb5.mono hbel.size)
        have hV5 := hV4.later hb6
        have hS5 := hS4.later hb6
        have hG5 := hG4.later hb6
        have hC5 := hC4.later hb6
        have hT5 := hT4.later hb6
        have ixg := fun w => run_ixg (P := Try.prog) Try.underlying44 Try.sizeOf57 gg hkm m w
        have ixc := fun w => run_ixg (P := Try.prog) Try.underlying44 Try.sizeOf57 gc hkm m w
        have ixv := fun w => run_ixg (P := Try.prog) Try.underlying44 Try.sizeOf57 gv hlt n w
        have ixt : ∀ w, (Instr.indexAt 22 (.slice (some ⟨gt, 0, none⟩) m m) (.int .i64 (k : Int))).run Try.prog w = .ok (.pointer (some ⟨gt, k, none⟩)) w := fun w => by rw [run_ixg (P := Try.prog) Try.underlying22 Try.sizeOf5 gt hkm m w, Nat.mul_one]
        have ixs : ∀ w, (Instr.indexAt 22 (.slice (some ⟨gs, 0, none⟩) n n) (.int .i64 (i : Int))).run Try.prog w = .ok (.pointer (some ⟨gs, i, none⟩)) w := fun w => by rw [run_ixg (P := Try.prog) Try.underlying22 Try.sizeOf5 gs hlt n w, Nat.mul_one]
        have hvl : (Try.prog.info? 57).map (·.size) = some (vcs S G i).length := by rw [vcs_len hF hlt]; exact size57
        have ldg : ∀ w', Below w5.heap.size w5 w' → (loadVar 57 ⟨gg, k * 19, none⟩).run Try.prog w' = .ok (.agg (vcs S G i).toArray) w' := fun w' hb =>
          run_ld gg (k * 19) 57 (vcs S G i) _ (by have := (hG5.later hb).range k hkm; rw [hLk] at this; exact this) Try.underlying57 rfl hvl
        have ldc : ∀ w', Below w5.heap.size w5 w' → (loadVar 57 ⟨gc, k * 19, none⟩).run Try.prog w' = .ok (.agg (vcs S G i).toArray) w' := fun w' hb =>
          run_ld gc (k * 19) 57 (vcs S G i) _ (by have := (hC5.later hb).range k hkm; rw [hLk] at this; exact this) Try.underlying57 rfl hvl
        have ldv : ∀ w', Below w5.heap.size w5 w' → (loadVar 57 ⟨gv, i * 19, none⟩).run Try.prog w' = .ok (.agg (vcs S G i).toArray) w' := fun w' hb =>
          run_ld gv (i * 19) 57 (vcs S G i) _ ((hV5.later hb).range i hlt) Try.underlying57 rfl hvl
        have ldt : ∀ w', Below w5.heap.size w5 w' → (loadVar 5 ⟨gt, k, none⟩).run Try.prog w' = .ok (.int .u8 (T i)) w' := fun w' hb => by
          have := (hT5.later hb).cell1 hkm rfl
          rw [hLk] at this
          simp [loadVar, Try.isAgg5, this]
        have lds : ∀ w', Below w5.heap.size w5 w' → (loadVar 5 ⟨gs, i, none⟩).run Try.prog w' = .ok (.int .u8 (T i)) w' := fun w' hb => by
          have := (hS5.later hb).cell1 hlt rfl
          simp [loadVar, Try.isAgg5, this]
        refine wp_region_held_drew (S := fun w' => Below w5.heap.size w5 w') (by kernel_rfl) (Below.refl _ _).drew (fun hHeld => ?_)
        refine held_take 0 94 (.slice (some ⟨gg, 0, none⟩) m m) rfl rfl (by kernel_rfl) (by kernel_rfl) (by kernel_rfl) (fun _ _ _ h => h) (yi_move _ rfl rfl (by rfl)) hHeld ?_
        go_frame
        refine held_take 1 95 (.int .i64 (k : Int)) rfl rfl (by kernel_rfl) (by kernel_rfl) (by kernel_rfl) (fun _ _ _ h => h) (yi_move _ rfl rfl (by rfl)) hHeld ?_
        go_frame
        refine held_take 2 96 (.pointer (some ⟨gg, k * 19, none⟩)) rfl rfl (by kernel_rfl) (by kernel_rfl) (by kernel_rfl) (fun _ _ _ h => h) (yi_index _ _ _ rfl rfl rfl ixg (by rfl)) hHeld ?_
        go_frame
        refine held_take 3 97 (.agg (vcs S G i).toArray) rfl rfl (by kernel_rfl) (by kernel_rfl) (by kernel_rfl) (fun _ _ _ h => h) (yi_load _ _ rfl rfl ldg (by rfl)) hHeld ?_
        go_frame
        refine held_take 4 98 (.slice (some ⟨gv, 0, none⟩) n n) rfl rfl (by kernel_rfl) (by kernel_rfl) (by kernel_rfl) (fun _ _ _ h => h) (yi_move _ rfl rfl (by rfl)) hHeld ?_
        go_frame
        refine held_take 5 99 (.int .i64 (i : Int)) rfl rfl (by kernel_rfl) (by kernel_rfl) (by kernel_rfl) (fun _ _ _ h => h) (yi_move _ rfl rfl (by rfl)) hHeld ?_
        go_frame
        refine held_take 6 100 (.pointer (some ⟨gv, i * 19, none⟩)) rfl rfl (by kernel_rfl) (by kernel_rfl) (by kernel_rfl) (fun _ _ _ h => h) (yi_index _ _ _ rfl rfl rfl ixv (by rfl)) hHeld ?_
        go_frame
        refine held_take 7 101 (.agg (vcs S G i).toArray) rfl rfl (by kernel_rfl) (by kernel_rfl) (by kernel_rfl) (fun _ _ _ h => h) (yi_load _ _ rfl rfl ldv (by rfl)) hHeld ?_
        go_frame
        refine held_one 8 rfl (by kernel_rfl) (by rfl) (fun K hK => ?_)
        refine wp_fn 38 #[.agg (vcs S G i).toArray, .agg (vcs S G i).toArray] (by go_simp) 102 rfl (samevar_any (S i) (S i) (G i) (G i) i i (hF i hlt).2 (hF i hlt).2 _) (fun e w' hR => ?_)
        obtain ⟨rfl, hb'⟩ := hR
        have hHeld2 : Below w5.heap.size w5 w' := hHeld.trans (hb'.mono hHeld.size)
        refine ⟨.bool true, by simp, hK _ _ hHeld2 ?_⟩
        clear hHeld hK hb'
        have hHeld := hHeld2
        clear hHeld2
        go_frame
        refine held_take 9 103 (.bool false) rfl rfl (by kernel_rfl) (by kernel_rfl) (by kernel_rfl) (fun _ _ _ h => h) (yi_not _ _ rfl rfl rfl (by rfl)) hHeld ?_
        go_frame
        refine held_take 10 104 (.bool false) rfl rfl (by kernel_rfl) (by kernel_rfl) (by kernel_rfl) (fun _ _ _ h => h) (yi_move _ rfl rfl (by rfl)) hHeld ?_
        go_frame
        refine held_take 11 105 (.slice (some ⟨gc, 0, none⟩) m m) rfl rfl (by kernel_rfl) (by kernel_rfl) (by kernel_rfl) (fun _ _ _ h => h) (yi_move _ rfl rfl (by rfl)) hHeld ?_
        go_frame
        refine held_take 12 106 (.int .i64 (k : Int)) rfl rfl (by kernel_rfl) (by kernel_rfl) (by kernel_rfl) (fun _ _ _ h => h) (yi_move _ rfl rfl (by rfl)) hHeld ?_
        go_frame
        refine held_take 13 107 (.pointer (some ⟨gc, k * 19, none⟩)) rfl rfl (by kernel_rfl) (by kernel_rfl) (by kernel_rfl) (fun _ _ _ h => h) (yi_index _ _ _ rfl rfl rfl ixc (by rfl)) hHeld ?_
        go_frame
        refine held_take 14 108 (.agg (vcs S G i).toArray) rfl rfl (by kernel_rfl) (by kernel_rfl) (by kernel_rfl) (fun _ _ _ h => h) (yi_load _ _ rfl rfl ldc (by rfl)) hHeld ?_
        go_frame
        refine held_take 15 109 (.slice (some ⟨gv, 0, none⟩) n n) rfl rfl (by kernel_rfl) (by kernel_rfl) (by kernel_rfl) (fun _ _ _ h => h) (yi_move _ rfl rfl (by rfl)) hHeld ?_
        go_frame
        refine held_take 16 110 (.int .i64 (i : Int)) rfl rfl (by kernel_rfl) (by kernel_rfl) (by kernel_rfl) (fun _ _ _ h => h) (yi_move _ rfl rfl (by rfl)) hHeld ?_
        go_frame
        refine held_take 17 111 (.pointer (some ⟨gv, i * 19, none⟩)) rfl rfl (by kernel_rfl) (by kernel_rfl) (by kernel_rfl) (fun _ _ _ h => h) (yi_index _ _ _ rfl rfl rfl ixv (by rfl)) hHeld ?_
        go_frame
        refine held_take 18 112 (.agg (vcs S G i).toArray) rfl rfl (by kernel_rfl) (by kernel_rfl) (by kernel_rfl) (fun _ _ _ h => h) (yi_load _ _ rfl rfl ldv (by rfl)) hHeld ?_
        go_frame
        refine held_one 19 rfl (by kernel_rfl) (by rfl) (fun K hK => ?_)
        refine wp_fn 38 #[.agg (vcs S G i).toArray, .agg (vcs S G i).toArray] (by go_simp) 113 rfl (samevar_any (S i) (S i) (G i) (G i) i i (hF i hlt).2 (hF i hlt).2 _) (fun e w' hR => ?_)
        obtain ⟨rfl, hb'⟩ := hR
        have hHeld2 : Below w5.heap.size w5 w' := hHeld.trans (hb'.mono hHeld.size)
        refine ⟨.bool true, by simp, hK _ _ hHeld2 ?_⟩
        clear hHeld hK hb'
        have hHeld := hHeld2
        clear hHeld2
        go_frame
        refine held_take 20 114 (.bool false) rfl rfl (by kernel_rfl) (by kernel_rfl) (by kernel_rfl) (fun _ _ _ h => h) (yi_not _ _ rfl rfl rfl (by rfl)) hHeld ?_
        go_frame
        refine held_take 21 115 (.bool false) rfl rfl (by kernel_rfl) (by kernel_rfl) (by kernel_rfl) (fun _ _ _ h => h) (yi_pick _ _ _ rfl rfl rfl (by rfl)) hHeld ?_
        go_frame
        refine held_take 22 116 (.bool false) rfl rfl (by kernel_rfl) (by kernel_rfl) (by kernel_rfl) (fun _ _ _ h => h) (yi_move _ rfl rfl (by rfl)) hHeld ?_
        go_frame
        refine held_take 23 117 (.slice (some ⟨gt, 0, none⟩) m m) rfl rfl (by kernel_rfl) (by kernel_rfl) (by kernel_rfl) (fun _ _ _ h => h) (yi_move _ rfl rfl (by rfl)) hHeld ?_
        go_frame
        refine held_take 24 118 (.int .i64 (k : Int)) rfl rfl (by kernel_rfl) (by kernel_rfl) (by kernel_rfl) (fun _ _ _ h => h) (yi_move _ rfl rfl (by rfl)) hHeld ?_
        go_frame
        refine held_take 25 119 (.pointer (some ⟨gt, k, none⟩)) rfl rfl (by kernel_rfl) (by kernel_rfl) (by kernel_rfl) (fun _ _ _ h => h) (yi_index _ _ _ rfl rfl rfl ixt (by rfl)) hHeld ?_
        go_frame
        refine held_take 26 120 (.int .u8 (T i)) rfl rfl (by kernel_rfl) (by kernel_rfl) (by kernel_rfl) (fun _ _ _ h => h) (yi_load _ _ rfl rfl ldt (by rfl)) hHeld ?_
        go_frame
        refine held_take 27 121 (.slice (some ⟨gs, 0, none⟩) n n) rfl rfl (by kernel_rfl) (by kernel_rfl) (by kernel_rfl) (fun _ _ _ h => h) (yi_move _ rfl rfl (by rfl)) hHeld ?_
        go_frame
        refine held_take 28 122 (.int .i64 (i : Int)) rfl rfl (by kernel_rfl) (by kernel_rfl) (by kernel_rfl) (fun _ _ _ h => h) (yi_move _ rfl rfl (by rfl)) hHeld ?_
        go_frame
        refine held_take 29 123 (.pointer (some ⟨gs, i, none⟩)) rfl rfl (by kernel_rfl) (by kernel_rfl) (by kernel_rfl) (fun _ _ _ h => h) (yi_index _ _ _ rfl rfl rfl ixs (by rfl)) hHeld ?_
        go_frame
        refine held_take 30 124 (.int .u8 (T i)) rfl rfl (by kernel_rfl) (by kernel_rfl) (by kernel_rfl) (fun _ _ _ h => h) (yi_load _ _ rfl rfl lds (by rfl)) hHeld ?_
        go_frame
        refine held_take 31 125 (.bool false) rfl rfl (by kernel_rfl) (by kernel_rfl) (by kernel_rfl) (fun _ _ _ h => h) (yi_ne8 _ _ _ _ rfl rfl rfl (by simp) (by rfl)) hHeld ?_
        go_frame
        refine held_take 32 126 (.bool false) rfl rfl (by kernel_rfl) (by kernel_rfl) (by kernel_rfl) (fun _ _ _ h => h) (yi_pick _ _ _ rfl rfl rfl (by rfl)) hHeld ?_
        go_frame
        refine wpAnyH_done (by kernel_rfl) ?_ _
        have hb7 := hb6.trans (hHeld.mono hb6.size)
        clear hHeld
        go_wp2
        go_roundw
        case measure => simp [intOf]; omega
        case rel => exact ⟨i + 1, k + 1, by omega, by rw [stands_succ, HC.out, HK.out]; simp, by go_num, by go_num, hb7⟩
    · have hin' : i = n := by omega
      have hkm : k = m := by rw [HK.out, hin', HM.out.1]
      clear hin'
      have hkb : ((k : Int) == (m : Int)) = true := by rw [hkm]; simp
      have HX : Hid (k = m) := hkm
      clear hkm
      go_wp2
      go_ret
      exact ⟨rfl, HB.out.trans (hbel.mono HB.out.size)⟩

end Go.Proofs.Qxb6002372a
