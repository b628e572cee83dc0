/-
  zzBuild: the variables and the states, copied into rows of their own.
-/
import Derived.Test.Qxb6002372aVarHeld
namespace Go.Proofs.Qxb6002372a
open Go.RowKit

set_option maxRecDepth 100000 in
theorem build_any (w : World) (n : Nat) (hn : n ≤ 4096) (S : Nat → ByteArray) (G : Nat → List Int) (T : Nat → Int) (hF : Fine n S G)
    (a0 : Option Addr) (c0 : Nat) (h0 : StrsAt w a0 n S) (a1 : Option Addr) (c1 : Nat) (h1 : GuidsAt w a1 n G) (a2 : Option Addr) (c2 : Nat) (h2 : BytesAt w a2 n T) :
    Calls Try.prog 33 #[.slice a0 n c0, .slice a1 n c1, .slice a2 n c2] w fun e w' => ∃ g h, e = .returned (.tuple #[.slice (some ⟨g, 0, none⟩) n n, .slice (some ⟨h, 0, none⟩) n n]) ∧ w.heap.size ≤ g ∧ w.heap.size ≤ h ∧
      Rw w' g 57 19 n n (vcs S G) ∧ Rw w' h 5 1 n n (fun i => [.int .u8 (T i)]) ∧ Below w.heap.size w w' := by
  obtain ⟨i0, z0, hi, hz, hsz, hby⟩ := info_any anyinfo57
  obtain ⟨i1, z1, hi1, hz1, hsz1, hby1⟩ := info_any anyinfo5
  go_enter Try.func33, Try.ntmps33
  go_upto_region 3 with (first
    | (at_make; refine wpList_mkn rfl _ _ 44 rfl 57 i0 z0 19 64 Try.underlying44 hi hz hsz hby _ n rfl rfl rfl (by omega) (by omega) ?_; intro g w1 hg hrw hb))
  go_upto_region 4 with (first
    | (at_make; refine wpList_mkn rfl _ _ 22 rfl 5 i1 z1 1 1 Try.underlying22 hi1 hz1 hsz1 hby1 _ n rfl rfl rfl (by omega) (by omega) ?_; intro h w2 hh hrw2 hb2))
  obtain ⟨eg, es⟩ := hg.out
  obtain ⟨eh, es2⟩ := hh.out
  have H0 : Hid (Rw w2 g 57 19 0 n (vcs S G) ∧ Rw w2 h 5 1 0 n (fun i => [.int .u8 (T i)]) ∧ w.heap.size ≤ g ∧ w.heap.size ≤ h ∧ g ≠ h ∧ Below w.heap.size w w2) :=
    ⟨(hrw _).later hb2, hrw2 _, by omega, by omega, by omega, hb.trans (hb2.mono (by omega))⟩
  clear hg hrw hb eg es hh hrw2 hb2 eh es2
  go_wp2
  go_loopw [11] (fun i wr => ∃ k : Nat, k ≤ n ∧ i = .int .i64 k ∧ Rw wr g 57 19 k n (vcs S G) ∧ Rw wr h 5 1 k n (fun i => [.int .u8 (T i)]) ∧ Below w.heap.size w wr) (fun i _ => n - (intOf i).toNat)
  case atStart => exact ⟨0, Nat.zero_le _, rfl, H0.out.1, H0.out.2.1, H0.out.2.2.2.2.2⟩
  case round =>
    obtain ⟨k, hk, rfl, hrow, hst, hbel⟩ := hrel
    by_cases hlt : k < n
    · obtain ⟨x, hx, cx, _⟩ := h0 k hlt
      obtain ⟨y, hy, cy⟩ := h1 k hlt
      obtain ⟨z, hz2, cz⟩ := h2 k hlt
      have ix0 : ∀ w, (Instr.indexAt 32 (.slice a0 n c0) (.int .i64 (k : Int))).run Try.prog w = .ok (.pointer (some (x.add k))) w := fun w => by rw [run_ix (P := Try.prog) Try.underlying32 Try.sizeOf9 hx hlt c0 w, Nat.mul_one]
      have ix1 : ∀ w, (Instr.indexAt 41 (.slice a1 n c1) (.int .i64 (k : Int))).run Try.prog w = .ok (.pointer (some (y.add (k * 16)))) w := fun w => run_ix (P := Try.prog) Try.underlying41 Try.sizeOf53 hy hlt c1 w
      have ix2 : ∀ w, (Instr.indexAt 22 (.slice a2 n c2) (.int .i64 (k : Int))).run Try.prog w = .ok (.pointer (some (z.add k))) w := fun w => by rw [run_ix (P := Try.prog) Try.underlying22 Try.sizeOf5 hz2 hlt c2 w, Nat.mul_one]
      have ix3 := fun w => run_ixg (P := Try.prog) Try.underlying44 Try.sizeOf57 g hlt n w
      have ix4 : ∀ w, (Instr.indexAt 22 (.slice (some ⟨h, 0, none⟩) n n) (.int .i64 (k : Int))).run Try.prog w = .ok (.pointer (some ⟨h, k, none⟩)) w := fun w => by rw [run_ixg (P := Try.prog) Try.underlying22 Try.sizeOf5 h hlt n w, Nat.mul_one]
      have HX : Hid (a0 = some x ∧ a1 = some y ∧ a2 = some z) := ⟨hx, hy, hz2⟩
      clear hx hy hz2 h0 h1 h2
      have ld0 : ∀ w', Below w.heap.size w w' → (loadVar 9 (x.add k)).run Try.prog w' = .ok (.string (S k)) w' := fun w' hb => by
        have := cell_below hb cx
        simp [loadVar, Try.isAgg9, this]
      have ld1 : ∀ w', Below w.heap.size w w' → (loadVar 53 (y.add (k * 16))).run Try.prog w' = .ok (.agg (gcells (G k)).toArray) w' := fun w' hb =>
        run_ldg w' _ 53 (gcells (G k)) _ (fun j v hv => cell_below hb (cy j v hv)) Try.underlying53 rfl (by rw [(hF k hlt).2.1]; exact size53)
      go_upto_region 7 with fail
      refine wp_region_held_drew (S := fun w' => Below w.heap.size w w') (by kernel_rfl) hbel.drew (fun hHeld => ?_)
      refine held_take 0 23 (.slice (some ⟨g, 0, none⟩) n n) rfl rfl (by kernel_rfl) (by kernel_rfl) (by kernel_rfl) (fun _ _ _ h => h) (yi_move _ rfl rfl (by rfl)) hHeld ?_
      go_frame
      refine held_take 1 24 (.int .i64 (k : Int)) rfl rfl (by kernel_rfl) (by kernel_rfl) (by kernel_rfl) (fun _ _ _ h => h) (yi_move _ rfl rfl (by rfl)) hHeld ?_
      go_frame
      refine held_take 2 25 (.slice a0 n c0) rfl rfl (by kernel_rfl) (by kernel_rfl) (by kernel_rfl) (fun _ _ _ h => h) (yi_move _ rfl rfl (by rfl)) hHeld ?_
      go_frame
      refine held_take 3 26 (.int .i64 (k : Int)) rfl rfl (by kernel_rfl) (by kernel_rfl) (by kernel_rfl) (fun _ _ _ h => h) (yi_move _ rfl rfl (by rfl)) hHeld ?_
      go_frame
      refine held_take 4 27 (.pointer (some (x.add k))) rfl rfl (by kernel_rfl) (by kernel_rfl) (by kernel_rfl) (fun _ _ _ h => h) (yi_index _ _ _ rfl rfl rfl ix0 (by rfl)) hHeld ?_
      go_frame
      refine held_take 5 28 (.string (S k)) rfl rfl (by kernel_rfl) (by kernel_rfl) (by kernel_rfl) (fun _ _ _ h => h) (yi_load _ _ rfl rfl ld0 (by rfl)) hHeld ?_
      go_frame
      refine held_take 6 29 (.slice a1 n c1) rfl rfl (by kernel_rfl) (by kernel_rfl) (by kernel_rfl) (fun _ _ _ h => h) (yi_move _ rfl rfl (by rfl)) hHeld ?_
      go_frame
      refine held_take 7 30 (.int .i64 (k : Int)) rfl rfl (by kernel_rfl) (by kernel_rfl) (by kernel_rfl) (fun _ _ _ h => h) (yi_move _ rfl rfl (by rfl)) hHeld ?_
      go_frame
      refine held_take 8 31 (.pointer (some (y.add (k * 16)))) rfl rfl (by kernel_rfl) (by kernel_rfl) (by kernel_rfl) (fun _ _ _ h => h) (yi_index _ _ _ rfl rfl rfl ix1 (by rfl)) hHeld ?_
      go_frame
      refine held_take 9 32 (.agg (gcells (G k)).toArray) rfl rfl (by kernel_rfl) (by kernel_rfl) (by kernel_rfl) (fun _ _ _ h => h) (yi_load _ _ rfl rfl ld1 (by rfl)) hHeld ?_
      go_frame
      refine held_take 10 33 (.int .i64 (k : Int)) rfl rfl (by kernel_rfl) (by kernel_rfl) (by kernel_rfl) (fun _ _ _ h => h) (yi_move _ rfl rfl (by rfl)) hHeld ?_
      go_frame
      refine held_take 11 34 (.int .u32 (k : Int)) rfl rfl (by kernel_rfl) (by kernel_rfl) (by kernel_rfl) (fun _ _ _ h => h) (yi_convert _ _ _ rfl rfl (conv32 k (by omega)) (by rfl)) hHeld ?_
      go_frame
      refine held_take 12 35 (.agg (vcs S G k).toArray) rfl rfl (by kernel_rfl) (by kernel_rfl) (by kernel_rfl) (fun _ _ _ h => h) (yi_build _ _ rfl [(0, .string (S k)), (1, .agg (gcells (G k)).toArray), (2, .int .u32 (k : Int))] rfl (built57 (S k) (hF k hlt).2.1 k) (by rfl)) hHeld ?_
      go_frame
      refine held_take 13 36 (.pointer (some ⟨g, k * 19, none⟩)) rfl rfl (by kernel_rfl) (by kernel_rfl) (by kernel_rfl) (fun _ _ _ h => h) (yi_index _ _ _ rfl rfl rfl ix3 (by rfl)) hHeld ?_
      go_frame
      have hrow1 : Rw wr.drew g 57 19 k n (vcs S G) := hrow.of_heap rfl
      refine held_last_store 14 rfl rfl (by kernel_rfl) 57 _ _ rfl ⟨g, k * 19, none⟩ rfl (.agg (vcs S G k).toArray) rfl _ (run_st hrow1 hlt 57 (vcs S G k) (vcs_len hF hlt) (vcs_one hF hlt) size57) (by rfl) (below_setCells g H0.out.2.2.1 _ _ _ hHeld) (by kernel_rfl) ?_
      have hrow2 := hrow1.store hlt (vcs_len hF hlt)
      have hst2 : Rw (wr.drew.setCells g (k * 19) (vcs S G k)) h 5 1 k n (fun i => [.int .u8 (T i)]) := (hst.of_heap (w' := wr.drew) rfl).setFar (Ne.symm H0.out.2.2.2.2.1) _ _
      have hb2 := below_setCells g H0.out.2.2.1 (vcs S G k) (k * 19) _ hHeld
      obtain ⟨w5, hw5⟩ : ∃ w5, w5 = wr.drew.setCells g (k * 19) (vcs S G k) := ⟨_, rfl⟩
      rw [← hw5] at hrow2 hst2 hb2 ⊢
      clear hw5 hHeld hrow hst hbel hrow1
      have cz5 := cell_below hb2 cz
      obtain ⟨u, hu⟩ := hst2.is hlt
      have hfz := hst2.free hlt
      go_wp2
      go_roundw
      case measure => simp [intOf]; omega
      case rel => exact ⟨k + 1, by omega, by go_num, hrow2.setFar1 (a := ⟨h, k, none⟩) H0.out.2.2.2.2.1 _, hst2.store1 hlt rfl, hb2.setCell (p := ⟨h, k, none⟩) H0.out.2.2.2.1 _⟩
    · have hkn : k = n := by omega
      rw [hkn] at hrow hst
      clear hkn
      go_wp2
      go_ret2
      exact ⟨g, h, rfl, H0.out.2.2.1, H0.out.2.2.2.1, hrow, hst, hbel⟩

end Go.Proofs.Qxb6002372a
