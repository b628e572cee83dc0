/-
  zzChosen: the brute-force rule.
-/
import Derived.Test.Qxb6002372aVarStore
namespace Go.Proofs.Qxb6002372a
open Go.RowKit

theorem clear_succ {κ : Type} [DecidableEq κ] {key : Nat → κ} {T : Nat → Int} {i j : Nat} (h : clear key T i j)
    (hj : j ≠ i → key i = key j → ¬ (T i = 63 ∧ j < i ∧ T j = 63) ∧ ¬ (T i ≠ 63 ∧ T j = 63) ∧ ¬ (T i ≠ 63 ∧ i < j)) : clear key T i (j + 1) := fun m hm hne he => by
  by_cases e : m = j
  · subst e; exact hj hne he
  · exact h m (by omega) hne he

theorem chosen_not {κ : Type} [DecidableEq κ] {key : Nat → κ} {T : Nat → Int} {n i j : Nat} (hi : i < n) (hj : j < n) (hne : j ≠ i) (he : key i = key j)
    (hv : (T i = 63 ∧ j < i ∧ T j = 63) ∨ (T i ≠ 63 ∧ T j = 63) ∨ (T i ≠ 63 ∧ i < j)) : chosen key T n i = false := by
  cases hc : chosen key T n i with
  | false => rfl
  | true =>
    obtain ⟨a, b, c⟩ := (chosen_iff hi).1 hc j hj hne he
    rcases hv with h | h | h
    · exact absurd h a
    · exact absurd h b
    · exact absurd h c

theorem yi_eqi {P : Program} {ops : Array Oper} {S : World → Prop} {o : Oper} {a : Act} (t ty : TypeId) (x y : Operand) (ho : o.op = .binOp .eql t x y ty) {A B : Int} (hx : a.eval x = .int .i64 A) (hy : a.eval y = .int .i64 B) {b : Bool} (hb : (A == B) = b)
    (hw : Region.wanted o (yielded ops a.tmps) = true) : YieldsIf P ops S o (.bool b) a :=
  .inl ⟨hw, fun w _ => by
    unfold execOp
    simp only [ho, hx, hy, ← hb]
    rfl⟩

set_option maxRecDepth 100000 in
set_option maxHeartbeats 1000000 in
theorem chosen_any (w : World) (n : Nat) (hn : n ≤ 4096) (S : Nat → ByteArray) (G : Nat → List Int) (T : Nat → Int) (hF : Fine n S G) (gv gs : Nat) (hV : Rw w gv 57 19 n n (vcs S G)) (hS : Rw w gs 5 1 n n (fun i => [.int .u8 (T i)])) (i : Nat) (hi : i < n) :
    Calls Try.prog 37 #[.slice (some ⟨gv, 0, none⟩) n n, .slice (some ⟨gs, 0, none⟩) n n, .int .i64 (i : Int)] w fun e w' => e = .returned (.bool (chosen (keyAt S G) T n i)) ∧ Below w.heap.size w w' := by
  obtain ⟨A, hA⟩ : ∃ A, (T i == 63) = A := ⟨_, rfl⟩
  have hAp : Hid (A = true ↔ T i = 63) := by rw [← hA]; exact beq_iff_eq
  have cst := hS.cell1 hi rfl
  have ixs : ∀ w, (Instr.indexAt 22 (.slice (some ⟨gs, 0, none⟩) n n) (.int .i64 (i : Int))).run Try.prog w = .ok (.pointer (some ⟨gs, i, none⟩)) w := fun w => by rw [run_ixg (P := Try.prog) Try.underlying22 Try.sizeOf5 gs hi n w, Nat.mul_one]
  have ixi := fun w => run_ixg (P := Try.prog) Try.underlying44 Try.sizeOf57 gv hi n w
  have ldi : ∀ w', Below w.heap.size w w' → (loadVar 57 ⟨gv, i * 19, none⟩).run Try.prog w' = .ok (.agg (vcs S G i).toArray) w' := fun w' hb =>
    run_ld gv (i * 19) 57 (vcs S G i) _ ((hV.later hb).range i hi) Try.underlying57 rfl (by rw [vcs_len hF hi]; exact size57)
  go_enter Try.func37, Try.ntmps37
  go_wp2
  go_loopw [8] (fun v wr => ∃ j : Nat, j ≤ n ∧ v = .int .i64 j ∧ clear (keyAt S G) T i j ∧ Below w.heap.size w wr) (fun v _ => n - (intOf v).toNat)
  case atStart => exact ⟨0, Nat.zero_le _, rfl, fun j hj => by omega, Below.refl _ _⟩
  case round =>
    obtain ⟨j, hj, rfl, hcl, hbel⟩ := hrel
    by_cases hlt : j < n
    · have HCL : Hid (clear (keyAt S G) T i j) := hcl
      clear hcl
      go_upto_region 5 with fail
      refine wp_region_held_drew (S := fun w' => Below w.heap.size w w') (by kernel_rfl) hbel.drew (fun hHeld => ?_)
      by_cases he : j = i
      · have heq : ((j : Int) == (i : Int)) = true := by simp [he]
        have HE : Hid (j = i) := he
        clear he
        refine held_take 0 20 (.int .i64 (j : Int)) rfl rfl (by kernel_rfl) (by kernel_rfl) (by kernel_rfl) (fun _ _ _ h => h) (yi_move _ rfl rfl (by rfl)) hHeld ?_
        go_frame
        refine held_take 1 21 (.int .i64 (i : Int)) rfl rfl (by kernel_rfl) (by kernel_rfl) (by kernel_rfl) (fun _ _ _ h => h) (yi_move _ rfl rfl (by rfl)) hHeld ?_
        go_frame
        refine held_take 2 22 (.bool true) rfl rfl (by kernel_rfl) (by kernel_rfl) (by kernel_rfl) (fun _ _ _ h => h) (yi_eqi _ _ _ _ rfl rfl rfl heq (by rfl)) hHeld ?_
        go_frame
        refine held_take 3 23 (.bool true) rfl rfl (by kernel_rfl) (by kernel_rfl) (by kernel_rfl) (fun _ _ _ h => h) (yi_move _ rfl rfl (by rfl)) hHeld ?_
        go_frame
        refine held_take 4 24 (undef) rfl rfl (by kernel_rfl) (by kernel_rfl) (by kernel_rfl) (fun _ _ _ h => h) (yi_skip rfl (by rfl)) hHeld ?_
        go_frame
        refine held_take 5 25 (undef) rfl rfl (by kernel_rfl) (by kernel_rfl) (by kernel_rfl) (fun _ _ _ h => h) (yi_skip rfl (by rfl)) hHeld ?_
        go_frame
        refine held_take 6 26 (undef) rfl rfl (by kernel_rfl) (by kernel_rfl) (by kernel_rfl) (fun _ _ _ h => h) (yi_skip rfl (by rfl)) hHeld ?_
        go_frame
        refine held_take 7 27 (undef) rfl rfl (by kernel_rfl) (by kernel_rfl) (by kernel_rfl) (fun _ _ _ h => h) (yi_skip rfl (by rfl)) hHeld ?_
        go_frame
        refine held_take 8 28 (undef) rfl rfl (by kernel_rfl) (by kernel_rfl) (by kernel_rfl) (fun _ _ _ h => h) (yi_skip rfl (by rfl)) hHeld ?_
        go_frame
        refine held_take 9 29 (undef) rfl rfl (by kernel_rfl) (by kernel_rfl) (by kernel_rfl) (fun _ _ _ h => h) (yi_skip rfl (by rfl)) hHeld ?_
        go_frame
        refine held_take 10 30 (undef) rfl rfl (by kernel_rfl) (by kernel_rfl) (by kernel_rfl) (fun _ _ _ h => h) (yi_skip rfl (by rfl)) hHeld ?_
        go_frame
        refine held_take 11 31 (undef) rfl rfl (by kernel_rfl) (by kernel_rfl) (by kernel_rfl) (fun _ _ _ h => h) (yi_skip rfl (by rfl)) hHeld ?_
        go_frame
        refine held_take 12 32 (undef) rfl rfl (by kernel_rfl) (by kernel_rfl) (by kernel_rfl) (fun _ _ _ h => h) (yi_skip rfl (by rfl)) hHeld ?_
        go_frame
        refine held_take 13 33 (undef) rfl rfl (by kernel_rfl) (by kernel_rfl) (by kernel_rfl) (fun _ _ _ h => h) (yi_skip rfl (by rfl)) hHeld ?_
        go_frame
        refine held_take 14 34 (.bool true) rfl rfl (by kernel_rfl) (by kernel_rfl) (by kernel_rfl) (fun _ _ _ h => h) (yi_pick _ _ _ rfl rfl rfl (by rfl)) hHeld ?_
        go_frame
        refine wpAnyH_done (by kernel_rfl) ?_ _
        have HB : Hid (Below w.heap.size w wr.drew) := hHeld
        clear hHeld hbel heq
        go_wp2
        go_roundw
        case measure => simp [intOf]; omega
        case rel => exact ⟨j + 1, by omega, by go_num, clear_succ HCL.out (fun h => absurd HE.out h), HB.out⟩
      · have heq : ((j : Int) == (i : Int)) = false := by rw [natInt_beq]; simpa using he
        have ixj := fun w => run_ixg (P := Try.prog) Try.underlying44 Try.sizeOf57 gv hlt n w
        have ldj : ∀ w', Below w.heap.size w w' → (loadVar 57 ⟨gv, j * 19, none⟩).run Try.prog w' = .ok (.agg (vcs S G j).toArray) w' := fun w' hb =>
          run_ld gv (j * 19) 57 (vcs S G j) _ ((hV.later hb).range j hlt) Try.underlying57 rfl (by rw [vcs_len hF hlt]; exact size57)
        have HE : Hid (j ≠ i) := he
        clear he
        refine held_take 0 20 (.int .i64 (j : Int)) rfl rfl (by kernel_rfl) (by kernel_rfl) (by kernel_rfl) (fun _ _ _ h => h) (yi_move _ rfl rfl (by rfl)) hHeld ?_
        go_frame
        refine held_take 1 21 (.int .i64 (i : Int)) rfl rfl (by kernel_rfl) (by kernel_rfl) (by kernel_rfl) (fun _ _ _ h => h) (yi_move _ rfl rfl (by rfl)) hHeld ?_
        go_frame
        refine held_take 2 22 (.bool false) rfl rfl (by kernel_rfl) (by kernel_rfl) (by kernel_rfl) (fun _ _ _ h => h) (yi_eqi _ _ _ _ rfl rfl rfl heq (by rfl)) hHeld ?_
        go_frame
        refine held_take 3 23 (.bool false) rfl rfl (by kernel_rfl) (by kernel_rfl) (by kernel_rfl) (fun _ _ _ h => h) (yi_move _ rfl rfl (by rfl)) hHeld ?_
        go_frame
        refine held_take 4 24 (.slice (some ⟨gv, 0, none⟩) n n) rfl rfl (by kernel_rfl) (by kernel_rfl) (by kernel_rfl) (fun _ _ _ h => h) (yi_move _ rfl rfl (by rfl)) hHeld ?_
        go_frame
        refine held_take 5 25 (.int .i64 (i : Int)) rfl rfl (by kernel_rfl) (by kernel_rfl) (by kernel_rfl) (fun _ _ _ h => h) (yi_move _ rfl rfl (by rfl)) hHeld ?_
        go_frame
        refine held_take 6 26 (.pointer (some ⟨gv, i * 19, none⟩)) rfl rfl (by kernel_rfl) (by kernel_rfl) (by kernel_rfl) (fun _ _ _ h => h) (yi_index _ _ _ rfl rfl rfl ixi (by rfl)) hHeld ?_
        go_frame
        refine held_take 7 27 (.agg (vcs S G i).toArray) rfl rfl (by kernel_rfl) (by kernel_rfl) (by kernel_rfl) (fun _ _ _ h => h) (yi_load _ _ rfl rfl ldi (by rfl)) hHeld ?_
        go_frame
        refine held_take 8 28 (.slice (some ⟨gv, 0, none⟩) n n) rfl rfl (by kernel_rfl) (by kernel_rfl) (by kernel_rfl) (fun _ _ _ h => h) (yi_move _ rfl rfl (by rfl)) hHeld ?_
        go_frame
        refine held_take 9 29 (.int .i64 (j : Int)) rfl rfl (by kernel_rfl) (by kernel_rfl) (by kernel_rfl) (fun _ _ _ h => h) (yi_move _ rfl rfl (by rfl)) hHeld ?_
        go_frame
        refine held_take 10 30 (.pointer (some ⟨gv, j * 19, none⟩)) rfl rfl (by kernel_rfl) (by kernel_rfl) (by kernel_rfl) (fun _ _ _ h => h) (yi_index _ _ _ rfl rfl rfl ixj (by rfl)) hHeld ?_
        go_frame
        refine held_take 11 31 (.agg (vcs S G j).toArray) rfl rfl (by kernel_rfl) (by kernel_rfl) (by kernel_rfl) (fun _ _ _ h => h) (yi_load _ _ rfl rfl ldj (by rfl)) hHeld ?_
        go_frame
        refine held_one 12 rfl (by kernel_rfl) (by rfl) (fun K hK => ?_)
        refine wp_fn 42 #[.agg (vcs S G i).toArray, .agg (vcs S G j).toArray] (by go_simp) 32 rfl (samekey_any (S i) (S j) (G i) (G j) i j (hF i hi).2 (hF j hlt).2 _) (fun e w' hR => ?_)
        obtain ⟨rfl, hb'⟩ := hR
        have hHeld2 : Below w.heap.size w w' := hHeld.trans (hb'.mono hHeld.size)
        refine ⟨_, rfl, hK _ _ hHeld2 ?_⟩
        obtain ⟨sm, hsm⟩ : ∃ sm, decide (S i = S j ∧ G i = G j) = sm := ⟨_, rfl⟩
        rw [hsm]
        have hkey : Hid (sm = true ↔ keyAt S G i = keyAt S G j) := by
          rw [← hsm]
          show _ ↔ _
          simp [keyAt]
        clear hHeld hK hb' hbel heq hsm
        have hHeld := hHeld2
        clear hHeld2
        go_frame
        have csj := (hS.later hHeld).cell1 hlt rfl
        have ixt : ∀ w, (Instr.indexAt 22 (.slice (some ⟨gs, 0, none⟩) n n) (.int .i64 (j : Int))).run Try.prog w = .ok (.pointer (some ⟨gs, j, none⟩)) w := fun w => by rw [run_ixg (P := Try.prog) Try.underlying22 Try.sizeOf5 gs hlt n w, Nat.mul_one]
        obtain ⟨Bv, hB⟩ : ∃ Bv, (T j == 63) = Bv := ⟨_, rfl⟩
        have hBp : Hid (Bv = true ↔ T j = 63) := by rw [← hB]; exact beq_iff_eq
        cases sm
        · refine held_take 13 33 (.bool true) rfl rfl (by kernel_rfl) (by kernel_rfl) (by kernel_rfl) (fun _ _ _ h => h) (yi_not _ _ rfl rfl rfl (by rfl)) hHeld ?_
          go_frame
          refine held_take 14 34 (.bool true) rfl rfl (by kernel_rfl) (by kernel_rfl) (by kernel_rfl) (fun _ _ _ h => h) (yi_pick _ _ _ rfl rfl rfl (by rfl)) hHeld ?_
          go_frame
          refine wpAnyH_done (by kernel_rfl) ?_ _
          have HB : Hid (Below w.heap.size w w') := hHeld
          clear hHeld
          go_wp2
          go_roundw
          case measure => simp [intOf]; omega
          case rel => exact ⟨j + 1, by omega, by go_num, clear_succ HCL.out (fun _ he => by have := hkey.out.2 he; cases this), HB.out⟩
        · refine held_take 13 33 (.bool false) rfl rfl (by kernel_rfl) (by kernel_rfl) (by kernel_rfl) (fun _ _ _ h => h) (yi_not _ _ rfl rfl rfl (by rfl)) hHeld ?_
          go_frame
          refine held_take 14 34 (.bool false) rfl rfl (by kernel_rfl) (by kernel_rfl) (by kernel_rfl) (fun _ _ _ h => h) (yi_pick _ _ _ rfl rfl rfl (by rfl)) hHeld ?_
          go_frame
          refine wpAnyH_done (by kernel_rfl) ?_ _
          have HB : Hid (Below w.heap.size w w') := hHeld
          have HK : Hid (keyAt S G i = keyAt S G j) := hkey.out.1 rfl
          clear hHeld
          cases A
          · have HA : Hid (T i ≠ 63) := fun h => by have := hAp.out.2 h; cases this
            cases Bv
            · have HBv : Hid (T j ≠ 63) := fun h => by have := hBp.out.2 h; cases this
              by_cases hij : i < j
              · go_wp2
                go_ret
                exact ⟨by rw [chosen_not hi hlt HE.out HK.out (.inr (.inr ⟨HA.out, hij⟩))]; rfl, HB.out⟩
              · go_wp2
                go_roundw
                case measure => simp [intOf]; omega
                case rel => exact ⟨j + 1, by omega, by go_num, clear_succ HCL.out (fun _ _ => ⟨fun h => HA.out h.1, fun h => HBv.out h.2, fun h => hij h.2⟩), HB.out⟩
            · have HBv : Hid (T j = 63) := hBp.out.1 rfl
              go_wp2
              go_ret
              exact ⟨by rw [chosen_not hi hlt HE.out HK.out (.inr (.inl ⟨HA.out, HBv.out⟩))]; rfl, HB.out⟩
          · have HA : Hid (T i = 63) := hAp.out.1 rfl
            by_cases hij : j < i
            · cases Bv
              · have HBv : Hid (T j ≠ 63) := fun h => by have := hBp.out.2 h; cases this
                go_wp2
                go_roundw
                case measure => simp [intOf]; omega
                case rel => exact ⟨j + 1, by omega, by go_num, clear_succ HCL.out (fun _ _ => ⟨fun h => HBv.out h.2.2, fun h => h.1 HA.out, fun h => h.1 HA.out⟩), HB.out⟩
              · have HBv : Hid (T j = 63) := hBp.out.1 rfl
                go_wp2
                go_ret
                exact ⟨by rw [chosen_not hi hlt HE.out HK.out (.inl ⟨HA.out, hij, HBv.out⟩)]; rfl, HB.out⟩
            · go_wp2
              go_roundw
              case measure => simp [intOf]; omega
              case rel => exact ⟨j + 1, by omega, by go_num, clear_succ HCL.out (fun _ _ => ⟨fun h => hij h.2.1, fun h => h.1 HA.out, fun h => h.1 HA.out⟩), HB.out⟩
    · have hjn : j = n := by omega
      rw [hjn] at hcl
      have hch := (chosen_iff hi).2 hcl
      go_wp2
      go_ret
      exact ⟨by rw [hch]; rfl, hbel⟩

end Go.Proofs.Qxb6002372a
