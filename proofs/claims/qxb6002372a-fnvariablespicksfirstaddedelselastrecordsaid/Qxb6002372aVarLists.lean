/-
  (*Store).Variables and ZZCurrentRecords: the variables, and the states, of the records that stand.
-/
import Derived.Test.Qxb6002372aVarCur
namespace Go.Proofs.Qxb6002372a
open Go.RowKit

theorem cur_m (w : World) (sb : Nat) (ao : Option Addr) (n cap : Nat) (S : Nat → ByteArray) (G : Nat → List Int) (T : Nat → Int)
    (hsb : w.cell? ⟨sb, 1, none⟩ = some (.slice ao n cap)) (hR : Recs w ao n S G T) (hF : Fine n S G) (hn : n ≤ 4096)
    (m : Nat) (hm : (stands (keyAt S G) T n n).length = m) (L : Nat → Nat) (hL : L = fun i => (stands (keyAt S G) T n n).getD i 0) :
    Calls Try.prog 51 #[.pointer (some ⟨sb, 0, none⟩)] w fun e w' => ∃ g, e = .returned (.slice (some ⟨g, 0, none⟩) m m) ∧ w.heap.size ≤ g ∧ Rw w' g 71 22 m m (fun i => rcs S G T (L i)) ∧ Below w.heap.size w w' := by
  subst hm
  subst hL
  exact cur_any w sb ao n cap S G T hsb hR hF hn

theorem L_lt (n : Nat) (S : Nat → ByteArray) (G : Nat → List Int) (T : Nat → Int) (m : Nat) (hm : (stands (keyAt S G) T n n).length = m) (L : Nat → Nat) (hL : L = fun i => (stands (keyAt S G) T n n).getD i 0) : m ≤ n ∧ ∀ q, q < m → L q < n := by
  subst hm
  subst hL
  refine ⟨stands_le n n, fun q hq => ?_⟩
  simp only [List.getD_eq_getElem?_getD, List.getElem?_eq_getElem hq, Option.getD_some]
  exact stands_lt (List.getElem_mem hq)

set_option maxRecDepth 100000 in
theorem variables_any (w : World) (sb : Nat) (ao : Option Addr) (n cap : Nat) (S : Nat → ByteArray) (G : Nat → List Int) (T : Nat → Int)
    (hsb : w.cell? ⟨sb, 1, none⟩ = some (.slice ao n cap)) (hR : Recs w ao n S G T) (hF : Fine n S G) (hn : n ≤ 4096)
    (m : Nat) (hm : (stands (keyAt S G) T n n).length = m) (L : Nat → Nat) (hL : L = fun i => (stands (keyAt S G) T n n).getD i 0) :
    Calls Try.prog 35 #[.pointer (some ⟨sb, 0, none⟩)] w fun e w' => ∃ g, e = .returned (.slice (some ⟨g, 0, none⟩) m m) ∧ w.heap.size ≤ g ∧ Rw w' g 57 19 m m (fun i => vcs S G (L i)) ∧ Below w.heap.size w w' := by
  obtain ⟨hmn, hLn⟩ := L_lt n S G T m hm L hL
  have hc := cur_m w sb ao n cap S G T hsb hR hF hn m hm L hL
  have HM : Hid ((stands (keyAt S G) T n n).length = m ∧ L = fun i => (stands (keyAt S G) T n n).getD i 0) := ⟨hm, hL⟩
  clear hm hL hR hsb
  obtain ⟨i0, z0, hi, hz, hsz, hby⟩ := info_any anyinfo57
  go_enter Try.func35, Try.ntmps35
  go_upto_region 3 with (first
    | (go_at_call 51; refine hc.mono ?_; rintro e w1 ⟨g1, rfl, hg1, hrw1, hb1⟩)
    | (at_make; refine wpList_mkn rfl _ _ 44 rfl 57 i0 z0 19 64 Try.underlying44 hi hz hsz hby _ m rfl rfl rfl (by omega) (by omega) ?_; intro g w2 hg hrw hb))
  obtain ⟨eg, es⟩ := hg.out
  have hs1 := hb1.size
  have H0 : Hid (Rw w2 g1 71 22 m m (fun i => rcs S G T (L i)) ∧ Rw w2 g 57 19 0 m (fun i => vcs S G (L i)) ∧ w.heap.size ≤ g ∧ Below w.heap.size w w2 ∧ g1 < g ∧ g < w2.heap.size) :=
    ⟨hrw1.later hb, hrw _, by omega, hb1.trans (hb.mono hs1), by have := hrw1.lt; omega, by omega⟩
  clear hg hrw hb eg es hc hg1 hrw1 hb1 hs1
  go_wp2
  go_loopw [14] (fun i wr => ∃ k : Nat, k ≤ m ∧ i = .int .i64 k ∧ Rw wr g1 71 22 m m (fun i => rcs S G T (L i)) ∧ Rw wr g 57 19 k m (fun i => vcs S G (L i)) ∧ Below w.heap.size w wr ∧ g < wr.heap.size) (fun i _ => m - (intOf i).toNat)
  case atStart => exact ⟨0, Nat.zero_le _, rfl, H0.out.1, H0.out.2.1, H0.out.2.2.2.1, H0.out.2.2.2.2.2⟩
  case round =>
    obtain ⟨k, hk, rfl, hrec, hrow, hbel, hgl⟩ := hrel
    by_cases hlt : k < m
    · obtain ⟨j, hj⟩ : ∃ j, j = L k := ⟨_, rfl⟩
      have hLk := hLn k hlt
      rw [← hj] at hLk
      have hr0 : wr.rangeAt g1 (k * 22) (rcs S G T j) := by rw [hj]; exact hrec.range k hlt
      have hi1 := fun w => run_ixg (P := Try.prog) Try.underlying67 Try.sizeOf71 g1 hlt m w
      have hi2 := fun w => run_ixg (P := Try.prog) Try.underlying44 Try.sizeOf57 g hlt m w
      have HJ : Hid (j = L k) := hj
      clear hj
      go_upto_region 6 with (first
        | ((with_reducible show wpList _ _ _ (⟨_, .load 71 _, _, _, _, _⟩ :: _) _ _); refine wpList_ldn 71 _ rfl g1 (k * 22) (rcs S G T j) _ rfl hr0 Try.underlying71 rfl (by rw [rcs_len hF hLk]; exact size71) (by rfl) ?_)
        | ((with_reducible show wpList _ _ _ (⟨_, .alloc 71, _, _, _, _⟩ :: _) _ _); refine wpList_alG 71 rfl _ Try.zeroValue71 (by rfl) ?_; intro g3 w3 hg3 hz3 hgr3)
        | ((with_reducible show wpList _ _ _ (⟨_, .store 71 _ _, _, _, _, _⟩ :: _) _ _); refine wpList_st0 71 _ _ rfl g3 22 (rcs S G T j) rfl rfl hz3 (rcs_len hF hLk) (rcs_one hF hLk) size71 (by rfl) ?_; intro w4 hra4 hgr4 hs4))
      go_frame
      obtain ⟨eg3, es3⟩ := hg3.out
      have es4 := hs4.out
      have hbs := hbel.size
      have hb4 : Below wr.heap.size wr w4 := (below_of_grown hgr3 (by simp) (Nat.le_refl _)).grown hgr4 (by omega) (fun q hq => by cases hq; omega)
      have hv4 : w4.rangeAt g3 3 (vcs S G j) := by simpa using rec_var hra4
      have hrow4 := hrow.later hb4
      have hrec4 := hrec.later hb4
      have HB : Hid (Below w.heap.size w w4 ∧ g < w4.heap.size) := ⟨hbel.trans (hb4.mono hbs), by omega⟩
      clear hg3 hz3 hgr3 hra4 hgr4 hs4 eg3 es3 es4 hbs hb4 hbel hgl hr0 hrow hrec
      go_wp2_with (first
        | ((with_reducible show wpList _ _ _ (⟨_, .load 57 _, _, _, _, _⟩ :: _) _ _); refine wpList_ldn 57 _ rfl g3 3 (vcs S G j) _ rfl hv4 Try.underlying57 rfl (by rw [vcs_len hF hLk]; exact size57) (by rfl) ?_)
        | ((with_reducible show wpList _ _ _ (⟨_, .store 57 _ _, _, _, _, _⟩ :: _) _ _); refine wpList_stn 57 _ _ rfl g k 19 (vcs S G j) rfl rfl hrow4 hlt (vcs_len hF hLk) (vcs_one hF hLk) size57 (by rfl) ?_))
      go_roundw
      case measure => simp [intOf]; omega
      case rel =>
        have e : vcs S G j = vcs S G (L k) := by rw [HJ.out]
        rw [e]
        exact ⟨k + 1, by omega, by go_num, hrec4.setFar (by have := H0.out.2.2.2.2.1; omega) _ _, hrow4.store hlt (by rw [← e]; exact vcs_len hF hLk), below_setCells g H0.out.2.2.1 _ _ _ HB.out.1, by rw [size_setCells]; exact HB.out.2⟩
    · have hkm : k = m := by omega
      rw [hkm] at hrow
      clear hkm
      go_wp2
      go_ret
      exact ⟨g, rfl, H0.out.2.2.1, hrow, hbel⟩

set_option maxRecDepth 100000 in
theorem currents_any (w : World) (sb : Nat) (ao : Option Addr) (n cap : Nat) (S : Nat → ByteArray) (G : Nat → List Int) (T : Nat → Int)
    (hsb : w.cell? ⟨sb, 1, none⟩ = some (.slice ao n cap)) (hR : Recs w ao n S G T) (hF : Fine n S G) (hn : n ≤ 4096)
    (m : Nat) (hm : (stands (keyAt S G) T n n).length = m) (L : Nat → Nat) (hL : L = fun i => (stands (keyAt S G) T n n).getD i 0) :
    Calls Try.prog 36 #[.pointer (some ⟨sb, 0, none⟩)] w fun e w' => ∃ g h, e = .returned (.tuple #[.slice (some ⟨g, 0, none⟩) m m, .slice (some ⟨h, 0, none⟩) m m]) ∧ w.heap.size ≤ g ∧ w.heap.size ≤ h ∧
    Rw w' g 57 19 m m (fun i => vcs S G (L i)) ∧ Rw w' h 5 1 m m (fun i => [.int .u8 (T (L i))]) ∧ Below w.heap.size w w' := by
  obtain ⟨hmn, hLn⟩ := L_lt n S G T m hm L hL
  have hc := cur_m w sb ao n cap S G T hsb hR hF hn m hm L hL
  have HM : Hid ((stands (keyAt S G) T n n).length = m ∧ L = fun i => (stands (keyAt S G) T n n).getD i 0) := ⟨hm, hL⟩
  clear hm hL hR hsb
  obtain ⟨i0, z0, hi, hz, hsz, hby⟩ := info_any anyinfo5
  go_enter Try.func36, Try.ntmps36
  go_upto_region 3 with (first
    | (go_at_call 51; refine hc.mono ?_; rintro e w1 ⟨g1, rfl, hg1, hrw1, hb1⟩)
    | (at_make; refine wpList_mkn rfl _ _ 22 rfl 5 i0 z0 1 1 Try.underlying22 hi hz hsz hby _ m rfl rfl rfl (by omega) (by omega) ?_; intro g w2 hg hrw hb))
  obtain ⟨eg, es⟩ := hg.out
  have hs1 := hb1.size
  have H0 : Hid (Rw w2 g1 71 22 m m (fun i => rcs S G T (L i)) ∧ Rw w2 g 5 1 0 m (fun i => [.int .u8 (T (L i))]) ∧ w.heap.size ≤ g ∧ Below w.heap.size w w2 ∧ g1 < g ∧ g < w2.heap.size) :=
    ⟨hrw1.later hb, hrw _, by omega, hb1.trans (hb.mono hs1), by have := hrw1.lt; omega, by omega⟩
  clear hg hrw hb eg es hc hg1 hrw1 hb1 hs1
  go_wp2
  go_loopw [14] (fun i wr => ∃ k : Nat, k ≤ m ∧ i = .int .i64 k ∧ Rw wr g1 71 22 m m (fun i => rcs S G T (L i)) ∧ Rw wr g 5 1 k m (fun i => [.int .u8 (T (L i))]) ∧ Below w.heap.size w wr) (fun i _ => m - (intOf i).toNat)
  case atStart => exact ⟨0, Nat.zero_le _, rfl, H0.out.1, H0.out.2.1, H0.out.2.2.2.1⟩
  case round =>
    obtain ⟨k, hk, rfl, hrec, hrow, hbel⟩ := hrel
    by_cases hlt : k < m
    · have cst : wr.cell? ⟨g1, k * 22 + 2, none⟩ = some (.int .u8 (T (L k))) := rec_state (hrec.range k hlt)
      have hi1 := fun w => run_ixg (P := Try.prog) Try.underlying67 Try.sizeOf71 g1 hlt m w
      have hi2 : ∀ w, (Instr.indexAt 22 (.slice (some ⟨g, 0, none⟩) m m) (.int .i64 (k : Int))).run Try.prog w = .ok (.pointer (some ⟨g, k, none⟩)) w := fun w => by rw [run_ixg (P := Try.prog) Try.underlying22 Try.sizeOf5 g hlt m w, Nat.mul_one]
      obtain ⟨u, hu⟩ := hrow.is hlt
      have hfz := hrow.free hlt
      go_wp2
      go_roundw
      case measure => simp [intOf]; omega
      case rel => exact ⟨k + 1, by omega, by go_num, hrec.setFar1 (a := ⟨g, k, none⟩) (by have := H0.out.2.2.2.2.1; show g1 ≠ g; omega) _, hrow.store1 hlt rfl, hbel.setCell (p := ⟨g, k, none⟩) H0.out.2.2.1 _⟩
    · have hkm : k = m := by omega
      rw [hkm] at hrow
      clear hkm
      have hcv := vars_any wr g1 m m (fun i => T (L i)) (fun i => vcs S G (L i)) (fun i hi => ⟨vcs_len hF (hLn i hi), vcs_one hF (hLn i hi)⟩) (by omega) hrec
      go_wp2_with (go_at_call 52; refine hcv.mono ?_; rintro e w3 ⟨g3, rfl, hg3, hrw3, hb3⟩)
      go_ret2
      exact ⟨g3, g, rfl, by have := hbel.size; omega, H0.out.2.2.1, hrw3, hrow.later hb3, hbel.trans (hb3.mono hbel.size)⟩
end Go.Proofs.Qxb6002372a
