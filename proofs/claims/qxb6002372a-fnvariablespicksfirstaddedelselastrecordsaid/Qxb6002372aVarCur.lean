/-
  (*Store).currentRecords: what it computes: the records that stand for their keys, in order.
-/
import Derived.Test.Qxb6002372aVarOps2
import Derived.Test.Qxb6002372aSort
import Derived.Sort.OwnSortedInts
import Derived.Deep.AppendLies
namespace Go.Proofs.Qxb6002372a
open Go.RowKit

/-- What is known of the records' parts. -/
def Fine (n : Nat) (S : Nat → ByteArray) (G : Nat → List Int) : Prop := ∀ i, i < n → (S i).size ≤ maxLen ∧ G16 (gcells (G i))
def vcs (S : Nat → ByteArray) (G : Nat → List Int) (i : Nat) : List Value := varCells (S i) (gcells (G i)) i
def rcs (S : Nat → ByteArray) (G : Nat → List Int) (T : Nat → Int) (i : Nat) : List Value := recCells (T i) (vcs S G i)
/-- The store's records. -/
def Recs (w : World) (ao : Option Addr) (n : Nat) (S : Nat → ByteArray) (G : Nat → List Int) (T : Nat → Int) : Prop :=
  0 < n → ∃ g0, ao = some ⟨g0, 0, none⟩ ∧ Rw w g0 71 22 n n (rcs S G T)
def keyAt (S : Nat → ByteArray) (G : Nat → List Int) (i : Nat) : ByteArray × List Int := (S i, G i)

section
variable {n : Nat} {S : Nat → ByteArray} {G : Nat → List Int} {T : Nat → Int}
theorem vcs_len (h : Fine n S G) {i : Nat} (hi : i < n) : (vcs S G i).length = 19 := varCells_length (h i hi).2.1 i
theorem vcs_one (h : Fine n S G) {i : Nat} (hi : i < n) : ∀ v ∈ vcs S G i, v.oneCell' = true := varCells_one (h i hi).2 i
theorem rcs_len (h : Fine n S G) {i : Nat} (hi : i < n) : (rcs S G T i).length = 22 := recCells_length (vcs_len h hi)
theorem rcs_one (h : Fine n S G) {i : Nat} (hi : i < n) : ∀ v ∈ rcs S G T i, v.oneCell' = true := recCells_one (vcs_one h hi)

theorem keys_fit (h : Fine n S G) : ∃ KL : Nat → Lit, (∀ i, i < n → keyOf Try.prog 80 (.agg (keyCells (S i) (gcells (G i))).toArray) = some (KL i)) ∧ KeysFit n KL (keyAt S G) := by
  have : Inhabited Lit := ⟨.bool true⟩
  obtain ⟨KL, hKL⟩ := Deep.choose_lt (α := Lit) (n := n) (p := fun i l => keyOf Try.prog 80 (.agg (keyCells (S i) (gcells (G i))).toArray) = some l) (fun i hi => keyOf80 (h i hi).1 (h i hi).2)
  refine ⟨KL, hKL, fun i j hi hj => ⟨fun e => ?_, fun e => ?_⟩, fun i hi => law80.str (hKL i hi)⟩
  · have h1 := hKL i hi
    rw [e] at h1
    obtain ⟨a, b⟩ := key_inj h1 (hKL j hj)
    simp [keyAt, a, b]
  · simp only [keyAt, Prod.mk.injEq] at e
    have h1 := hKL i hi
    rw [e.1, e.2, hKL j hj] at h1
    exact (Option.some.inj h1).symm
end

/-- The indices, as the slice of ints holds them. -/
def ivals (ss : List Nat) : List Int := ss.map fun (j : Nat) => (j : Int)
theorem ivals_len (ss : List Nat) : (ivals ss).length = ss.length := by simp [ivals]

theorem ivals_flat (l : List Nat) : (ivals l).map (Value.int .i64) = (List.range l.length).flatMap fun i => [Value.int .i64 ((l.getD i 0 : Nat) : Int)] := by
  rw [← List.map_eq_flatMap]
  apply List.ext_getElem (by simp [ivals])
  intro i h1 h2
  have h3 : i < l.length := by simpa using h2
  simp [ivals, List.getD_eq_getElem?_getD, List.getElem?_eq_getElem h3]

theorem zero3 (w : World) : (zeroValue 3).run Try.prog w = .ok (.int .i64 0) w := by kernel_rfl
theorem info3 : (Try.prog.info? 3).map (fun i => (i.zero, i.size, i.bytes)) = some (some (.int .i64 0), 1, 8) := by kernel_rfl

set_option maxRecDepth 100000 in
theorem cur_any (w : World) (sb : Nat) (ao : Option Addr) (n cap : Nat) (S : Nat → ByteArray) (G : Nat → List Int) (T : Nat → Int)
    (hsb : w.cell? ⟨sb, 1, none⟩ = some (.slice ao n cap)) (hR : Recs w ao n S G T) (hF : Fine n S G) (hn : n ≤ 4096) :
    Calls Try.prog 51 #[.pointer (some ⟨sb, 0, none⟩)] w fun e w' => ∃ g, e = .returned (.slice (some ⟨g, 0, none⟩) (stands (keyAt S G) T n n).length (stands (keyAt S G) T n n).length) ∧ w.heap.size ≤ g ∧
      Rw w' g 71 22 (stands (keyAt S G) T n n).length (stands (keyAt S G) T n n).length (fun i => rcs S G T ((stands (keyAt S G) T n n).getD i 0)) ∧ Below w.heap.size w w' := by
  obtain ⟨KL, hKL, hfit⟩ := keys_fit hF
  have hsbl : sb < w.heap.size := World.block_lt_of_cell? w _ hsb
  have hmm := @run_makeMap Try.prog
  go_enter Try.func51, Try.ntmps51
  go_wp2
  go_loopw [21] (fun i wr => ∃ (k : Nat) (D : DataW Unit), k ≤ n ∧ i = .int .i64 k ∧ wr.ownsMap Try.prog 80 (plainElem Try.prog 3) w.heap.size k D ∧ MapIs n KL (keyAt S G) T k D ∧ Below w.heap.size w wr) (fun i _ => n - (intOf i).toNat)
  case atStart => exact ⟨0, _, Nat.zero_le _, rfl, World.ownsMap_made _ _ _ _, MapIs.start, below_new w _⟩
  case round =>
    obtain ⟨k, D, hk, rfl, hown, hmap, hbel⟩ := hrel
    by_cases hlt : k < n
    · obtain ⟨g0, hao, hrow⟩ := hR (by omega)
      have hg0 := hrow.lt
      have hr0 : wr.rangeAt g0 (k * 22) (rcs S G T k) := (hrow.below hbel hg0).range k hlt
      have hix := fun w => run_ix (P := Try.prog) Try.underlying67 Try.sizeOf71 hao hlt cap w
      have hix1 : ∀ w, (Instr.indexAt 67 (.slice ao n cap) (.int .i64 (k : Int))).run Try.prog w = .ok (.pointer (some ⟨g0, k * 22, none⟩)) w := fun w => by rw [hix w, Addr.add_mid, Nat.zero_add]
      have HR : Hid (ao = some ⟨g0, 0, none⟩) := hao
      clear hix hao
      go_upto_region 6 with (first
        | ((with_reducible show wpList _ _ _ (⟨_, .load 71 _, _, _, _, _⟩ :: _) _ _); refine wpList_ldn 71 _ rfl g0 (k * 22) (rcs S G T k) _ rfl hr0 Try.underlying71 rfl (by rw [rcs_len hF hlt]; exact size71) (by rfl) ?_)
        | ((with_reducible show wpList _ _ _ (⟨_, .alloc 71, _, _, _, _⟩ :: _) _ _); refine wpList_alG 71 rfl _ Try.zeroValue71 (by rfl) ?_; intro g1 w1 hg1 hz1 hgr1)
        | ((with_reducible show wpList _ _ _ (⟨_, .store 71 _ _, _, _, _, _⟩ :: _) _ _); refine wpList_st0 71 _ _ rfl g1 22 (rcs S G T k) rfl rfl hz1 (rcs_len hF hlt) (rcs_one hF hlt) size71 (by rfl) ?_; intro w2 hra2 hgr2 hs2
           have hv2 : w2.rangeAt g1 3 (vcs S G k) := by simpa using rec_var hra2
           have c9 : w2.cell? ⟨g1, 3, none⟩ = some (.string (S k)) := by simpa using hv2 0 _ rfl
           have r54 : w2.rangeAt g1 4 (gcells (G k)) := by
             have := rangeAt_part hv2 1 16
             rw [vcs, varCells, List.drop_succ_cons, List.drop_zero, ← (hF k hlt).2.1, List.take_left] at this
             exact this)
        | ((with_reducible show wpList _ _ _ (⟨_, .load 54 _, _, _, _, _⟩ :: _) _ _); refine wpList_ldn 54 _ rfl g1 4 (gcells (G k)) _ rfl r54 Try.underlying54 rfl (by rw [(hF k hlt).2.1]; exact size54) (by rfl) ?_)
        | ((with_reducible show wpList _ _ _ (⟨_, .build 80 _, _, _, _, _⟩ :: _) _ _); refine wpList_bd 80 _ rfl [(0, .string (S k)), (1, .agg (gcells (G k)).toArray)] rfl (keyCells (S k) (gcells (G k))) (built80 (S k) (hF k hlt).2.1) (by rfl) ?_)
        | ((with_reducible show wpList _ _ _ (⟨_, .alloc 80, _, _, _, _⟩ :: _) _ _); refine wpList_alG 80 rfl _ Try.zeroValue80 (by rfl) ?_; intro g2 w3 hg2 hz3 hgr3)
        | ((with_reducible show wpList _ _ _ (⟨_, .store 80 _ _, _, _, _, _⟩ :: _) _ _); refine wpList_st0 80 _ _ rfl g2 17 (keyCells (S k) (gcells (G k))) rfl rfl hz3 (keyCells_length (hF k hlt).2.1) (keyCells_one (hF k hlt).2) size80 (by rfl) ?_; intro w4 hra4 hgr4 hs4))
      go_frame
      obtain ⟨eg1, es1⟩ := hg1.out
      obtain ⟨eg2, es2⟩ := hg2.out
      have es3 := hs2.out
      have es4 := hs4.out
      have hlo := hown.lt
      have hbs := hbel.size
      have hown4 : w4.ownsMap Try.prog 80 (plainElem Try.prog 3) w.heap.size k D :=
        (((hown.kept hgr1 (by simp)).kept hgr2 (fun e => by have := Option.some.inj e; omega)).kept hgr3 (by simp)).kept hgr4 (fun e => by have := Option.some.inj e; omega)
      have hb4 : Below w.heap.size w w4 :=
        (((hbel.grown hgr1 hbs (by simp)).grown hgr2 (by omega) (fun j hj => by cases hj; omega)).grown hgr3 (by omega) (by simp)).grown hgr4 (by omega) (fun j hj => by cases hj; omega)
      have csb : w4.cell? ⟨sb, 1, none⟩ = some (.slice ao n cap) := (World.cell?_of_block (hb4.block sb hsbl)).trans hsb
      have hrow4 := hrow.below hb4 hg0
      have hao := HR.out
      have hkl := hKL k hlt
      have hm4 := hmap.1 k hlt
      have HB : Hid (Below w.heap.size w w4 ∧ w.heap.size ≤ w4.heap.size) := ⟨hb4, by omega⟩
      clear hg1 hg2 hs2 hs4 eg1 es1 eg2 es2 es3 es4 hgr1 hgr2 hgr3 hgr4 hz1 hz3 hra2 hv2 c9 r54 hown hbel hbs hlo hr0 hix1 hrow hsb hb4 hmm
      cases hp : pick (keyAt S G) T k (keyAt S G k) with
      | none =>
        rw [hp] at hm4
        obtain ⟨m1, m2⟩ := hm4
        simp only [Option.isSome_none, Option.getD_none] at m1 m2
        have M : Hid (Maps.has D (KL k) = false ∧ D.atKey (KL k) (.lit (.int .i64 0)) = .lit (.int .i64 ((0 : Nat) : Int))) := ⟨m1, m2⟩
        have HA : Hid (ao = some ⟨g0, 0, none⟩) := hao
        have HP : Hid (∀ j, pick (keyAt S G) T k (keyAt S G k) = some j → T j ≠ 63) := fun j hj => by rw [hp] at hj; cases hj
        clear m1 m2 hao hp
        go_wp2_with (first
          | ((with_reducible show wpList _ _ _ (⟨_, .load 80 _, _, _, _, _⟩ :: _) _ _); refine wpList_ldn 80 _ rfl g2 0 (keyCells (S k) (gcells (G k))) _ rfl hra4 Try.underlying80 rfl (by rw [keyCells_length (hF k hlt).2.1]; exact size80) (by rfl) ?_)
          | (at_lookup; refine wpList_look _ _ 78 rfl rfl 80 3 .i64 keyed80 Try.underlying78 Try.underlying3 (zero3 _) w.heap.size k D rfl hown4 _ (KL k) rfl hkl 0 false M.out.2 M.out.1 ?_)
          | (at_mapUpdate; refine wpList_mapUpdate_own _ rfl _ _ _ 78 rfl 80 3 keyed80 Try.underlying78 _ w.heap.size k D rfl hown4 (by unfold maxLen; omega) _ _ (KL k) rfl rfl hkl (.lit (.int .i64 k)) [] (plainElem_int Try.underlying3 (WalkArith.wf_i64 (by omega))) ?_; intro w5 hown5 hgr5))
        go_roundw
        case measure => simp [intOf]; omega
        case rel => exact ⟨k + 1, _, by omega, by go_num, hown5, hmap.put hfit hlt hown4.isMap HP.out, HB.out.1.grown hgr5 HB.out.2 (fun j hj => by cases hj; exact Nat.le_refl _)⟩
      | some j =>
        obtain ⟨hjk, _⟩ := pick_lt hp
        rw [hp] at hm4
        obtain ⟨m1, m2⟩ := hm4
        simp only [Option.isSome_some, Option.getD_some] at m1 m2
        have M : Hid (Maps.has D (KL k) = true ∧ D.atKey (KL k) (.lit (.int .i64 0)) = .lit (.int .i64 (j : Int))) := ⟨m1, m2⟩
        have hjn : j < n := by omega
        have hix := fun w => run_ix (P := Try.prog) Try.underlying67 Try.sizeOf71 hao hjn cap w
        have hix1 : ∀ w, (Instr.indexAt 67 (.slice ao n cap) (.int .i64 (j : Int))).run Try.prog w = .ok (.pointer (some ⟨g0, j * 22, none⟩)) w := fun w => by rw [hix w, Addr.add_mid, Nat.zero_add]
        have cst : w4.cell? ⟨g0, j * 22 + 2, none⟩ = some (.int .u8 (T j)) := rec_state (hrow4.range j hjn)
        have HA : Hid (ao = some ⟨g0, 0, none⟩) := hao
        have HP : Hid (pick (keyAt S G) T k (keyAt S G k) = some j) := hp
        clear m1 m2 hao hp hix
        by_cases hT : T j = 63
        · have hTb : (T j == 63) = true := by simp [hT]
          have HT : Hid (T j = 63) := hT
          clear hT
          go_wp2_with (first
            | ((with_reducible show wpList _ _ _ (⟨_, .load 80 _, _, _, _, _⟩ :: _) _ _); refine wpList_ldn 80 _ rfl g2 0 (keyCells (S k) (gcells (G k))) _ rfl hra4 Try.underlying80 rfl (by rw [keyCells_length (hF k hlt).2.1]; exact size80) (by rfl) ?_)
            | (at_lookup; refine wpList_look _ _ 78 rfl rfl 80 3 .i64 keyed80 Try.underlying78 Try.underlying3 (zero3 _) w.heap.size k D rfl hown4 _ (KL k) rfl hkl j true M.out.2 M.out.1 ?_))
          go_roundw
          case measure => simp [intOf]; omega
          case rel => exact ⟨k + 1, _, by omega, by go_num, hown4.mono (by omega), hmap.keep HP.out HT.out, HB.out.1⟩
        · have hTb : (T j == 63) = false := by simp [hT]
          have HT : Hid (T j ≠ 63) := hT
          have HQ : Hid (∀ j', pick (keyAt S G) T k (keyAt S G k) = some j' → T j' ≠ 63) := fun j' hj' => by rw [HP.out] at hj'; cases hj'; exact HT.out
          clear hT
          go_wp2_with (first
            | ((with_reducible show wpList _ _ _ (⟨_, .load 80 _, _, _, _, _⟩ :: _) _ _); refine wpList_ldn 80 _ rfl g2 0 (keyCells (S k) (gcells (G k))) _ rfl hra4 Try.underlying80 rfl (by rw [keyCells_length (hF k hlt).2.1]; exact size80) (by rfl) ?_)
            | (at_lookup; refine wpList_look _ _ 78 rfl rfl 80 3 .i64 keyed80 Try.underlying78 Try.underlying3 (zero3 _) w.heap.size k D rfl hown4 _ (KL k) rfl hkl j true M.out.2 M.out.1 ?_)
            | (at_mapUpdate; refine wpList_mapUpdate_own _ rfl _ _ _ 78 rfl 80 3 keyed80 Try.underlying78 _ w.heap.size k D rfl hown4 (by unfold maxLen; omega) _ _ (KL k) rfl rfl hkl (.lit (.int .i64 k)) [] (plainElem_int Try.underlying3 (WalkArith.wf_i64 (by omega))) ?_; intro w5 hown5 hgr5))
          go_roundw
          case measure => simp [intOf]; omega
          case rel => exact ⟨k + 1, _, by omega, by go_num, hown5, hmap.put hfit hlt hown4.isMap HQ.out, HB.out.1.grown hgr5 HB.out.2 (fun j hj => by cases hj; exact Nat.le_refl _)⟩
    · have hkn : k = n := by omega
      rw [hkn] at hmap
      have hown0 := hown.mono hk
      have hlo := hown.lt
      have hsz := hown0.size_le
      have HK : Hid (MapIs n KL (keyAt S G) T n D) := hmap
      obtain ⟨i0, hi, hz0, hz1, hz2⟩ := info_parts info3
      clear hmm hmap hkn
      go_wp2_with (first
        | (at_len; refine wpList_len_own _ rfl _ 78 rfl 80 3 Try.underlying78 _ w.heap.size n D rfl hown0 ?_)
        | (at_make; refine wpList_make_own _ rfl _ _ 82 rfl (w.heap.size + 1) 3 i0 _ 1 Try.underlying82 hi hz0 hz1 .i64 .i64 _ (Maps.size D) rfl rfl rfl (by rw [hz2]; omega) (by unfold maxLen; omega) (by omega) ?_; intro w1 hrow1 hg1)
        | (at_range; refine wpList_range_own _ rfl _ 78 rfl 80 3 keyed80 Try.underlying78 _ w.heap.size n D rfl (hown0.kept hg1 (by simp)) ?_; intro w2 hrg2 hg2 hs2))
      go_frame
      have hb2 : Below w.heap.size w w2 := (hbel.grown hg1 hbel.size (by simp)).grown hg2 (Nat.le_trans hbel.size hg1.size) (by simp)
      have hsz2 : w.heap.size + 1 ≤ w2.heap.size := by have := hg1.size; have := hg2.size; omega
      have hrow2 := hrow1.kept hg2 (Or.inr (by simp [Value.ownBlock]))
      have HS : Hid (w.heap.size + 1 ≤ w2.heap.size ∧ w.heap.size + 1 ≤ w1.heap.size) := ⟨hsz2, by have := hg1.size; omega⟩
      clear hsz2 hs2
      go_loopw [9] (fun v wr => ∃ (left : Lit → Bool) (cnt gi m cp : Nat) (ss : List Nat), v = .slice (some ⟨gi, 0, none⟩) m cp ∧ ss.length = m ∧ wr.ranges Try.prog 80 (plainElem Try.prog 3) w.heap.size w1.heap.size n D left cnt ∧ m + cnt ≤ Maps.size D ∧
          wr.ownsRow (w.heap.size + 1) 3 1 (.slice (some ⟨gi, 0, none⟩) m cp) m ((ivals ss).map (Value.int .i64)) ∧ Coll n KL (keyAt S G) T left ss ∧ Below w.heap.size w wr ∧ w.heap.size + 1 ≤ wr.heap.size) (fun _ wr => wr.rangeLeft w.heap.size w1.heap.size)
      case atStart => exact ⟨_, _, _, _, _, [], rfl, rfl, hrg2, by simp, hrow2, Coll.start HK.out, hb2, HS.out.1⟩
      case round =>
        rename_i wq
        obtain ⟨left, cnt, gi, m, cp, ss, rfl, hsm, hrg, hcnt, hrow, hC, hbel2, hB1⟩ := hrel
        go_wp2_with (first
          | (at_next; refine wpList_next_ranges _ rfl _ rfl 80 keyed80 (plainElem Try.prog 3) (fun x : Value => x) (Value.int .i64) (fun key kl _ => ⟨key, rfl⟩) (fun v y hv => by obtain ⟨c, rfl, _⟩ := plainElem_int_inv Try.underlying3 hv; exact ⟨c, rfl⟩) w.heap.size w1.heap.size n _ _ _ rfl hrg ?_ ?_))
        · intro hc0 hl0
          have hst : (ivals ss).mergeSort (fun x y => decide (x ≤ y)) = ivals (stands (keyAt S G) T n n) := hC.fin hl0
          have hml : (stands (keyAt S G) T n n).length = m := by rw [← hC.len hl0, hsm]
          have hc : Calls Try.prog 57 #[.slice (some ⟨gi, 0, none⟩) m cp] wr fun e w' => e = .returned (.tuple #[]) ∧
              w'.ownsRow (w.heap.size + 1) 3 1 (.slice (some ⟨gi, 0, none⟩) m cp) m ((ivals (stands (keyAt S G) T n n)).map (Value.int .i64)) ∧ wr.grownBy w' (some gi) ∧ w.heap.size + 1 ≤ gi := by
            rcases hrow.2 with ⟨hnil, _⟩ | ⟨g', c', cur, hv, hbase, hb, h1, h2, h3, h4⟩
            · cases hnil
            · cases hv
              have hH : Sort.Holds (Value.int .i64) wr gi 0 (ivals ss).toArray := holds_of_blockI hb (by rw [ivals_len, hsm]; simpa using h4)
              have hgl : gi < wr.heap.size := (Array.getElem?_eq_some_iff.1 hb).1
              have := Try.sort_int gi cp (ivals ss) wr hH hgl (by rw [ivals_len, hsm]; omega)
              rw [ivals_len, hsm] at this
              refine this.mono ?_
              rintro e w' ⟨rfl, nn, os, rfl⟩
              rw [hst]
              have hl2 : (ivals (stands (keyAt S G) T n n)).length = (ivals ss).length := by rw [ivals_len, ivals_len, hsm, hml]
              have o1 := ownsRow_sortedI (n := nn) (os := os) (base := w.heap.size + 1) (ss := ivals ss) hl2 hbase hb (by rw [ivals_len, hsm]; exact h1) h2 h3
              rw [ivals_len, hsm] at o1
              exact ⟨rfl, o1, grownBy_sortedI _, hbase⟩
          obtain ⟨i1, z1, hi1, hzz1, hsz1, hby1⟩ := info_any anyinfo71
          have hmn : m ≤ 4096 := by omega
          clear hst hcnt hrg hc0 hl0 hrow hC hi hz0 hz1 hz2 hrg2 hrow1 hrow2 hg1 hg2 hown hown0 hsm hB1
          have HM : Hid ((stands (keyAt S G) T n n).length = m) := hml
          have HX : Hid (k ≤ n ∧ ¬ k < n) := ⟨hk, hlt⟩
          clear hml hk hlt
          go_upto_region 17 with (first
            | (go_at_call 57; refine hc.mono ?_; rintro e w3 ⟨rfl, hrow3, hgr3, hgi⟩)
            | (at_make; refine wpList_mkn rfl _ _ 67 rfl 71 i1 z1 22 88 Try.underlying67 hi1 hzz1 hsz1 hby1 _ m rfl rfl rfl (by omega) (by omega) ?_; intro g3 w4 hg3 hrw3 hb3))
          obtain ⟨eg3, es3⟩ := hg3.out
          obtain ⟨L, hL⟩ : ∃ L : Nat → Nat, L = fun i => (stands (keyAt S G) T n n).getD i 0 := ⟨_, rfl⟩
          have hLn : ∀ q, q < m → L q < n := fun q hq => by
            rw [hL]
            have hq' : q < (stands (keyAt S G) T n n).length := by rw [HM.out]; exact hq
            simp only [List.getD_eq_getElem?_getD, List.getElem?_eq_getElem hq', Option.getD_some]
            exact stands_lt (List.getElem_mem hq')
          have hix3 : 0 < m → Rw w3 gi 3 1 m m (fun i => [.int .i64 (L i : Int)]) := fun h0 => by
            have e : (ivals (stands (keyAt S G) T n n)).map (Value.int .i64) = (List.range m).flatMap (fun i => [.int .i64 (L i : Int)]) := by
              rw [hL, ← HM.out]
              exact ivals_flat _
            rw [e] at hrow3
            obtain ⟨g', hg', _, _, _, hrw⟩ := Rw.of_owns (sz := 1) (f := fun i => [Value.int .i64 (L i : Int)]) h0 (fun i _ => rfl) hrow3
            cases hg'
            exact hrw
          have hb4 : Below w.heap.size w w4 := ((hbel2.grown hgr3 hbel2.size (fun q hq => by cases hq; omega))).trans (hb3.mono (by have := hbel2.size; have := hgr3.size; omega))
          have hg3l : w.heap.size + 1 ≤ g3 ∧ gi ≠ g3 := by
            have h1 := hgr3.size
            have h2 := hbel2.size
            rcases hrow3.2 with ⟨hnil, _⟩ | ⟨g', c', cur, hv, hbase, hb, _⟩
            · cases hnil
            · cases hv
              have := (Array.getElem?_eq_some_iff.1 hb).1
              omega
          have hix4 : 0 < m → Rw w4 gi 3 1 m m (fun i => [.int .i64 (L i : Int)]) := fun h0 => (hix3 h0).later hb3
          have hrw4 := hrw3 (fun i => rcs S G T (L i))
          have HL : Hid (L = fun i => (stands (keyAt S G) T n n).getD i 0) := hL
          have HS4 : Hid (Below w.heap.size w w4 ∧ w.heap.size + 1 ≤ g3 ∧ gi ≠ g3) := ⟨hb4, hg3l.1, hg3l.2⟩
          clear hg3 hrw3 hb3 eg3 es3 hix3 hrow3 hgr3 hb4 hg3l hL hc hb2 hbel2
          go_wp2
          go_loopw [75] (fun i wr => ∃ q : Nat, q ≤ m ∧ i = .int .i64 q ∧ Rw wr g3 71 22 q m (fun i => rcs S G T (L i)) ∧ (0 < m → Rw wr gi 3 1 m m (fun i => [.int .i64 (L i : Int)])) ∧ Below w.heap.size w wr) (fun i _ => m - (intOf i).toNat)
          case atStart => exact ⟨0, Nat.zero_le _, rfl, hrw4, hix4, HS4.out.1⟩
          case round =>
            obtain ⟨q, hq, rfl, hrq, hiq, hbq⟩ := hrel
            by_cases hql : q < m
            · have hi3 := hiq (by omega)
              have hLq := hLn q hql
              obtain ⟨j, hj⟩ : ∃ j, j = L q := ⟨_, rfl⟩
              rw [← hj] at hLq
              have cix : wr.cell? ⟨gi, q, none⟩ = some (.int .i64 (j : Int)) := by rw [hj]; exact hi3.cell1 hql rfl
              obtain ⟨g0, hao, hrow⟩ := hR (by omega)
              have hg0 := hrow.lt
              have csb : wr.cell? ⟨sb, 1, none⟩ = some (.slice ao n cap) := (World.cell?_of_block (hbq.block sb hsbl)).trans hsb
              have hr0 : wr.rangeAt g0 (j * 22) (rcs S G T j) := (hrow.below hbq hg0).range j hLq
              have hix := fun w => run_ix (P := Try.prog) Try.underlying67 Try.sizeOf71 hao hLq cap w
              have hix1 : ∀ w, (Instr.indexAt 67 (.slice ao n cap) (.int .i64 (j : Int))).run Try.prog w = .ok (.pointer (some ⟨g0, j * 22, none⟩)) w := fun w => by rw [hix w, Addr.add_mid, Nat.zero_add]
              have hix2 := fun w => run_ixg (P := Try.prog) Try.underlying67 Try.sizeOf71 g3 hql m w
              have hix5 : ∀ w, (Instr.indexAt 82 (.slice (some ⟨gi, 0, none⟩) m cp) (.int .i64 (q : Int))).run Try.prog w = .ok (.pointer (some ⟨gi, q, none⟩)) w := fun w => by rw [run_ixg (P := Try.prog) Try.underlying82 Try.sizeOf3 gi hql cp w, Nat.mul_one]
              have HA : Hid (ao = some ⟨g0, 0, none⟩) := hao
              have HJ : Hid (j = L q) := hj
              clear hix hao hj hR hsb
              go_wp2_with (first
                | ((with_reducible show wpList _ _ _ (⟨_, .load 71 _, _, _, _, _⟩ :: _) _ _); refine wpList_ldn 71 _ rfl g0 (j * 22) (rcs S G T j) _ rfl hr0 Try.underlying71 rfl (by rw [rcs_len hF hLq]; exact size71) (by rfl) ?_)
                | ((with_reducible show wpList _ _ _ (⟨_, .store 71 _ _, _, _, _, _⟩ :: _) _ _); refine wpList_stn 71 _ _ rfl g3 q 22 (rcs S G T j) rfl rfl hrq hql (rcs_len hF hLq) (rcs_one hF hLq) size71 (by rfl) ?_))
              go_roundw
              case measure => simp [intOf]; omega
              case rel =>
                have e : rcs S G T j = rcs S G T (L q) := by rw [HJ.out]
                rw [e]
                exact ⟨q + 1, by omega, by go_num, hrq.store hql (by rw [← e]; exact rcs_len hF hLq), fun h0 => (hiq h0).setFar HS4.out.2.2 _ _, below_setCells g3 (by have := HS4.out.2.1; omega) _ _ _ hbq⟩
            · have hqm : q = m := by omega
              rw [hqm] at hrq
              clear hqm
              go_wp2
              go_ret
              refine ⟨g3, ?_, by have := HS4.out.2.1; omega, ?_, hbq⟩
              · rw [HM.out]
                rfl
              · have hL := HL.out
                subst hL
                rw [HM.out]
                exact hrq
        · intro x c kl yd yp w3 cnt3 hkey hlk hv hat hrg3 hlt3 hg3 hs3 hen
          obtain ⟨c', ec, ey, _⟩ := plainElem_int_inv Try.underlying3 hv
          have hat' : ∀ zd, D.atKey kl zd = .lit (.int .i64 c) := fun zd => by
            rw [hat zd]
            cases ec
            simp only [Prod.mk.injEq] at ey
            exact ey.1
          obtain ⟨j, hcj, hjn, hC3⟩ := hC.step hfit HK.out hlk hat'
          have hrow3 := hrow.kept hg3 (Or.inr (row_ne_iter hrow hrg).symm)
          have HC : Hid (c = (j : Int)) := hcj
          have hB3 : w.heap.size + 1 ≤ w3.heap.size := by have := hg3.size; omega
          clear hs3 hcj hat hat' hv ec ey
          go_wp2_with (first
            | (at_builtin; refine wpList_append_lies _ rfl _ _ 82 rfl (w.heap.size + 1) 3 i0 (.int .i64 0) 1 8 Try.underlying82 hi hz0 hz1 hz2 rfl (by decide) _ m _ rfl (hrow3.alloc _) ⟨w3.heap.size, 0, none⟩ 1 1 [.int .i64 c] rfl rfl (cell_one_new _ _ _) (by simp [Value.oneCell']) (by omega) (by unfold maxLen; omega) (by omega) (by simp; omega) _ rfl ?_; intro gi' cp' w5 hown5 hgr5 hat5 hlt5; go_frame))
          have hrg5 := (hrg3.alloc (.cells #[.int .i64 c] 3)).kept hgr5 (row_ne_low hrow3 (by omega)) (row_ne_iter hrow3 hrg3)
          go_roundw
          case measure => rw [hrg5.left_eq, hrg.left_eq]; exact hlt3
          case rel =>
            refine ⟨_, cnt3, gi', m + 1, cp', ss ++ [j], rfl, by simp [hsm], hrg5, by omega, ?_, hC3, ?_, ?_⟩
            · rw [HC.out] at hown5
              simpa [ivals] using hown5
            · exact ((hbel2.grown hg3 (by omega) (fun q hq => by cases hq; have := HS.out.2; omega)).alloc (by omega) _).grown hgr5 (by simp; omega) (fun q hq => by have := (hrow3.lt q hq).1; omega)
            · have := hgr5.size; simp at this; omega

end Go.Proofs.Qxb6002372a
