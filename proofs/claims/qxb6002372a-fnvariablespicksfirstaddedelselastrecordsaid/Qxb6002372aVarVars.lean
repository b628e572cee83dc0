/-
  zzVars: the variables of a row of records.
-/
import Derived.Test.Qxb6002372aVarSame
namespace Go.Proofs.Qxb6002372a
open Go.RowKit

theorem run_ixg {P : Program} {t e : TypeId} {sz : Nat} (ht : P.underlying t = some (.slice e)) (hs : ∀ w, (sizeOf e).run P w = .ok sz w) (g : Nat) {n k : Nat} (hk : k < n) (cap : Nat) (w : World) :
    (Instr.indexAt t (.slice (some ⟨g, 0, none⟩) n cap) (.int .i64 (k : Int))).run P w = .ok (.pointer (some ⟨g, k * sz, none⟩)) w := by
  rw [run_ix ht hs rfl hk cap w, Addr.add_mid, Nat.zero_add]

theorem info57 : (Try.prog.info? 57).map (fun i => (i.zero, i.size, i.bytes)) = some (some (.agg #[.string ⟨#[]⟩, .int .u8 0, .int .u8 0, .int .u8 0, .int .u8 0, .int .u8 0, .int .u8 0, .int .u8 0, .int .u8 0, .int .u8 0, .int .u8 0, .int .u8 0, .int .u8 0, .int .u8 0, .int .u8 0, .int .u8 0, .int .u8 0, .int .u32 0, .slice none 0 0]), 19, 64) := by kernel_rfl
theorem info71 : (Try.prog.info? 71).map (fun i => (i.size, i.bytes)) = some (22, 88) := by kernel_rfl
theorem info5 : (Try.prog.info? 5).map (fun i => (i.zero, i.size, i.bytes)) = some (some (.int .u8 0), 1, 1) := by kernel_rfl

theorem info_any {e : TypeId} {sz bytes : Nat} (h : (Try.prog.info? e).map (fun i => (i.zero.isSome, i.size, i.bytes)) = some (true, sz, bytes)) : ∃ i z, Try.prog.info? e = some i ∧ i.zero = some z ∧ i.size = sz ∧ i.bytes = bytes := by
  obtain ⟨i, hi, h2⟩ := Option.map_eq_some_iff.1 h
  simp only [Prod.mk.injEq] at h2
  obtain ⟨z, hz⟩ := Option.isSome_iff_exists.1 h2.1
  exact ⟨i, z, hi, hz, h2.2.1, h2.2.2⟩
theorem anyinfo57 : (Try.prog.info? 57).map (fun i => (i.zero.isSome, i.size, i.bytes)) = some (true, 19, 64) := by kernel_rfl
theorem anyinfo71 : (Try.prog.info? 71).map (fun i => (i.zero.isSome, i.size, i.bytes)) = some (true, 22, 88) := by kernel_rfl
theorem anyinfo5 : (Try.prog.info? 5).map (fun i => (i.zero.isSome, i.size, i.bytes)) = some (true, 1, 1) := by kernel_rfl

theorem rec_var {w : World} {b o : Nat} {t : Int} {cs : List Value} (h : w.rangeAt b o (recCells t cs)) : w.rangeAt b (o + 3) cs := fun j v hv => by
  have := h (3 + j) v (by rw [recCells, Nat.add_comm]; exact hv)
  rwa [← Nat.add_assoc] at this
theorem rec_state {w : World} {b o : Nat} {t : Int} {cs : List Value} (h : w.rangeAt b o (recCells t cs)) : w.cell? ⟨b, o + 2, none⟩ = some (.int .u8 t) := h 2 _ rfl

/-- What is known of the cells of the variables in a row. -/
def Vs (n : Nat) (V : Nat → List Value) : Prop := ∀ i, i < n → (V i).length = 19 ∧ ∀ v ∈ V i, v.oneCell' = true

set_option maxRecDepth 100000 in
theorem vars_any (w : World) (g0 m c : Nat) (T : Nat → Int) (V : Nat → List Value) (hV : Vs m V) (hm : m ≤ 4096) (hR : Rw w g0 71 22 m m (fun i => recCells (T i) (V i))) :
    Calls Try.prog 52 #[.slice (some ⟨g0, 0, none⟩) m c] w fun e w' => ∃ g, e = .returned (.slice (some ⟨g, 0, none⟩) m m) ∧ w.heap.size ≤ g ∧ Rw w' g 57 19 m m V ∧ Below w.heap.size w w' := by
  obtain ⟨i0, z0, hi, hz, hsz, hby⟩ := info_any anyinfo57
  go_enter Try.func52, Try.ntmps52
  go_upto_region 2 with (first | (at_make; refine wpList_mkn rfl _ _ 44 rfl 57 i0 z0 19 64 Try.underlying44 hi hz hsz hby _ m rfl rfl rfl (by omega) (by omega) ?_; intro g w1 hg hrw hb))
  obtain ⟨eg, es⟩ := hg.out
  have H0 : Hid (Rw w1 g 57 19 0 m V ∧ w.heap.size ≤ g ∧ Below w.heap.size w w1 ∧ g0 < w.heap.size) := ⟨hrw V, by omega, hb, hR.lt⟩
  clear hg hrw hb eg es
  go_wp2
  go_loopw [10] (fun i wr => ∃ k : Nat, k ≤ m ∧ i = .int .i64 k ∧ Rw wr g 57 19 k m V ∧ Below w.heap.size w wr) (fun i _ => m - (intOf i).toNat)
  case atStart => exact ⟨0, Nat.zero_le _, rfl, H0.out.1, H0.out.2.2.1⟩
  case round =>
    obtain ⟨k, hk, rfl, hrow, hbel⟩ := hrel
    obtain ⟨_, hgg, _, hg0⟩ := H0.out
    by_cases hlt : k < m
    · have hr0 : wr.rangeAt g0 (k * 22 + 3) (V k) := rec_var ((hR.below hbel hg0).range k hlt)
      have hi1 := fun w => run_ixg (P := Try.prog) Try.underlying67 Try.sizeOf71 g0 hlt c w
      have hi2 := fun w => run_ixg (P := Try.prog) Try.underlying44 Try.sizeOf57 g hlt m w
      have HL : Hid ((V k).length = 19) := (hV k hlt).1
      go_wp2_with (first | (refine wpList_ldn 57 _ rfl g0 (k * 22 + 3) (V k) _ rfl hr0 Try.underlying57 rfl (by rw [HL.out]; exact size57) (by rfl) ?_) | (refine wpList_stn 57 _ _ rfl g k 19 (V k) rfl rfl hrow hlt HL.out (hV k hlt).2 size57 (by rfl) ?_))
      go_roundw
      case measure => simp [intOf]; omega
      case rel => exact ⟨k + 1, by omega, by go_num, hrow.store hlt HL.out, below_setCells g hgg _ _ _ hbel⟩
    · have hkm : k = m := by omega
      subst hkm
      go_wp2
      go_ret
      exact ⟨_, rfl, hgg, hrow, hbel⟩

end Go.Proofs.Qxb6002372a
