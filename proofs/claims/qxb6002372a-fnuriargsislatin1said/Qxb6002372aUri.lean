/-
  'efi.uriArgs': its contract.
-/
import Derived.Test.Qxb6002372aLatin
import Derived.WalkSpells
import Derived.WalkLawsBesides
import Derived.Laws.CopyOwn
import Derived.Lib.OthersKept
namespace Go.Proofs.Qxb6002372a
open Go.RowKit

/-- The slice 'ao, n' reads as the bytes l. -/
def BytesAt (w : World) (ao : Option Addr) (l : List UInt8) : Prop :=
  0 < l.length → ∃ b off, ao = some ⟨b, off, none⟩ ∧ b < w.heap.size ∧ ∀ j (h : j < l.length), w.cell? ⟨b, off + j, none⟩ = some (.int .u8 (l[j].toNat : Int))

theorem info21 : (Try.prog.info? 21).map (fun i => (i.zero, i.size, i.bytes)) = some (some (.int .i32 0), 1, 4) := by kernel_rfl

/-- The runes behind k rounds. -/
def rn (l : List UInt8) (k : Nat) : List Value := (l.take k).map (fun b => Value.int .i32 (b.toNat : Int)) ++ List.replicate (l.length - k) (.int .i32 0)

theorem rn_start (l : List UInt8) : rn l 0 = List.replicate l.length (.int .i32 0) := by simp [rn]
theorem rn_step (l : List UInt8) (k : Nat) (hk : k < l.length) : (rn l k).set k (.int .i32 (l[k].toNat : Int)) = rn l (k + 1) := by
  unfold rn
  rw [List.take_succ_eq_append_getElem hk, List.set_append_right _ _ (by simp; omega)]
  have e : k - ((l.take k).map (fun b => Value.int .i32 (b.toNat : Int))).length = 0 := by simp; omega
  obtain ⟨m, hm⟩ : ∃ m, l.length - k = m + 1 := ⟨l.length - k - 1, by omega⟩
  rw [e, hm, show l.length - (k + 1) = m by omega, List.replicate_succ, List.set_cons_zero, List.map_append]
  simp
theorem rn_end (l : List UInt8) : rn l l.length = l.map (fun b => Value.int .i32 (b.toNat : Int)) := by simp [rn]

set_option maxRecDepth 100000 in
set_option maxHeartbeats 1000000 in
theorem uri_some (b off cap : Nat) (l : List UInt8) (w : World) (hb : b < w.heap.size) (hl : l.length ≤ 1048576) (hcell : ∀ j (h : j < l.length), w.cell? ⟨b, off + j, none⟩ = some (.int .u8 (l[j].toNat : Int))) :
    Calls Try.prog 48 #[.slice (some ⟨b, off, none⟩) l.length cap] w fun e w' => e = .returned (.tuple #[.string ⟨(enc l).toArray⟩, .bool true]) ∧ Below w.heap.size w w' := by
  obtain ⟨i0, hi, hz0, hz1, hz2⟩ := info_parts info21
  go_enter Try.func48, Try.ntmps48
  go_wp2_with (at_make; refine wpList_make_full _ rfl _ _ 77 rfl w.heap.size 21 i0 _ 1 Try.underlying77 hi hz0 hz1 .i64 .i64 _ _ l.length rfl rfl rfl rfl (by rw [hz2]; omega) (by unfold maxLen; omega) (Nat.le_refl _) ?_; intro w1 hown hgr)
  have hown1 : Own w.heap.size 21 (some ⟨w.heap.size, 0, none⟩) l.length l.length (rn l 0) w w1 := by
    refine ⟨?_, (Below.refl _ _).grown hgr (Nat.le_refl _) (by simp), hgr.size⟩
    rw [rn_start, Nat.mul_one] at *
    rw [show (Value.int .i32 0).cells = #[.int .i32 0] from rfl, toList_madeCells_one] at hown
    exact hown
  clear hown hgr
  go_loopw [12] (fun i wr => ∃ (k : Nat), k ≤ l.length ∧ i = .int .i64 k ∧ Own w.heap.size 21 (some ⟨w.heap.size, 0, none⟩) l.length l.length (rn l k) w wr) (fun i _ => l.length - (intOf i).toNat)
  case atStart => exact ⟨0, Nat.zero_le _, rfl, hown1⟩
  case round =>
    clear hown1
    obtain ⟨k, hk, rfl, hown⟩ := hrel
    by_cases hlt : k < l.length
    · have hcx : wr.cell? ⟨b, off + k, none⟩ = some (.int .u8 (l[k].toNat : Int)) := (hown.2.1.cell (p := ⟨b, off + k, none⟩) hb).trans (hcell k hlt)
      have hby := l[k].toNat_lt
      have hfr := hown.1.frozenAt k
      obtain ⟨u, hu⟩ : ∃ u, wr.cell? ⟨w.heap.size, k, none⟩ = some u := by
        rw [hown.1.cellAt k (by omega)]
        exact ⟨_, List.getElem?_eq_getElem (by rw [hown.len]; exact hlt)⟩
      obtain ⟨hst, hgr⟩ := hown.1.stored k (.int .i32 (l[k].toNat : Int))
      rw [rn_step l k hlt] at hst
      have hnew := hown.grown hst hgr
      clear hst hgr hcell
      go_wp2
      go_roundw
      case rel => exact ⟨k + 1, by omega, by go_num, hnew⟩
      case measure => simp [intOf]; omega
    · have ek : k = l.length := by omega
      rw [ek, rn_end] at hown
      have hconv := run_convert_runes (P := Try.prog) wr 77 9 21 ⟨w.heap.size, 0, none⟩ l.length l.length (l.map fun b => (b.toNat : Int)) (by simp) Try.underlying77 Try.underlying21 Try.underlying9 (fun j hj => by
        rw [Addr.add_lit, Nat.zero_add, hown.1.cellAt j (by simpa using hj)]
        have hj' : j < l.length := by simpa using hj
        simp [hj'])
      rw [List.take_of_length_le (by simp), runes_enc] at hconv
      have hb2 := hown.2.1
      clear hown hcell ek
      go_wp2
      go_ret2
      exact ⟨rfl, hb2⟩

set_option maxRecDepth 100000 in
theorem uri_nil (w : World) : Calls Try.prog 48 #[.slice none 0 0] w fun e w' => e = .returned (.tuple #[.string ⟨#[]⟩, .bool true]) ∧ Below w.heap.size w w' := by
  obtain ⟨i0, hi, hz0, hz1, hz2⟩ := info_parts info21
  go_enter Try.func48, Try.ntmps48
  go_wp2_with (at_make; refine wpList_make_full _ rfl _ _ 77 rfl w.heap.size 21 i0 _ 1 Try.underlying77 hi hz0 hz1 .i64 .i64 _ _ 0 rfl rfl rfl rfl (by omega) (by unfold maxLen; omega) (Nat.le_refl _) ?_; intro w1 hown hgr)
  have hbel : Below w.heap.size w w1 := (Below.refl _ _).grown hgr (Nat.le_refl _) (by simp)
  clear hown hgr
  go_loop [12] (fun i => i = .int .i64 0) (fun _ => 0)
  case atStart => rfl
  case round =>
    subst hrel
    have hconv := run_convert_runes (P := Try.prog) w1 77 9 21 ⟨w.heap.size, 0, none⟩ 0 0 [] (by simp) Try.underlying77 Try.underlying21 Try.underlying9 (fun j hj => by simp at hj)
    go_wp2
    go_ret2
    exact ⟨rfl, hbel⟩

set_option maxRecDepth 100000 in
theorem zuri_some (b off cap : Nat) (l : List UInt8) (w : World) (hb : b < w.heap.size) (hl : l.length ≤ 1048576) (hcell : ∀ j (h : j < l.length), w.cell? ⟨b, off + j, none⟩ = some (.int .u8 (l[j].toNat : Int))) :
    Calls Try.prog 27 #[.slice (some ⟨b, off, none⟩) l.length cap] w fun e w' => e = .returned (.tuple #[.string ⟨(enc l).toArray⟩, .bool true]) ∧ Below w.heap.size w w' := by
  have H := uri_some b off cap l w hb hl hcell
  clear hcell
  go_enter Try.func27, Try.ntmps27
  go_wp2_with (go_at_call 48; refine H.mono ?_; rintro e w' ⟨rfl, hbel⟩)
  go_ret2
  exact ⟨rfl, hbel⟩

set_option maxRecDepth 100000 in
theorem zuri_nil (w : World) : Calls Try.prog 27 #[.slice none 0 0] w fun e w' => e = .returned (.tuple #[.string ⟨#[]⟩, .bool true]) ∧ Below w.heap.size w w' := by
  go_enter Try.func27, Try.ntmps27
  go_wp2_with (go_at_call 48; refine (uri_nil w).mono ?_; rintro e w' ⟨rfl, hbel⟩)
  go_ret2
  exact ⟨rfl, hbel⟩
end Go.Proofs.Qxb6002372a
