/-
  'FnURIArgsIsLatin1': the walk.
-/
import Derived.Test.Qxb6002372aUri
namespace Go.Proofs.Qxb6002372a
open Go.RowKit

theorem info5u : (Try.prog.info? 5).map (fun i => (i.zero, i.size, i.bytes)) = some (some (.int .u8 0), 1, 1) := by kernel_rfl
theorem size5 : (Try.prog.info? 5).map (·.size) = some 1 := by kernel_rfl

theorem splice_all {α : Type} (z : α) (cs : List α) : splice (List.replicate cs.length z) 0 cs = cs := by simp [splice]

set_option maxRecDepth 100000 in
set_option maxHeartbeats 1000000 in
theorem law_nil (w : World) : Calls Try.prog 8 #[.slice none 0 0] w fun e w' => e = .returned (.bool true) ∧ Below w.heap.size w w' := by
  have hnn := fun (wx : World) => run_neq_slice_nil_any (P := Try.prog) wx 22 5 none 0 0 0 0 Try.underlying22
  go_enter Try.func8, Try.ntmps8
  go_wp2_with (first | (go_at_call 27; refine (zuri_nil _).mono ?_; rintro e w1 ⟨rfl, hbel⟩) | go_in)
  go_loop [6, 36] (fun n i => n = .int .i64 0 ∧ i = .int .i64 0) (fun _ _ => 0)
  case atStart => exact ⟨rfl, rfl⟩
  case round =>
    obtain ⟨rfl, rfl⟩ := hrel
    go_wp2
    go_loop [9] (fun i => i = .int .i64 0) (fun _ => 0)
    case atStart => rfl
    case round =>
      subst hrel
      have hnx : ∀ ty, (Instr.next (.pointer (some ⟨w1.heap.size, 0, none⟩)) true ty).run Try.prog (w1.iter ⟨#[]⟩ 0) = _ := fun ty => run_next_end w1 ⟨#[]⟩ 0 ty (by simp [ByteArray.size])
      go_wp2
      go_ret
      exact ⟨rfl, hbel.alloc hbel.size _⟩

theorem full_row {w : World} {B g n : Nat} {e : TypeId} {xs : List Value} (h : w.ownsRow B e 1 (.slice (some ⟨g, 0, none⟩) n n) n xs) : w.heap[g]? = some (.cells xs.toArray e (0, 0)) := by
  rcases h.2 with ⟨h0, _⟩ | ⟨g', c, cur, hv, _, hh, _, _, hsz, htk⟩
  · simp at h0
  · simp only [Value.slice.injEq, Option.some.injEq, Addr.mk.injEq, and_true, true_and] at hv
    obtain ⟨rfl, rfl⟩ := hv
    rw [hh, ← htk, List.take_of_length_le (by simp [hsz])]

/-- The world behind 'c := make([]byte, len(d))'. -/
theorem made_row {w w1 : World} {n : Nat} (h : w1.ownsRow w.heap.size 5 1 (.slice (some ⟨w.heap.size, 0, none⟩) n n) n (madeCells (Value.int .u8 0).cells (n * 1)).toList) :
    w1.heap[w.heap.size]? = some (.cells (List.replicate n (Value.int .u8 0)).toArray 5 (0, 0)) := by
  rw [show (Value.int .u8 0).cells = #[.int .u8 0] from rfl, Nat.mul_one, toList_madeCells_one] at h
  exact full_row h

theorem copied_cell {w : World} {g : Nat} {l : List UInt8} (h : w.heap[g]? = some (.cells (l.map fun b => Value.int .u8 (b.toNat : Int)).toArray 5 (0, 0))) (j : Nat) (hj : j < l.length) : w.cell? ⟨g, j, none⟩ = some (.int .u8 (l[j].toNat : Int)) := by
  rw [cell_of_row w g j _ 5 (0, 0) h]
  simp [hj]

set_option maxRecDepth 100000 in
set_option maxHeartbeats 1000000 in
theorem law_some (ad : Addr) (l : List UInt8) (cap : Nat) (w : World) (hl : l.length ≤ 65536) (hcell : ∀ j (h : j < l.length), w.cell? (ad.add j) = some (.int .u8 (l[j].toNat : Int))) (hpath : ∀ j, (ad.add j).block = ad.block) (hlow : 0 < l.length → ad.block < w.heap.size) :
    Calls Try.prog 8 #[.slice (some ad) l.length cap] w fun e w' => e = .returned (.bool true) ∧ Below w.heap.size w w' := by
  obtain ⟨i0, hi, hz0, hz1, hz2⟩ := info_parts info5u
  have hnn := fun (wx : World) => run_neq_slice_nil_any (P := Try.prog) wx 22 5 (some ad) l.length cap 0 0 Try.underlying22
  obtain ⟨cs, hcs⟩ : ∃ cs, cs = l.map fun b => Value.int .u8 (b.toNat : Int) := ⟨_, rfl⟩
  have HCL : Hid (cs.length = l.length) := by show _ = _; rw [hcs]; simp
  have HCS : Hid (cs = l.map fun b => Value.int .u8 (b.toNat : Int)) := hcs
  have HCC : Hid (∀ w1, Below w.heap.size w w1 → 0 < cs.length → ∀ j v, cs[j]? = some v → w1.cell? (ad.add j) = some v) := by
    intro w1 hb h0 j v hj
    have hjl : j < l.length := by have := (List.getElem?_eq_some_iff.1 hj).1; rwa [HCL.out] at this
    rw [hb.cell (by rw [hpath j]; exact hlow (by omega)), hcell j hjl]
    rw [hcs] at hj
    simpa [hjl] using hj
  have HC1 : Hid (∀ v ∈ cs, v.oneCell' = true) := by
    show ∀ v ∈ cs, _
    rw [hcs]
    intro v hv
    obtain ⟨b, _, rfl⟩ := List.mem_map.1 hv
    rfl
  clear hcs hcell hpath hlow
  go_enter Try.func8, Try.ntmps8
  go_wp2_with (first | (at_make; refine wpList_make_full _ rfl _ _ 22 rfl w.heap.size 5 i0 _ 1 Try.underlying22 hi hz0 hz1 .i64 .i64 _ _ l.length rfl rfl rfl rfl (by rw [hz2]; omega) (by unfold maxLen; omega) (Nat.le_refl _) ?_; intro w1 hown hgr; have HR : Hid _ := made_row hown; have hb1 : Below w.heap.size w w1 := (Below.refl _ _).grown hgr (Nat.le_refl _) (by simp); clear hown hgr) | (refine wpList_copy_splice rfl (.tmp 23) (.tmp 24) 22 22 rfl 5 Try.underlying22 size5 _ _ _ _ _ _ rfl rfl w.heap.size 0 _ 5 HR.out cs (by rw [HCL.out]; exact (Nat.min_self _).symm) (fun h0 => ⟨rfl, ad, rfl, HCC.out _ hb1 h0⟩) (by rw [HCL.out]; simp) HC1.out w.heap.size w hb1 (Nat.le_refl _) ?_; intro w2 hg2 hb2) | (go_at_call 26; go_in))
  have hrow : w2.heap[w.heap.size]? = some (.cells (l.map fun b => Value.int .u8 (b.toNat : Int)).toArray 5 (0, 0)) := by
    have h := hg2.out
    have e : splice (List.replicate l.length (Value.int .u8 0)) 0 cs = l.map fun b => Value.int .u8 (b.toNat : Int) := by rw [← HCL.out, splice_all, HCS.out]
    rw [e] at h
    exact h
  have hlt2 : w.heap.size < w2.heap.size := (Array.getElem?_eq_some_iff.1 hrow).1
  have hcell := copied_cell hrow
  refine (zuri_some w.heap.size 0 l.length l w2 hlt2 (by omega) (fun j hj => by rw [Nat.zero_add]; exact hcell j hj)).mono ?_
  rintro e w3 ⟨rfl, hb3⟩
  obtain ⟨S, hS⟩ : ∃ S : ByteArray, S = ⟨(enc l).toArray⟩ := ⟨_, rfl⟩
  rw [← hS]
  have hSs : S.size = (enc l).length := by rw [hS]; simp [ByteArray.size]
  have HS : Hid (S.size = (enc l).length) := hSs
  have HD : Hid (∀ k (hk : k < l.length), Utf8.decode S (enc (l.take k)).length = (l[k].toNat, (en l[k]).length)) := by show ∀ k hk, _; rw [hS]; exact decode_enc l
  have hSle : S.size ≤ 131072 := by have := enc_le l; omega
  have HC : Hid (∀ wx : World, Below w3.heap.size w3 wx → ∀ j (hj : j < l.length), wx.cell? ⟨w.heap.size, j, none⟩ = some (.int .u8 (l[j].toNat : Int))) := by
    intro wx hx j hj
    rw [hx.cell (p := ⟨w.heap.size, j, none⟩) (Nat.lt_of_lt_of_le hlt2 hb3.size), hb3.cell (p := ⟨w.heap.size, j, none⟩) hlt2]
    exact hcell j hj
  have hbel : Below w.heap.size w w3 := hb2.trans (hb3.mono hb2.size)
  clear hS hSs hcell hlt2 hrow hg2 HCL HCS HCC HC1 HR hb1 hb2 hb3 hnn
  go_wp2_with fail
  go_loop [6, 36] (fun n i => ∃ (k m : Nat), k ≤ l.length ∧ m ≤ 131072 ∧ n = .int .i64 m ∧ i = .int .i64 k ∧ Hid (m = (enc (l.take k)).length)) (fun _ i => l.length - (intOf i).toNat)
  case atStart => exact ⟨0, 0, Nat.zero_le _, by omega, rfl, rfl, rfl⟩
  case round =>
    obtain ⟨k, m, hk, hm, rfl, rfl, HM⟩ := hrel
    by_cases hlt : k < l.length
    · have hcx := HC.out w3 (Below.refl _ _) k hlt
      have hby := l[k].toNat_lt
      have hnext : (enc (l.take (k + 1))).length = m + (if l[k].toNat < 128 then 1 else 2) := by rw [enc_take l k hlt, List.length_append, en_len, HM.out]
      have hle : (enc (l.take (k + 1))).length ≤ 131072 := by have := enc_le (l.take (k + 1)); rw [List.length_take] at this; omega
      have HN : Hid ((enc (l.take (k + 1))).length = m + (if l[k].toNat < 128 then 1 else 2)) := hnext
      have HL : Hid ((enc (l.take (k + 1))).length ≤ 131072) := hle
      clear hnext hle
      by_cases hb : l[k].toNat < 128
      · have hb' : (l[k].toNat : Int) < 128 := by omega
        go_wp2
        go_round
        case rel =>
          have h1 := HN.out
          rw [if_pos hb] at h1
          have h2 := HL.out
          exact ⟨k + 1, m + 1, by omega, by omega, by go_num, by go_num, h1.symm⟩
        case measure => simp [intOf]; omega
      · have hb' : ¬ (l[k].toNat : Int) < 128 := by omega
        go_wp2
        go_round
        case rel =>
          have h1 := HN.out
          rw [if_neg hb] at h1
          have h2 := HL.out
          exact ⟨k + 1, m + 2, by omega, by omega, by go_num, by go_num, h1.symm⟩
        case measure => simp [intOf]; omega
    · have hne : ((S.size : Int) != (m : Int)) = false := by
        have h1 := HM.out
        rw [List.take_of_length_le (by omega), ← HS.out] at h1
        rw [h1]
        simp
      go_wp2_with fail
      clear hne HM hm hk hlt
      go_loopw [9] (fun i wr => ∃ (k : Nat), k ≤ l.length ∧ i = .int .i64 k ∧ wr.heap[w3.heap.size]? = some (.stringIter S (enc (l.take k)).length) ∧ Below w3.heap.size w3 wr) (fun i _ => l.length - (intOf i).toNat)
      case atStart => exact ⟨0, Nat.zero_le _, rfl, World.iter_heap w3 S 0, (Below.refl _ _).alloc (Nat.le_refl _) _⟩
      case round =>
        obtain ⟨k, hk, rfl, hit, hbw⟩ := hrel
        by_cases hlt : k < l.length
        · have hp : (enc (l.take k)).length < S.size := by rw [HS.out]; exact enc_lt l k hlt
          have hnx : ∀ ty, (Instr.next (.pointer (some ⟨w3.heap.size, 0, none⟩)) true ty).run Try.prog wr = _ := fun ty => Lib.run_next_any_at wr w3.heap.size S _ ty hit hp
          have hit2 := Lib.iterAt_heap wr w3.heap.size S (enc (l.take k)).length ((enc (l.take k)).length + (Utf8.decode S (enc (l.take k)).length).2) hit
          have hbw2 := Lib.below_iterAt hbw (k := w3.heap.size) (Nat.le_refl _) S ((enc (l.take k)).length + (Utf8.decode S (enc (l.take k)).length).2)
          obtain ⟨W1, hW1⟩ : ∃ W1, W1 = wr.iterAt w3.heap.size S ((enc (l.take k)).length + (Utf8.decode S (enc (l.take k)).length).2) := ⟨_, rfl⟩
          rw [← hW1] at hnx hit2 hbw2
          rw [HD.out k hlt] at hnx hit2
          have hcx := HC.out W1 hbw2 k hlt
          have HI : Hid _ := hit2
          have hby := l[k].toNat_lt
          obtain ⟨pos, hpos⟩ : ∃ pos, pos = (enc (l.take k)).length := ⟨_, rfl⟩
          have HP : Hid (pos = (enc (l.take k)).length) := hpos
          rw [← hpos] at hnx
          clear hW1 hit hbw hp hit2 hpos
          go_wp2
          go_roundw
          case rel =>
            refine ⟨k + 1, by omega, by go_num, ?_, hbw2⟩
            rw [enc_take l k hlt, List.length_append]
            exact HI.out
          case measure => simp [intOf]; omega
        · have ek : k = l.length := by omega
          subst ek
          rw [List.take_length, ← HS.out] at hit
          have hnx : ∀ ty, (Instr.next (.pointer (some ⟨w3.heap.size, 0, none⟩)) true ty).run Try.prog wr = _ := fun ty => Lib.run_next_end_at wr w3.heap.size S _ ty hit (Nat.lt_irrefl _)
          clear hit
          go_wp2
          go_ret
          exact ⟨by simp, hbel.trans (hbw.mono hbel.size)⟩
end Go.Proofs.Qxb6002372a
