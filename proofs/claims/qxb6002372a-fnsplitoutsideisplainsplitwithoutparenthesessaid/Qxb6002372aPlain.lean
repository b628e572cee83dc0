/-
  'plainSplitModel': what it computes, as a function on lists of bytes; that 'spl' is it where no parenthesis stands; its contract.
-/
import Derived.Test.Qxb6002372aSplit
namespace Go.Proofs.Qxb6002372a
open Go.RowKit

def splP (sep : UInt8) : List UInt8 → List UInt8 → List (List UInt8)
  | [], cur => [cur]
  | c :: r, cur => if c = sep then cur :: splP sep r [] else splP sep r (cur ++ [c])

theorem spl_splP (sep : UInt8) : ∀ (l cur : List UInt8), (∀ c ∈ l, c.toNat ≠ 40 ∧ c.toNat ≠ 41) → spl sep l 0 cur = splP sep l cur
  | [], cur, _ => rfl
  | c :: r, cur, h => by
    have hc := h c (by simp)
    have hr : ∀ x ∈ r, x.toNat ≠ 40 ∧ x.toNat ≠ 41 := fun x hx => h x (by simp [hx])
    rw [spl, splP, if_neg hc.1, if_neg (by omega)]
    by_cases e : c = sep
    · subst e
      rw [if_pos ⟨rfl, rfl⟩, if_pos rfl, spl_splP c r [] hr]
    · rw [if_neg (fun x => e (UInt8.toNat_inj.1 x.1)), if_neg e, spl_splP sep r _ hr]

/-- How many bytes stand ahead of the first sep. -/
def upto (sep : UInt8) : List UInt8 → Nat
  | [] => 0
  | c :: r => if c = sep then 0 else upto sep r + 1

theorem upto_lt (sep : UInt8) : ∀ (l : List UInt8), 0 < l.count sep → upto sep l < l.length
  | [], h => by simp at h
  | c :: r, h => by
    rw [upto]
    by_cases e : c = sep
    · rw [if_pos e]; simp
    · rw [if_neg e]
      have := upto_lt sep r (by rwa [List.count_cons_of_ne e] at h)
      simp only [List.length_cons]; omega

theorem upto_ne (sep : UInt8) : ∀ (l : List UInt8) (j : Nat) (hj : j < l.length), j < upto sep l → l[j] ≠ sep
  | [], j, hj, _ => by simp at hj
  | c :: r, j, hj, h => by
    rw [upto] at h
    by_cases e : c = sep
    · rw [if_pos e] at h; omega
    · rw [if_neg e] at h
      cases j with
      | zero => simpa using e
      | succ j => simpa using upto_ne sep r j (by simpa using hj) (by omega)

theorem upto_eq (sep : UInt8) : ∀ (l : List UInt8) (hj : upto sep l < l.length), l[upto sep l] = sep
  | [], hj => by simp at hj
  | c :: r, hj => by
    by_cases e : c = sep
    · simp [upto, e]
    · have h1 : upto sep (c :: r) = upto sep r + 1 := by rw [upto, if_neg e]
      have h2 : upto sep r < r.length := by simp only [h1, List.length_cons] at hj; omega
      simp only [h1, List.getElem_cons_succ]
      exact upto_eq sep r h2

theorem splP_cut (sep : UInt8) : ∀ (l cur : List UInt8), 0 < l.count sep → splP sep l cur = (cur ++ l.take (upto sep l)) :: splP sep (l.drop (upto sep l + 1)) []
  | [], cur, h => by simp at h
  | c :: r, cur, h => by
    by_cases e : c = sep
    · simp [splP, upto, e]
    · rw [splP, if_neg e, splP_cut sep r _ (by rwa [List.count_cons_of_ne e] at h)]
      have h1 : upto sep (c :: r) = upto sep r + 1 := by rw [upto, if_neg e]
      rw [h1]
      simp

theorem splP_one (sep : UInt8) : ∀ (l cur : List UInt8), l.count sep = 0 → splP sep l cur = [cur ++ l]
  | [], cur, _ => by simp [splP]
  | c :: r, cur, h => by
    by_cases e : c = sep
    · subst e; simp at h
    · rw [splP, if_neg e, splP_one sep r _ (by rwa [List.count_cons_of_ne e] at h)]
      simp

theorem count_cut (sep : UInt8) (l : List UInt8) (h : 0 < l.count sep) : (l.drop (upto sep l + 1)).count sep + 1 = l.count sep := by
  have hlt := upto_lt sep l h
  have e : l = l.take (upto sep l) ++ l[upto sep l] :: l.drop (upto sep l + 1) := by
    rw [← List.drop_eq_getElem_cons hlt, List.take_append_drop]
  have h0 : (l.take (upto sep l)).count sep = 0 := by
    rw [List.count_eq_zero]
    intro hm
    obtain ⟨j, hj, hx⟩ := List.mem_iff_getElem.1 hm
    rw [List.length_take] at hj
    rw [List.getElem_take] at hx
    exact upto_ne sep l j (by omega) (by omega) hx
  have := congrArg (List.count sep) e
  rw [List.count_append, h0, upto_eq sep l hlt, List.count_cons_self] at this
  omega

/-- What the row 'out' holds behind k rounds. -/
def outRow (ds : List (List UInt8)) (n : Nat) : List Value := ds.map strV ++ List.replicate (n - ds.length) (.string ByteArray.empty)

theorem outRow_set (ds : List (List UInt8)) (n : Nat) (p : List UInt8) (h : ds.length < n) : (outRow ds n).set ds.length (strV p) = outRow (ds ++ [p]) n := by
  unfold outRow
  rw [List.set_append_right _ _ (by simp)]
  obtain ⟨m, hm⟩ : ∃ m, n - ds.length = m + 1 := ⟨n - ds.length - 1, by omega⟩
  rw [hm, List.length_append, List.length_singleton, show n - (ds.length + 1) = m by omega, List.replicate_succ]
  simp

theorem outRow_full (ds : List (List UInt8)) : outRow ds ds.length = ds.map strV := by simp [outRow]

theorem count_take (sep : UInt8) (s : ByteArray) (k : Nat) (hk : k < s.size) : (s.data.toList.take (k + 1)).count sep = (s.data.toList.take k).count sep + (if s[k].toNat = sep.toNat then 1 else 0) := by
  have hl : k < s.data.toList.length := by simpa using hk
  rw [List.take_succ_eq_append_getElem hl, List.count_append]
  have e : s.data.toList[k] = s[k] := rfl
  rw [e, List.count_singleton]
  by_cases h : s[k].toNat = sep.toNat
  · rw [if_pos h, UInt8.toNat_inj.1 h]; simp
  · rw [if_neg h]
    have : s[k] ≠ sep := fun x => h (by rw [x])
    simp [this]

set_option maxRecDepth 100000 in
set_option maxHeartbeats 1000000 in
theorem plain_any (s : ByteArray) (sep : UInt8) (w : World) (hs : s.size ≤ 65536) :
    Calls Try.prog 22 #[.string s, .int .u8 sep.toNat] w fun e w' => ∃ ao n cap, e = .returned (.slice ao n cap) ∧ Own w.heap.size 9 ao n cap ((splP sep s.data.toList []).map strV) w w' := by
  obtain ⟨i0, hi, hz0, hz1, hz2⟩ := info_parts info9
  go_enter Try.func22, Try.ntmps22
  go_wp2
  go_loop [5, 6] (fun c i => ∃ (k m : Nat), k ≤ s.size ∧ m ≤ k ∧ c = .int .i64 m ∧ i = .int .i64 k ∧ Hid (m = (s.data.toList.take k).count sep)) (fun _ i => s.size - (intOf i).toNat)
  case atStart => exact ⟨0, 0, Nat.zero_le _, Nat.le_refl _, rfl, rfl, rfl⟩
  case round =>
    obtain ⟨k, m, hk, hm, rfl, rfl, HM⟩ := hrel
    by_cases hlt : k < s.size
    · have HC : Hid _ := count_take sep s k hlt
      by_cases he : s[k].toNat = sep.toNat
      · have he' : ((s[k].toNat : Int) == (sep.toNat : Int)) = true := by rw [he]; simp
        have HE : Hid _ := he
        clear he
        go_wp2
        go_round
        case rel => exact ⟨k + 1, m + 1, by omega, by omega, by go_num, by go_num, by show _ = _; rw [HC.out, if_pos HE.out, HM.out]⟩
        case measure => simp [intOf]; omega
      · have he' : ((s[k].toNat : Int) == (sep.toNat : Int)) = false := by rw [beq_eq_false_iff_ne]; omega
        go_wp2
        go_round
        case rel => exact ⟨k + 1, m, by omega, by omega, by go_num, by go_num, by show _ = _; rw [HC.out, if_neg he, HM.out]; rfl⟩
        case measure => simp [intOf]; omega
    · have HM2 : Hid (m = s.data.toList.count sep) := by
        show _ = _
        rw [HM.out, List.take_of_length_le (by simpa using hlt)]
      clear HM
      go_wp2_with (at_make; refine wpList_make_full _ rfl _ _ 32 rfl w.heap.size 9 i0 _ 1 Try.underlying32 hi hz0 hz1 .i64 .i64 _ _ (m + 1) rfl rfl (by omega) (by omega) (by rw [hz2]; omega) (by unfold maxLen; omega) (Nat.le_refl _) ?_; intro w1 hown hgr)
      have hown1 : Own w.heap.size 9 (some ⟨w.heap.size, 0, none⟩) (m + 1) (m + 1) (outRow [] (m + 1)) w w1 := by
        refine ⟨?_, (Below.refl _ _).grown hgr (Nat.le_refl _) (by simp), hgr.size⟩
        rw [Nat.mul_one, show (Value.string ByteArray.empty).cells = #[.string ByteArray.empty] from rfl, toList_madeCells_one] at hown
        exact hown
      clear hown hgr
      go_loopw [8, 9] (fun r i wr => ∃ (q : Nat) (R : ByteArray) (ds : List (List UInt8)), q ≤ m ∧ R.size ≤ 65536 ∧ r = .string R ∧ i = .int .i64 q ∧ Hid (ds.length = q) ∧ Hid (R.data.toList.count sep + q = m) ∧ Hid (splP sep s.data.toList [] = ds ++ splP sep R.data.toList []) ∧
        Own w.heap.size 9 (some ⟨w.heap.size, 0, none⟩) (m + 1) (m + 1) (outRow ds (m + 1)) w wr) (fun _ i _ => m - (intOf i).toNat)
      case atStart => exact ⟨0, s, [], Nat.zero_le _, hs, rfl, rfl, rfl, by show _ = _; rw [HM2.out]; rfl, rfl, hown1⟩
      case round =>
        clear hown1
        obtain ⟨q, R, ds, hq, hR, rfl, rfl, HDL, HCT, HSP, hown⟩ := hrel
        have hfr := hown.1.frozenAt q
        obtain ⟨u, hu⟩ : ∃ u, wr.cell? ⟨w.heap.size, q, none⟩ = some u := by
          rw [hown.1.cellAt q (by omega)]
          exact ⟨_, List.getElem?_eq_getElem (by rw [hown.len]; omega)⟩
        by_cases hlq : q < m
        · have hpos : 0 < R.data.toList.count sep := by have := HCT.out; omega
          obtain ⟨h, hh⟩ : ∃ h, h = upto sep R.data.toList := ⟨_, rfl⟩
          have hlt2 : h < R.size := by rw [hh]; simpa using upto_lt sep R.data.toList hpos
          have hne : ∀ j (hj : j < R.size), j < h → ((R[j].toNat : Int) != (sep.toNat : Int)) = true := by
            intro j hj hjh
            have := upto_ne sep R.data.toList j (by simpa using hj) (by omega)
            rw [bne_iff_ne]
            intro x
            exact this (UInt8.toNat_inj.1 (by have e : R.data.toList[j]'(by simpa using hj) = R[j] := rfl; rw [e]; omega))
          have heq : ((R[h].toNat : Int) != (sep.toNat : Int)) = false := by
            have h1 := upto_eq sep R.data.toList (by simpa using upto_lt sep R.data.toList hpos)
            have e : R[h] = sep := by rw [← h1]; subst hh; rfl
            rw [e]
            simp
          have HN : Hid _ := hne
          have hnew : Own w.heap.size 9 (some ⟨w.heap.size, 0, none⟩) (m + 1) (m + 1) (outRow (ds ++ [seg R 0 h]) (m + 1)) w (wr.setCell ⟨w.heap.size, q, none⟩ (.string (R.extract 0 h))) := by
            obtain ⟨hst, hgr⟩ := hown.1.stored q (.string (R.extract 0 h))
            have e1 := outRow_set ds (m + 1) (seg R 0 h) (by have := HDL.out; omega)
            rw [HDL.out] at e1
            rw [seg_val] at hst hgr ⊢
            rw [e1] at hst
            exact hown.grown hst hgr
          have HNEW : Hid _ := hnew
          have hfin : splP sep s.data.toList [] = (ds ++ [seg R 0 h]) ++ splP sep (R.extract (h + 1) R.size).data.toList [] := by
            rw [HSP.out, splP_cut sep _ _ hpos, ← hh]
            have e2 : (R.extract (h + 1) R.size).data.toList = R.data.toList.drop (h + 1) := by
              rw [Lib.extract_data, List.take_of_length_le (by simp)]
            rw [e2]
            simp [seg]
          have HF : Hid _ := hfin
          have hcnt : (R.extract (h + 1) R.size).data.toList.count sep + (q + 1) = m := by
            have e2 : (R.extract (h + 1) R.size).data.toList = R.data.toList.drop (h + 1) := by
              rw [Lib.extract_data, List.take_of_length_le (by simp)]
            have h3 := count_cut sep R.data.toList hpos
            have h4 := HCT.out
            rw [e2, hh]
            omega
          have HCN : Hid _ := hcnt
          clear hh hpos hne hnew hfin hcnt hown
          go_wp2
          go_loop [10] (fun v => ∃ j : Nat, j ≤ h ∧ v = .int .i64 j) (fun v => h - (intOf v).toNat)
          case atStart => exact ⟨0, Nat.zero_le _, rfl⟩
          case round =>
            obtain ⟨j, hj, rfl⟩ := hrel
            by_cases hjl : j < h
            · have hb := HN.out j (by omega) hjl
              go_wp2
              go_round
              case rel => exact ⟨j + 1, by omega, by go_num⟩
              case measure => simp [intOf]; omega
            · obtain rfl : j = h := by omega
              go_wp2
              go_roundw
              case rel =>
                refine ⟨q + 1, _, _, by omega, ?_, rfl, by go_num, ?_, HCN.out, HF.out, HNEW.out⟩
                · simp; omega
                · show _ = _
                  rw [List.length_append, HDL.out]
                  rfl
              case measure => simp [intOf]; omega
        · obtain rfl : q = m := by omega
          have hfin : splP sep s.data.toList [] = ds ++ [R.data.toList] := by
            rw [HSP.out, splP_one sep _ _ (by have := HCT.out; omega)]
            rfl
          have hnew : Own w.heap.size 9 (some ⟨w.heap.size, 0, none⟩) (q + 1) (q + 1) ((splP sep s.data.toList []).map strV) w (wr.setCell ⟨w.heap.size, q, none⟩ (.string R)) := by
            obtain ⟨hst, hgr⟩ := hown.1.stored q (.string R)
            have e1 := outRow_set ds (q + 1) R.data.toList (by have := HDL.out; omega)
            have e0 : strV R.data.toList = .string R := by rw [strV]
            rw [HDL.out, e0] at e1
            rw [e1] at hst
            have e2 : outRow (ds ++ [R.data.toList]) (q + 1) = (ds ++ [R.data.toList]).map strV := by
              have := outRow_full (ds ++ [R.data.toList])
              rw [List.length_append, HDL.out] at this
              exact this
            rw [e2] at hst
            rw [hfin]
            exact hown.grown hst hgr
          have HNEW : Hid _ := hnew
          clear hnew hfin hown HSP HCT HDL
          go_wp2
          go_ret
          exact ⟨_, _, _, rfl, HNEW.out⟩
end Go.Proofs.Qxb6002372a
