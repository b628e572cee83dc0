/-
  'efi.splitOutside': what it computes, as a function on lists of bytes, and its contract.
-/
import Derived.Test.Qxb6002372aOwn
import Derived.Lib.Strings
import Derived.WalkSpells
import Derived.WalkLawsBesides
namespace Go.Proofs.Qxb6002372a
open Go.RowKit

/-- What is left to split, the depth, the part that is being gathered. -/
def spl (sep : UInt8) : List UInt8 → Nat → List UInt8 → List (List UInt8)
  | [], _, cur => [cur]
  | c :: r, d, cur =>
    if c.toNat = 40 then spl sep r (d + 1) (cur ++ [c])
    else if c.toNat = 41 ∧ 0 < d then spl sep r (d - 1) (cur ++ [c])
    else if c.toNat = sep.toNat ∧ d = 0 then cur :: spl sep r 0 []
    else spl sep r d (cur ++ [c])

def strV (l : List UInt8) : Value := .string ⟨l.toArray⟩

def seg (s : ByteArray) (a b : Nat) : List UInt8 := (s.data.toList.take b).drop a

theorem seg_val (s : ByteArray) (a b : Nat) : Value.string (s.extract a b) = strV (seg s a b) := by
  have e : s.extract a b = ⟨(seg s a b).toArray⟩ := by
    have h := Lib.extract_data s a b
    cases hx : s.extract a b with
    | mk d =>
      rw [hx] at h
      simp only [seg]
      congr 1
      apply Array.ext'
      simpa [List.drop_take] using h
  rw [strV, e]

theorem seg_snoc (s : ByteArray) (a k : Nat) (ha : a ≤ k) (hk : k < s.size) : seg s a (k + 1) = seg s a k ++ [s[k]] := by
  have hl : k < s.data.toList.length := by simpa using hk
  simp only [seg]
  rw [List.take_succ_eq_append_getElem hl, List.drop_append_of_le_length (by rw [List.length_take]; omega)]
  rfl

theorem drop_cons (s : ByteArray) (k : Nat) (hk : k < s.size) : s.data.toList.drop k = s[k] :: s.data.toList.drop (k + 1) := by
  have hl : k < s.data.toList.length := by simpa using hk
  rw [List.drop_eq_getElem_cons hl]
  rfl

/-- The loop's fact. -/
def Rem (s : ByteArray) (sep : UInt8) (ps : List (List UInt8)) (k d t : Nat) : Prop :=
  spl sep s.data.toList 0 [] = ps ++ spl sep (s.data.toList.drop k) d (seg s t k)

theorem Rem.start (s : ByteArray) (sep : UInt8) : Rem s sep [] 0 0 0 := by simp [Rem, seg]

section
variable {s : ByteArray} {sep : UInt8} {ps : List (List UInt8)} {k d t : Nat}

theorem Rem.up (h : Rem s sep ps k d t) (hk : k < s.size) (ht : t ≤ k) (h1 : ((s[k].toNat : Int) == 40) = true) : Rem s sep ps (k + 1) (d + 1) t := by
  have e : s[k].toNat = 40 := by have := eq_of_beq h1; omega
  unfold Rem at *
  rw [h, drop_cons s k hk, spl, if_pos e, seg_snoc s t k ht hk]

theorem Rem.down (h : Rem s sep ps k d t) (hk : k < s.size) (ht : t ≤ k) (e : s[k].toNat = 41) (hd : 0 < d) : Rem s sep ps (k + 1) (d - 1) t := by
  unfold Rem at *
  rw [h, drop_cons s k hk, spl, if_neg (by omega), if_pos ⟨e, hd⟩, seg_snoc s t k ht hk]

theorem Rem.cut (h : Rem s sep ps k 0 t) (hk : k < s.size) (h1 : (s[k].toNat : Int) ≠ 40) (e3 : s[k].toNat = sep.toNat) : Rem s sep (ps ++ [seg s t k]) (k + 1) 0 (k + 1) := by
  have e1 : ¬ s[k].toNat = 40 := by omega
  unfold Rem at *
  have e0 : seg s (k + 1) (k + 1) = [] := by simp only [seg]; apply List.drop_of_length_le; rw [List.length_take]; omega
  rw [h, drop_cons s k hk, spl, if_neg e1, if_neg (by omega), if_pos ⟨e3, rfl⟩, e0]
  simp

theorem Rem.on (h : Rem s sep ps k d t) (hk : k < s.size) (ht : t ≤ k) (h1 : (s[k].toNat : Int) ≠ 40) (h2 : ¬ (s[k].toNat = 41 ∧ 0 < d)) (h3 : ¬ (s[k].toNat = sep.toNat ∧ d = 0)) : Rem s sep ps (k + 1) d t := by
  have e1 : ¬ s[k].toNat = 40 := by omega
  unfold Rem at *
  rw [h, drop_cons s k hk, spl, if_neg e1, if_neg h2, if_neg h3, seg_snoc s t k ht hk]

theorem Rem.fin (h : Rem s sep ps k d t) (hk : s.size ≤ k) : spl sep s.data.toList 0 [] = ps ++ [seg s t s.size] := by
  have hl : s.data.toList.length ≤ k := by simpa using hk
  unfold Rem at h
  rw [h, List.drop_of_length_le hl, spl]
  have e : seg s t k = seg s t s.size := by
    simp only [seg]
    rw [List.take_of_length_le hl, List.take_of_length_le (by simp)]
  rw [e]
end

theorem info9 : (Try.prog.info? 9).map (fun i => (i.zero, i.size, i.bytes)) = some (some (.string ByteArray.empty), 1, 16) := by kernel_rfl

set_option maxRecDepth 100000 in
set_option maxHeartbeats 1000000 in
theorem split_any (s : ByteArray) (sep : UInt8) (w : World) (hs : s.size ≤ 1048576) :
    Calls Try.prog 46 #[.string s, .int .u8 sep.toNat] w fun e w' => ∃ ao n cap, e = .returned (.slice ao n cap) ∧ Own w.heap.size 9 ao n cap ((spl sep s.data.toList 0 []).map strV) w w' := by
  obtain ⟨i0, hi, hz0, hz1, hz2⟩ := info_parts info9
  go_enter Try.func46, Try.ntmps46
  go_wp2
  go_loopw [5, 6, 7, 8] (fun v dd st i wr => ∃ (k d t n : Nat) (ao : Option Addr) (cap : Nat) (ps : List (List UInt8)), k ≤ s.size ∧ t ≤ k ∧ d ≤ k ∧ n ≤ k ∧ i = .int .i64 k ∧ dd = .int .i64 d ∧ st = .int .i64 t ∧ v = .slice ao n cap ∧
      Own w.heap.size 9 ao n cap (ps.map strV) w wr ∧ Rem s sep ps k d t) (fun _ _ _ i _ => s.size - (intOf i).toNat)
  case atStart => exact ⟨0, 0, 0, 0, none, 0, [], Nat.zero_le _, Nat.le_refl _, Nat.le_refl _, Nat.le_refl _, rfl, rfl, rfl, rfl, Own.nil (Below.refl _ _) (Nat.le_refl _), Rem.start s sep⟩
  case round =>
    obtain ⟨k, d, t, n, ao, cap, ps, hk, ht, hd, hn, rfl, rfl, rfl, rfl, hown, hrem⟩ := hrel
    by_cases hlt : k < s.size
    · go_wp2_with (first | (at_builtin; refine wpList_app rfl _ _ 32 rfl _ 9 i0 _ 16 Try.underlying32 hi hz0 hz1 hz2 rfl _ _ _ _ rfl _ _ hown [.string (s.extract t k)] 1 rfl rfl (by intro u hu; simp at hu; subst hu; rfl) (by unfold maxLen; omega) (by omega) ?_; intro ao' cap' w' hown'))
      all_goals
        go_roundw
        case measure => simp [intOf]; omega
        case rel =>
          first
          | (have h1 : ((s[k].toNat : Int) == 40) = true := by assumption
             exact ⟨k + 1, d + 1, t, n, ao, cap, ps, by omega, by omega, by omega, by omega, by go_num, by go_num, rfl, rfl, hown, hrem.up hlt ht h1⟩)
          | (have h2 : (s[k].toNat : Int) = 41 := by assumption
             have h3 : 0 < d := by assumption
             exact ⟨k + 1, d - 1, t, n, ao, cap, ps, by omega, by omega, by omega, by omega, by go_num, by go_num, rfl, rfl, hown, hrem.down hlt ht (by omega) h3⟩)
          | (have h1 : ((s[k].toNat : Int) == 40) = false := by assumption
             have h5 : ((d : Int) == 0) = true := by assumption
             have h4 := hown'
             have hd0 : d = 0 := by have := eq_of_beq h5; omega
             subst hd0
             have e : (ps ++ [seg s t k]).map strV = List.map strV ps ++ [Value.string (s.extract t k)] := by simp [seg_val]
             rw [← e] at h4
             exact ⟨k + 1, 0, k + 1, n + 1, _, _, _, by omega, by omega, by omega, by omega, by go_num, rfl, by go_num, rfl, h4, hrem.cut hlt (ne_of_beq_false h1) (by omega)⟩)
          | (have h1 : ((s[k].toNat : Int) == 40) = false := by assumption
             exact ⟨k + 1, d, t, n, ao, cap, ps, by omega, by omega, by omega, by omega, by go_num, rfl, rfl, rfl, hown, hrem.on hlt ht (ne_of_beq_false h1) (by omega) (by first | omega | (have := ne_of_beq_false ‹((d : Int) == 0) = false›; omega))⟩)
    · have hfin := hrem.fin (by omega)
      go_wp2_with (first | (at_builtin; refine wpList_app rfl _ _ 32 rfl _ 9 i0 _ 16 Try.underlying32 hi hz0 hz1 hz2 rfl _ _ _ _ rfl _ _ hown [.string (s.extract t s.size)] 1 rfl rfl (by intro u hu; simp at hu; subst hu; rfl) (by unfold maxLen; omega) (by omega) ?_; intro ao' cap' w' hown'))
      go_ret
      refine ⟨_, _, _, rfl, ?_⟩
      rw [hfin, List.map_append]
      simpa [seg_val] using hown'

set_option maxRecDepth 100000 in
theorem zsplit_any (s : ByteArray) (sep : UInt8) (w : World) (hs : s.size ≤ 1048576) :
    Calls Try.prog 20 #[.string s, .int .u8 sep.toNat] w fun e w' => ∃ ao n cap, e = .returned (.slice ao n cap) ∧ Own w.heap.size 9 ao n cap ((spl sep s.data.toList 0 []).map strV) w w' := by
  go_enter Try.func20, Try.ntmps20
  go_wp2_with (go_at_call 46; refine (split_any s sep _ hs).mono ?_; rintro e w' ⟨ao, n, cap, rfl, hown⟩)
  go_ret
  exact ⟨_, _, _, rfl, hown⟩
end Go.Proofs.Qxb6002372a
