/-
  'zzb1QuoteSQL': what it writes, and its contract.
-/
import Derived.Test.Qxb6601642aBuilder
namespace Go.Proofs.Qxb6601642a
open Go.RowKit

def qe (q : UInt8) (esc : Bool) (c : UInt8) : List UInt8 := if c = q then [q, q] else if esc = true ∧ c = 92 then [92, 92] else [c]
def qb (q : UInt8) (esc : Bool) (l : List UInt8) : List UInt8 := l.flatMap (qe q esc)
def qs (q : UInt8) (esc : Bool) (l : List UInt8) : List UInt8 := q :: (qb q esc l ++ [q])

def u8s (l : List UInt8) : List Value := l.map fun b => Value.int .u8 (b.toNat : Int)
theorem u8s_app (a b : List UInt8) : u8s (a ++ b) = u8s a ++ u8s b := by simp [u8s]
theorem u8s_len (l : List UInt8) : (u8s l).length = l.length := by simp [u8s]

theorem qe_le (q : UInt8) (esc : Bool) (c : UInt8) : (qe q esc c).length ≤ 2 := by
  unfold qe
  split
  · simp
  · split <;> simp
theorem qb_app (q : UInt8) (esc : Bool) (a b : List UInt8) : qb q esc (a ++ b) = qb q esc a ++ qb q esc b := by simp [qb]
theorem qb_one (q : UInt8) (esc : Bool) (c : UInt8) : qb q esc [c] = qe q esc c := by simp [qb]
theorem qb_cons (q : UInt8) (esc : Bool) (c : UInt8) (r : List UInt8) : qb q esc (c :: r) = qe q esc c ++ qb q esc r := by simp [qb]
theorem qb_le (q : UInt8) (esc : Bool) : ∀ l : List UInt8, (qb q esc l).length ≤ 2 * l.length
  | [] => by simp [qb]
  | c :: r => by
    have h1 := qe_le q esc c
    have h2 := qb_le q esc r
    rw [qb_cons, List.length_append, List.length_cons]
    omega

theorem take_snoc (s : ByteArray) (k : Nat) (hk : k < s.size) : s.data.toList.take (k + 1) = s.data.toList.take k ++ [s[k]] := by
  rw [List.take_succ_eq_append_getElem (by simpa using hk)]; rfl

theorem own_end {B n : Nat} {ao : Option Addr} {cap : Nat} {q : UInt8} {esc : Bool} {l : List UInt8} {W0 w : World} (h : Own B 5 ao n cap (u8s (q :: qb q esc l) ++ [Value.int .u8 (q.toNat : Int)]) W0 w) : Own B 5 ao n cap (u8s (qs q esc l)) W0 w := by
  have e : u8s (qs q esc l) = u8s (q :: qb q esc l) ++ [Value.int .u8 (q.toNat : Int)] := by simp [qs, u8s]
  rw [e]
  exact h

set_option maxRecDepth 100000 in
set_option maxHeartbeats 2000000 in
theorem quote_any (v : ByteArray) (q : UInt8) (esc : Bool) (w : World) (hv : v.size ≤ 1048576) :
    Calls Try.prog 14 #[.string v, .int .u8 q.toNat, .bool esc] w fun e w' => e = .returned (.string ⟨(qs q esc v.data.toList).toArray⟩) ∧ Below w.heap.size w w' := by
  obtain ⟨i0, hi, hz0, hz1, hz2⟩ := info_parts info5
  have h0 : Own w.heap.size 5 none 0 0 [] w w := Own.nil (Below.refl _ _) (Nat.le_refl _)
  go_enter Try.func14, Try.ntmps14
  go_wp2_with (first | (at_builtin; refine wpList_app rfl (.tmp 10) (.tmp 12) 31 rfl _ 5 i0 _ 1 Try.underlying31 hi hz0 hz1 hz2 rfl _ _ _ _ rfl w _ h0 _ 1 rfl rfl (by intro u hu; simp at hu; subst hu; rfl) (by unfold maxLen; omega) (by omega) ?_; intro ao1 cap1 w1 hown1))
  go_loopw [7, 8] (fun s i wr => ∃ (k n : Nat) (ao : Option Addr) (cap : Nat), k ≤ v.size ∧ n ≤ 2 * k + 1 ∧ i = .int .i64 k ∧ s = .slice ao n cap ∧ Own w.heap.size 5 ao n cap (u8s (q :: qb q esc (v.data.toList.take k))) w wr) (fun _ i _ => v.size - (intOf i).toNat)
  case atStart => exact ⟨0, 1, ao1, cap1, Nat.zero_le _, by omega, rfl, rfl, hown1⟩
  case round =>
    clear hown1
    obtain ⟨k, n, ao, cap, hk, hn, rfl, rfl, hown⟩ := hrel
    by_cases hlt : k < v.size
    · have HT : Hid (u8s (q :: qb q esc (v.data.toList.take (k + 1))) = u8s (q :: qb q esc (v.data.toList.take k)) ++ u8s (qe q esc v[k])) := by
        show _ = _
        rw [take_snoc v k hlt, qb_app, qb_one, ← u8s_app]
        rfl
      obtain ⟨c, hc⟩ : ∃ c, v[k] = c := ⟨_, rfl⟩
      rw [hc] at HT
      have hcl := c.toNat_lt
      have hql := q.toNat_lt
      by_cases h1 : c = q
      · have hb : ((c.toNat : Int) == (q.toNat : Int)) = true := by rw [h1]; simp
        have HE : Hid (qe q esc c = [q, q]) := by show _ = _; simp [qe, h1]
        clear h1
        go_wp2_with (first | (at_builtin; refine wpList_app rfl (.tmp 26) (.tmp 29) 31 rfl _ 5 i0 _ 1 Try.underlying31 hi hz0 hz1 hz2 rfl _ _ _ _ rfl w _ hown _ 2 rfl rfl (by intro u hu; simp at hu; subst hu; rfl) (by unfold maxLen; omega) (by omega) ?_; intro ao' cap' w' hown'))
        go_roundw
        case rel =>
          refine ⟨k + 1, _, ao', cap', by omega, ?_, by go_num, rfl, ?_⟩
          · omega
          · rw [HT.out, HE.out]
            exact hown'
        case measure => simp [intOf]; omega
      · have hb : ((c.toNat : Int) == (q.toNat : Int)) = false := by
          rw [beq_eq_false_iff_ne]
          intro x
          exact h1 (UInt8.toNat_inj.1 (by omega))
        by_cases h2 : esc = true ∧ c = 92
        · obtain ⟨rfl, h92⟩ := h2
          have hb2 : ((c.toNat : Int) == 92) = true := by rw [h92]; rfl
          have HE : Hid (qe q true c = [92, 92]) := by show qe q true c = _; rw [qe, if_neg h1, if_pos ⟨rfl, h92⟩]
          clear h1 h92
          go_wp2_with (first | (at_builtin; refine wpList_app rfl (.tmp 36) (.tmp 37) 31 rfl _ 5 i0 _ 1 Try.underlying31 hi hz0 hz1 hz2 rfl _ _ _ _ rfl w _ hown _ 2 rfl rfl (by intro u hu; simp at hu; subst hu; rfl) (by unfold maxLen; omega) (by omega) ?_; intro ao' cap' w' hown'))
          go_roundw
          case rel =>
            refine ⟨k + 1, _, ao', cap', by omega, ?_, by go_num, rfl, ?_⟩
            · omega
            · rw [HT.out, HE.out]
              exact hown'
          case measure => simp [intOf]; omega
        · have HE : Hid (qe q esc c = [c]) := by show qe q esc c = _; rw [qe, if_neg h1, if_neg h2]
          cases esc
          · clear h1 h2
            go_wp2_with (first | (at_builtin; refine wpList_app rfl (.tmp 39) (.tmp 41) 31 rfl _ 5 i0 _ 1 Try.underlying31 hi hz0 hz1 hz2 rfl _ _ _ _ rfl w _ hown _ 1 rfl rfl (by intro u hu; simp at hu; subst hu; rfl) (by unfold maxLen; omega) (by omega) ?_; intro ao' cap' w' hown'))
            go_roundw
            case rel =>
              refine ⟨k + 1, _, ao', cap', by omega, ?_, by go_num, rfl, ?_⟩
              · omega
              · rw [HT.out, HE.out]
                exact hown'
            case measure => simp [intOf]; omega
          · have hb2 : ((c.toNat : Int) == 92) = false := by
              rw [beq_eq_false_iff_ne]
              intro x
              exact h2 ⟨rfl, UInt8.toNat_inj.1 (by rw [show (92 : UInt8).toNat = 92 from rfl]; omega)⟩
            clear h1 h2
            go_wp2_with (first | (at_builtin; refine wpList_app rfl (.tmp 39) (.tmp 41) 31 rfl _ 5 i0 _ 1 Try.underlying31 hi hz0 hz1 hz2 rfl _ _ _ _ rfl w _ hown _ 1 rfl rfl (by intro u hu; simp at hu; subst hu; rfl) (by unfold maxLen; omega) (by omega) ?_; intro ao' cap' w' hown'))
            go_roundw
            case rel =>
              refine ⟨k + 1, _, ao', cap', by omega, ?_, by go_num, rfl, ?_⟩
              · omega
              · rw [HT.out, HE.out]
                exact hown'
            case measure => simp [intOf]; omega
    · rw [List.take_of_length_le (by simpa using hlt)] at hown
      go_wp2_with (first | (at_builtin; refine wpList_app rfl (.tmp 43) (.tmp 45) 31 rfl _ 5 i0 _ 1 Try.underlying31 hi hz0 hz1 hz2 rfl _ _ _ _ rfl w _ hown _ 1 rfl rfl (by intro u hu; simp at hu; subst hu; rfl) (by unfold maxLen; omega) (by omega) ?_; intro ao' cap' w' hown'; have hconv := run_own_string (P := Try.prog) (l := qs q esc v.data.toList) (show Own w.heap.size 5 ao' (n + 1) cap' (u8s (qs q esc v.data.toList)) w w' from own_end hown') 31 9 Try.underlying31 Try.underlying5 Try.underlying9))
      go_ret
      exact ⟨rfl, hown'.2.1⟩
end Go.Proofs.Qxb6601642a
