/-
  'zzNumber': its contract.
-/
import Derived.Test.Qxb6600003aBuild
import Derived.Test.Qxb6600003aAccLaw
namespace Go.Proofs.Qxb6600003a
open Go.RowKit

/-- zzDigits, or a zero where there is none: the two ways of 'if len(x) == 0'. -/
theorem dgs_nil : u8s (dgs []) = [Value.int .u8 48] := rfl
theorem dgs_some {l : List UInt8} (h : 0 < l.length) : dgs l = l.map dgt := by
  cases l with
  | nil => simp at h
  | cons c r => rfl

set_option maxRecDepth 100000 in
set_option maxHeartbeats 4000000 in
theorem number_any (ao : Option Addr) (n cap : Nat) (xs : List Value) (W0 w : World) (hown : Own W0.heap.size 5 ao n cap xs W0 w) (neg : Bool) (a2 : Option Addr) (c2 : Nat) (l2 : List UInt8) (h2 : Src W0 a2 l2.length c2 l2) (hf : Bool) (a4 : Option Addr) (c4 : Nat) (l4 : List UInt8) (h4 : Src W0 a4 l4.length c4 l4)
    (he : Bool) (q : UInt8) (a7 : Option Addr) (c7 : Nat) (l7 : List UInt8) (h7 : Src W0 a7 l7.length c7 l7) (hn : n ≤ 65536) (b2 : l2.length ≤ 65536) (b4 : l4.length ≤ 65536) (b7 : l7.length ≤ 65536) :
    Calls Try.prog 22 #[.slice ao n cap, .bool neg, .slice a2 l2.length c2, .bool hf, .slice a4 l4.length c4, .bool he, .int .u8 q.toNat, .slice a7 l7.length c7] w fun e w' =>
      ∃ ao' n' cap', e = .returned (.slice ao' n' cap') ∧ Own W0.heap.size 5 ao' n' cap' (xs ++ u8s (nmb neg l2 hf l4 he q.toNat l7)) W0 w' := by
  obtain ⟨i0, hi, hz0, hz1, hz2⟩ := info_parts info5
  have H2 : Hid (Src W0 a2 l2.length c2 l2) := h2
  have H4 : Hid (Src W0 a4 l4.length c4 l4) := h4
  have H7 : Hid (Src W0 a7 l7.length c7 l7) := h7
  have HIP := ip_pos neg l2
  have hq := q.toNat_lt
  clear h2 h4 h7
  go_enter Try.func22, Try.ntmps22
  go_upto_if 21 with (go_at_call 26; refine (intPart_any _ _ _ _ _ W0 _ hown _ _ _ l2 H2.out (by omega) (by omega)).mono ?_; rintro e w3 ⟨ao3, cap3, rfl, hown3⟩)
  clear hown
  go_cut [0] (fun s wx => ∃ (ao : Option Addr) (m cap : Nat), s = .slice ao m cap ∧ m ≤ 200000 ∧ Own W0.heap.size 5 ao m cap (xs ++ u8s (ip neg l2 ++ frp hf l4)) W0 wx)
  case first =>
    cases hf
    · go_wp2
      go_meet
      case rel => exact ⟨ao3, _, cap3, rfl, by omega, by rw [show ip neg l2 ++ frp false l4 = ip neg l2 from List.append_nil _]; exact hown3⟩
    · by_cases hl : 0 < l4.length
      · have hb : ((l4.length : Int) == 0) = false := by rw [beq_eq_false_iff_ne]; omega
        go_wp2_with (first | (at_builtin; refine wpList_app rfl _ _ 22 rfl _ 5 i0 _ 1 Try.underlying22 hi hz0 hz1 hz2 rfl _ _ _ _ rfl W0 _ (by assumption) _ 1 rfl rfl (by intro u hu; simp at hu; subst hu; rfl) (by unfold maxLen; omega) (by omega) ?_; intro ao' cap' w' hown') | (go_at_call 36; refine (digits_any _ _ _ _ W0 _ hown' _ _ _ l4 H4.out (by omega) (by omega)).mono ?_; rintro e w5 ⟨ao5, cap5, rfl, hown5⟩))
        go_meet
        case rel =>
          refine ⟨ao5, _, cap5, rfl, by omega, ?_⟩
          have e : xs ++ u8s (ip neg l2 ++ frp true l4) = xs ++ u8s (ip neg l2) ++ [Value.int .u8 46] ++ u8s (l4.map dgt) := by
            rw [show frp true l4 = 46 :: dgs l4 from rfl, dgs_some hl]
            simp [u8s]
          rw [e]
          exact hown5
      · obtain rfl : l4 = [] := List.eq_nil_of_length_eq_zero (by omega)
        go_wp2_with (first | (at_builtin; refine wpList_app rfl _ _ 22 rfl _ 5 i0 _ 1 Try.underlying22 hi hz0 hz1 hz2 rfl _ _ _ _ rfl W0 _ (by assumption) _ 1 rfl rfl (by intro u hu; simp at hu; subst hu; rfl) (by unfold maxLen; omega) (by omega) ?_; intro ao' cap' w' hown'))
        go_meet
        case rel =>
          refine ⟨ao', _, cap', rfl, by omega, ?_⟩
          have e : xs ++ u8s (ip neg l2 ++ frp true []) = xs ++ u8s (ip neg l2) ++ [Value.int .u8 46] ++ [Value.int .u8 48] := by
            rw [show frp true [] = [46, 48] from rfl]
            simp [u8s]
          rw [e]
          exact hown'
  case rest =>
  obtain ⟨ao, m, cap, rfl, hm, hown⟩ := hcut
  clear hown3 HIP
  go_upto_if 34 with fail
  cases he
  · go_wp2
    go_ret
    refine ⟨_, _, _, rfl, ?_⟩
    rw [show nmb neg l2 hf l4 false q.toNat l7 = ip neg l2 ++ frp hf l4 by simp [nmb, exp']]
    exact hown
  · go_upto_if 37 with fail
    go_cut [0] (fun s wx => ∃ (ao : Option Addr) (k cap : Nat), s = .slice ao k cap ∧ k ≤ 200001 ∧ Own W0.heap.size 5 ao k cap (xs ++ u8s (ip neg l2 ++ frp hf l4 ++ [emk q.toNat])) W0 wx)
    case first =>
      by_cases h0 : q.toNat % 2 = 0
      · have hb : ((q.toNat : Int) % 2 == 0) = true := by rw [beq_iff_eq]; omega
        have HE : Hid (emk q.toNat = 101) := by show emk q.toNat = 101; simp [emk, h0]
        clear h0
        go_wp2_with (first | (at_builtin; refine wpList_app rfl _ _ 22 rfl _ 5 i0 _ 1 Try.underlying22 hi hz0 hz1 hz2 rfl _ _ _ _ rfl W0 _ (by assumption) _ 1 rfl rfl (by intro u hu; simp at hu; subst hu; rfl) (by unfold maxLen; omega) (by omega) ?_; intro ao' cap' w' hown'))
        go_meet
        case rel =>
          refine ⟨ao', _, cap', rfl, by omega, ?_⟩
          rw [HE.out, u8s_app, ← List.append_assoc]
          exact hown'
      · have hb : ((q.toNat : Int) % 2 == 0) = false := by rw [beq_eq_false_iff_ne]; omega
        have HE : Hid (emk q.toNat = 69) := by show emk q.toNat = 69; simp [emk, h0]
        clear h0
        go_wp2_with (first | (at_builtin; refine wpList_app rfl _ _ 22 rfl _ 5 i0 _ 1 Try.underlying22 hi hz0 hz1 hz2 rfl _ _ _ _ rfl W0 _ (by assumption) _ 1 rfl rfl (by intro u hu; simp at hu; subst hu; rfl) (by unfold maxLen; omega) (by omega) ?_; intro ao' cap' w' hown'))
        go_meet
        case rel =>
          refine ⟨ao', _, cap', rfl, by omega, ?_⟩
          rw [HE.out, u8s_app, ← List.append_assoc]
          exact hown'
    case rest =>
    clear hown
    obtain ⟨ao, k, cap, rfl, hk, hown⟩ := hcut
    clear hm
    go_upto_block 0 with fail
    go_cut [0] (fun s wx => ∃ (ao : Option Addr) (m cap : Nat), s = .slice ao m cap ∧ m ≤ 200002 ∧ Own W0.heap.size 5 ao m cap (xs ++ u8s (ip neg l2 ++ frp hf l4 ++ [emk q.toNat] ++ esg q.toNat)) W0 wx)
    case first =>
      by_cases h1 : q.toNat / 2 % 3 = 1
      · have hb : ((q.toNat : Int) / 2 % 3 == 1) = true := by rw [beq_iff_eq]; omega
        have HE : Hid (esg q.toNat = [43]) := by show esg q.toNat = [43]; simp [esg, h1]
        clear h1
        go_wp2_with (first | (at_builtin; refine wpList_app rfl _ _ 22 rfl _ 5 i0 _ 1 Try.underlying22 hi hz0 hz1 hz2 rfl _ _ _ _ rfl W0 _ (by assumption) _ 1 rfl rfl (by intro u hu; simp at hu; subst hu; rfl) (by unfold maxLen; omega) (by omega) ?_; intro ao' cap' w' hown'))
        go_meet
        case rel =>
          refine ⟨ao', _, cap', rfl, by omega, ?_⟩
          rw [HE.out, u8s_app, ← List.append_assoc]
          exact hown'
      · have hb : ((q.toNat : Int) / 2 % 3 == 1) = false := by rw [beq_eq_false_iff_ne]; omega
        by_cases h2 : q.toNat / 2 % 3 = 2
        · have hb2 : ((q.toNat : Int) / 2 % 3 == 2) = true := by rw [beq_iff_eq]; omega
          have HE : Hid (esg q.toNat = [45]) := by show esg q.toNat = [45]; simp [esg, h2]
          clear h1 h2
          go_wp2_with (first | (at_builtin; refine wpList_app rfl _ _ 22 rfl _ 5 i0 _ 1 Try.underlying22 hi hz0 hz1 hz2 rfl _ _ _ _ rfl W0 _ (by assumption) _ 1 rfl rfl (by intro u hu; simp at hu; subst hu; rfl) (by unfold maxLen; omega) (by omega) ?_; intro ao' cap' w' hown'))
          go_meet
          case rel =>
            refine ⟨ao', _, cap', rfl, by omega, ?_⟩
            rw [HE.out, u8s_app, ← List.append_assoc]
            exact hown'
        · have hb2 : ((q.toNat : Int) / 2 % 3 == 2) = false := by rw [beq_eq_false_iff_ne]; omega
          have HE : Hid (esg q.toNat = []) := by show esg q.toNat = []; simp [esg, h1, h2]
          clear h1 h2
          go_wp2
          go_meet
          case rel =>
            refine ⟨ao, _, cap, rfl, by omega, ?_⟩
            rw [HE.out, List.append_nil]
            exact hown
    case rest =>
    clear hown
    obtain ⟨ao, m, cap, rfl, hm, hown⟩ := hcut
    clear hk
    by_cases hl : 0 < l7.length
    · have hb : ((l7.length : Int) == 0) = false := by rw [beq_eq_false_iff_ne]; omega
      go_wp2_with (first | (go_at_call 36; refine (digits_any _ _ _ _ W0 _ hown _ _ _ l7 H7.out (by omega) (by omega)).mono ?_; rintro e w5 ⟨ao5, cap5, rfl, hown5⟩))
      go_ret
      refine ⟨_, _, _, rfl, ?_⟩
      have e : xs ++ u8s (nmb neg l2 hf l4 true q.toNat l7) = xs ++ u8s (ip neg l2 ++ frp hf l4 ++ [emk q.toNat] ++ esg q.toNat) ++ u8s (l7.map dgt) := by
        rw [show nmb neg l2 hf l4 true q.toNat l7 = (ip neg l2 ++ frp hf l4 ++ [emk q.toNat] ++ esg q.toNat) ++ dgs l7 by simp [nmb, exp', exq], dgs_some hl, u8s_app _ (l7.map dgt)]
        exact (List.append_assoc _ _ _).symm
      rw [e]
      exact hown5
    · obtain rfl : l7 = [] := List.eq_nil_of_length_eq_zero (by omega)
      go_wp2_with (first | (at_builtin; refine wpList_app rfl _ _ 22 rfl _ 5 i0 _ 1 Try.underlying22 hi hz0 hz1 hz2 rfl _ _ _ _ rfl W0 _ (by assumption) _ 1 rfl rfl (by intro u hu; simp at hu; subst hu; rfl) (by unfold maxLen; omega) (by omega) ?_; intro ao' cap' w' hown'))
      go_ret
      refine ⟨_, _, _, rfl, ?_⟩
      have e : xs ++ u8s (nmb neg l2 hf l4 true q.toNat []) = xs ++ u8s (ip neg l2 ++ frp hf l4 ++ [emk q.toNat] ++ esg q.toNat) ++ [Value.int .u8 48] := by
        rw [show nmb neg l2 hf l4 true q.toNat [] = (ip neg l2 ++ frp hf l4 ++ [emk q.toNat] ++ esg q.toNat) ++ dgs [] by simp [nmb, exp', exq], u8s_app _ (dgs [])]
        exact (List.append_assoc _ _ _).symm
      rw [e]
      exact hown'
end Go.Proofs.Qxb6600003a
