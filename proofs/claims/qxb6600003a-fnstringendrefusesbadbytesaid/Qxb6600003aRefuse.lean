/-
  'FnNumberEndRefusesEmptyPart': the walk.
-/
import Derived.Test.Qxb6600003aBuild
namespace Go.Proofs.Qxb6600003a
open Go.RowKit

/-- A row of bytes of the call's own, read. -/
theorem own_row {B : Nat} {ao : Option Addr} {n cap : Nat} {l : List UInt8} {W0 w : World} (h : Own B 5 ao n cap (u8s l) W0 w) (hl : 0 < l.length) : n = l.length ∧ ∃ g, ao = some ⟨g, 0, none⟩ ∧ Row w g l := by
  have h1 := h.len
  rw [u8s_len] at h1
  subst h1
  obtain ⟨g, rfl, _, _, _, _, hc⟩ := h.at hl
  refine ⟨rfl, g, rfl, fun j hj => ?_⟩
  rw [hc j hj]
  simp [u8s, hj]

/-- What the Go text has built for part p, and where it will want the refusal. -/
theorem want_of (pre l2 : List UInt8) (neg : Bool) (c : UInt8) (p : Nat) (hp : p < 7) (hc : ¬ isD c) (h43 : c.toNat ≠ 43) (h45 : c.toNat ≠ 45) :
    ∀ D t, D.drop pre.length = (ip neg l2 ++ sfx p) ++ (c :: t) → numE D pre.length = (pre.length + (ip neg l2).length + off p, false) := by
  intro D t h
  rw [List.append_assoc] at h
  exact refuse hp h hc h43 h45

set_option maxRecDepth 100000 in
theorem isdig_no (c : UInt8) (w : World) (h : ¬ isD c) : Calls Try.prog 21 #[.int .u8 c.toNat] w fun e w' => e = .returned (.bool false) ∧ w = w' := by
  have hl := c.toNat_lt
  unfold isD at h
  rcases (show c.toNat < 48 ∨ 57 < c.toNat by omega) with hd | hd
  · go_enter Try.func21, Try.ntmps21
    go_wp2
    go_ret
    exact ⟨rfl, rfl⟩
  · have hb : decide ((c.toNat : Int) ≤ 57) = false := by simp; omega
    go_enter Try.func21, Try.ntmps21
    go_wp2
    go_ret
    exact ⟨rfl, rfl⟩

set_option maxRecDepth 100000 in
set_option maxHeartbeats 4000000 in
theorem refuse_walk (pre l2 tl : List UInt8) (a0 a2 a5 : Option Addr) (c0 c2 c5 : Nat) (w : World) (h0 : Src w a0 pre.length c0 pre) (h2 : Src w a2 l2.length c2 l2) (h5 : Src w a5 tl.length c5 tl) (neg : Bool) (q c : UInt8)
    (b0 : pre.length ≤ 65536) (b2 : l2.length ≤ 65536) (b5 : tl.length ≤ 65536) (hc : ¬ isD c) (h43 : c.toNat ≠ 43) (h45 : c.toNat ≠ 45) :
    Calls Try.prog 8 #[.slice a0 pre.length c0, .bool neg, .slice a2 l2.length c2, .int .u8 q.toNat, .int .u8 c.toNat, .slice a5 tl.length c5] w fun e w' => e = .returned (.bool true) ∧ Below w.heap.size w w' := by
  obtain ⟨i0, hi, hz0, hz1, hz2⟩ := info_parts info5
  have H0 : Hid (Src w a0 pre.length c0 pre) := h0
  have H2 : Hid (Src w a2 l2.length c2 l2) := h2
  have H5 : Hid (Src w a5 tl.length c5 tl) := h5
  have HW : Hid (∀ p, p < 7 → ∀ D t, D.drop pre.length = (ip neg l2 ++ sfx p) ++ (c :: t) → numE D pre.length = (pre.length + (ip neg l2).length + off p, false)) := fun p hp => want_of pre l2 neg c p hp hc h43 h45
  have HW7 : Hid (∀ D t, D.drop pre.length = [45] ++ (c :: t) → numE D pre.length = (pre.length + 1, false)) := fun D t h => refuse7 h hc
  have HIP := ip_pos neg l2
  have hq := q.toNat_lt
  have hcl := c.toNat_lt
  have e43 : ((c.toNat : Int) == 43) = false := by rw [beq_eq_false_iff_ne]; omega
  have e45 : ((c.toNat : Int) == 45) = false := by rw [beq_eq_false_iff_ne]; omega
  have HC : Hid (¬ isD c) := hc
  clear h0 h2 h5 hc h43 h45
  go_enter Try.func8, Try.ntmps8
  go_upto_if 64 with (first | (at_make; refine wpList_mk0 rfl _ _ 22 rfl w.heap.size 5 i0 _ 1 Try.underlying22 hi hz0 hz1 hz2 w (Below.refl _ _) (Nat.le_refl _) _ (pre.length + l2.length + tl.length + 5) rfl rfl (by omega) (by omega) (by unfold maxLen; omega) ?_; intro ao1 w1 hown1) | (at_builtin; refine wpList_app_sl rfl (.tmp 56) (.tmp 57) rfl _ _ _ _ rfl w hown1 _ _ _ pre rfl H0.out (by omega) ?_; intro ao2 cap2 w2 hown2; simp only [Nat.zero_add, List.nil_append] at hown2) | (go_at_call 25; go_in) | (go_at_call 21; refine (isdig_no c _ HC.out).mono ?_; rintro e w' ⟨rfl, rfl⟩))
  clear hown1
  go_cut [13, 15, 16] (fun s13 s15 s16 wx => ∃ (ao : Option Addr) (n cap m : Nat) (X : List UInt8), s13 = .slice ao n cap ∧ s15 = .int .i64 m ∧ n ≤ 140000 ∧ m ≤ 140000 ∧ Own w.heap.size 5 ao n cap (u8s (pre ++ X)) w wx ∧ Hid (∀ D t, D.drop pre.length = X ++ (c :: t) → numE D pre.length = (m, false)))
  case first =>
    by_cases h7 : q.toNat % 8 = 7
    · have hb : ((q.toNat : Int) % 8 == 7) = true := by rw [beq_iff_eq]; omega
      clear h7
      go_wp2_with (first | (at_builtin; refine wpList_app rfl _ _ 22 rfl _ 5 i0 _ 1 Try.underlying22 hi hz0 hz1 hz2 rfl _ _ _ _ rfl w _ (by assumption) _ 1 rfl rfl (by intro u hu; simp at hu; subst hu; rfl) (by unfold maxLen; omega) (by omega) ?_; intro ao' cap' w' hown'))
      go_meet
      case rel => exact ⟨ao', _, cap', pre.length + 1, [45], rfl, by go_num, by omega, by omega, by rw [u8s_app]; exact hown', HW7.out⟩
    · have hb : ((q.toNat : Int) % 8 == 7) = false := by rw [beq_eq_false_iff_ne]; omega
      rcases (show q.toNat % 8 = 0 ∨ q.toNat % 8 = 1 ∨ q.toNat % 8 = 2 ∨ q.toNat % 8 = 3 ∨ q.toNat % 8 = 4 ∨ q.toNat % 8 = 5 ∨ q.toNat % 8 = 6 by omega) with hp | hp | hp | hp | hp | hp | hp
      · have hp' : (q.toNat : Int) % 8 = 0 := by omega
        have HX : Hid (∀ D t, D.drop pre.length = (ip neg l2 ++ [46]) ++ (c :: t) → numE D pre.length = (pre.length + (ip neg l2).length + 0, false)) := HW.out 0 (by omega)
        clear hp h7
        go_wp2_with (first | (at_builtin; refine wpList_app rfl _ _ 22 rfl _ 5 i0 _ 1 Try.underlying22 hi hz0 hz1 hz2 rfl _ _ _ _ rfl w _ (by assumption) _ 1 rfl rfl (by intro u hu; simp at hu; subst hu; rfl) (by unfold maxLen; omega) (by omega) ?_; intro ao' cap' w' hown') | (go_at_call 26; refine (intPart_any _ _ _ _ _ w _ hown2 _ _ _ l2 H2.out (by omega) (by omega)).mono ?_; rintro e w3 ⟨ao3, cap3, rfl, hown3⟩))
        go_meet
        case rel =>
          refine ⟨ao', _, cap', pre.length + (ip neg l2).length + 0, ip neg l2 ++ [46], rfl, by go_num, by omega, by omega, ?_, HX⟩
          rw [u8s_app, u8s_app, ← List.append_assoc]
          exact hown'
      · have hp' : (q.toNat : Int) % 8 = 1 := by omega
        have HX : Hid (∀ D t, D.drop pre.length = (ip neg l2 ++ [101]) ++ (c :: t) → numE D pre.length = (pre.length + (ip neg l2).length + 1, false)) := HW.out 1 (by omega)
        clear hp h7
        go_wp2_with (first | (at_builtin; refine wpList_app rfl _ _ 22 rfl _ 5 i0 _ 1 Try.underlying22 hi hz0 hz1 hz2 rfl _ _ _ _ rfl w _ (by assumption) _ 1 rfl rfl (by intro u hu; simp at hu; subst hu; rfl) (by unfold maxLen; omega) (by omega) ?_; intro ao' cap' w' hown') | (go_at_call 26; refine (intPart_any _ _ _ _ _ w _ hown2 _ _ _ l2 H2.out (by omega) (by omega)).mono ?_; rintro e w3 ⟨ao3, cap3, rfl, hown3⟩))
        go_meet
        case rel =>
          refine ⟨ao', _, cap', pre.length + (ip neg l2).length + 1, ip neg l2 ++ [101], rfl, by go_num, by omega, by omega, ?_, HX⟩
          rw [u8s_app, u8s_app, ← List.append_assoc]
          exact hown'
      · have hp' : (q.toNat : Int) % 8 = 2 := by omega
        have HX : Hid (∀ D t, D.drop pre.length = (ip neg l2 ++ [69]) ++ (c :: t) → numE D pre.length = (pre.length + (ip neg l2).length + 1, false)) := HW.out 2 (by omega)
        clear hp h7
        go_wp2_with (first | (at_builtin; refine wpList_app rfl _ _ 22 rfl _ 5 i0 _ 1 Try.underlying22 hi hz0 hz1 hz2 rfl _ _ _ _ rfl w _ (by assumption) _ 1 rfl rfl (by intro u hu; simp at hu; subst hu; rfl) (by unfold maxLen; omega) (by omega) ?_; intro ao' cap' w' hown') | (go_at_call 26; refine (intPart_any _ _ _ _ _ w _ hown2 _ _ _ l2 H2.out (by omega) (by omega)).mono ?_; rintro e w3 ⟨ao3, cap3, rfl, hown3⟩))
        go_meet
        case rel =>
          refine ⟨ao', _, cap', pre.length + (ip neg l2).length + 1, ip neg l2 ++ [69], rfl, by go_num, by omega, by omega, ?_, HX⟩
          rw [u8s_app, u8s_app, ← List.append_assoc]
          exact hown'
      · have hp' : (q.toNat : Int) % 8 = 3 := by omega
        have HX : Hid (∀ D t, D.drop pre.length = (ip neg l2 ++ [101, 43]) ++ (c :: t) → numE D pre.length = (pre.length + (ip neg l2).length + 2, false)) := HW.out 3 (by omega)
        clear hp h7
        go_wp2_with (first | (at_builtin; refine wpList_app rfl _ _ 22 rfl _ 5 i0 _ 1 Try.underlying22 hi hz0 hz1 hz2 rfl _ _ _ _ rfl w _ (by assumption) _ 1 rfl rfl (by intro u hu; simp at hu; subst hu; rfl) (by unfold maxLen; omega) (by omega) ?_; intro ao' cap' w' hown') | (go_at_call 26; refine (intPart_any _ _ _ _ _ w _ hown2 _ _ _ l2 H2.out (by omega) (by omega)).mono ?_; rintro e w3 ⟨ao3, cap3, rfl, hown3⟩))
        go_meet
        case rel =>
          refine ⟨ao', _, cap', pre.length + (ip neg l2).length + 2, ip neg l2 ++ [101, 43], rfl, by go_num, by omega, by omega, ?_, HX⟩
          rw [u8s_app, u8s_app, ← List.append_assoc]
          rw [List.append_assoc (u8s pre ++ u8s (ip neg l2))] at hown'; exact hown'
      · have hp' : (q.toNat : Int) % 8 = 4 := by omega
        have HX : Hid (∀ D t, D.drop pre.length = (ip neg l2 ++ [101, 45]) ++ (c :: t) → numE D pre.length = (pre.length + (ip neg l2).length + 2, false)) := HW.out 4 (by omega)
        clear hp h7
        go_wp2_with (first | (at_builtin; refine wpList_app rfl _ _ 22 rfl _ 5 i0 _ 1 Try.underlying22 hi hz0 hz1 hz2 rfl _ _ _ _ rfl w _ (by assumption) _ 1 rfl rfl (by intro u hu; simp at hu; subst hu; rfl) (by unfold maxLen; omega) (by omega) ?_; intro ao' cap' w' hown') | (go_at_call 26; refine (intPart_any _ _ _ _ _ w _ hown2 _ _ _ l2 H2.out (by omega) (by omega)).mono ?_; rintro e w3 ⟨ao3, cap3, rfl, hown3⟩))
        go_meet
        case rel =>
          refine ⟨ao', _, cap', pre.length + (ip neg l2).length + 2, ip neg l2 ++ [101, 45], rfl, by go_num, by omega, by omega, ?_, HX⟩
          rw [u8s_app, u8s_app, ← List.append_assoc]
          rw [List.append_assoc (u8s pre ++ u8s (ip neg l2))] at hown'; exact hown'
      · have hp' : (q.toNat : Int) % 8 = 5 := by omega
        have HX : Hid (∀ D t, D.drop pre.length = (ip neg l2 ++ [69, 43]) ++ (c :: t) → numE D pre.length = (pre.length + (ip neg l2).length + 2, false)) := HW.out 5 (by omega)
        clear hp h7
        go_wp2_with (first | (at_builtin; refine wpList_app rfl _ _ 22 rfl _ 5 i0 _ 1 Try.underlying22 hi hz0 hz1 hz2 rfl _ _ _ _ rfl w _ (by assumption) _ 1 rfl rfl (by intro u hu; simp at hu; subst hu; rfl) (by unfold maxLen; omega) (by omega) ?_; intro ao' cap' w' hown') | (go_at_call 26; refine (intPart_any _ _ _ _ _ w _ hown2 _ _ _ l2 H2.out (by omega) (by omega)).mono ?_; rintro e w3 ⟨ao3, cap3, rfl, hown3⟩))
        go_meet
        case rel =>
          refine ⟨ao', _, cap', pre.length + (ip neg l2).length + 2, ip neg l2 ++ [69, 43], rfl, by go_num, by omega, by omega, ?_, HX⟩
          rw [u8s_app, u8s_app, ← List.append_assoc]
          rw [List.append_assoc (u8s pre ++ u8s (ip neg l2))] at hown'; exact hown'
      · have hp' : (q.toNat : Int) % 8 = 6 := by omega
        have HX : Hid (∀ D t, D.drop pre.length = (ip neg l2 ++ [69, 45]) ++ (c :: t) → numE D pre.length = (pre.length + (ip neg l2).length + 2, false)) := HW.out 6 (by omega)
        clear hp h7
        go_wp2_with (first | (at_builtin; refine wpList_app rfl _ _ 22 rfl _ 5 i0 _ 1 Try.underlying22 hi hz0 hz1 hz2 rfl _ _ _ _ rfl w _ (by assumption) _ 1 rfl rfl (by intro u hu; simp at hu; subst hu; rfl) (by unfold maxLen; omega) (by omega) ?_; intro ao' cap' w' hown') | (go_at_call 26; refine (intPart_any _ _ _ _ _ w _ hown2 _ _ _ l2 H2.out (by omega) (by omega)).mono ?_; rintro e w3 ⟨ao3, cap3, rfl, hown3⟩))
        go_meet
        case rel =>
          refine ⟨ao', _, cap', pre.length + (ip neg l2).length + 2, ip neg l2 ++ [69, 45], rfl, by go_num, by omega, by omega, ?_, HX⟩
          rw [u8s_app, u8s_app, ← List.append_assoc]
          rw [List.append_assoc (u8s pre ++ u8s (ip neg l2))] at hown'; exact hown'
  case rest =>
  obtain ⟨ao, n, cap, m, X, rfl, rfl, hn, hm, hown, HX⟩ := hcut
  clear hown2
  go_wp2_with (first | (at_builtin; refine wpList_app rfl (.tmp 117) (.tmp 119) 22 rfl _ 5 i0 _ 1 Try.underlying22 hi hz0 hz1 hz2 rfl _ _ _ _ rfl w _ hown _ 1 rfl rfl (by intro u hu; simp at hu; subst hu; rfl) (by unfold maxLen; omega) (by omega) ?_; intro ao3 cap3 w3 hown3) | (at_builtin; refine wpList_app_sl rfl (.tmp 121) (.tmp 122) rfl _ _ _ _ rfl w hown3 _ _ _ tl rfl H5.out (by omega) ?_; intro ao4 cap4 w4 hown4))
  have e : u8s (pre ++ X) ++ [Value.int .u8 (c.toNat : Int)] ++ u8s tl = u8s (pre ++ (X ++ (c :: tl))) := by simp [u8s]
  rw [e] at hown4
  obtain ⟨D, hD⟩ : ∃ D, D = pre ++ (X ++ (c :: tl)) := ⟨_, rfl⟩
  have hN := HX.out D tl (by rw [hD, List.drop_left])
  have hDl : pre.length + 1 ≤ D.length := by rw [hD]; simp; omega
  rw [← hD] at hown4
  have hb4 := hown4.2.1
  obtain ⟨hlen, g, rfl, hrow⟩ := own_row hown4 (by omega)
  rw [hlen]
  have H := znum_any g cap4 D pre.length w4 hrow (by omega) (by omega)
  rw [hN] at H
  refine H.mono ?_
  rintro e w' ⟨rfl, rfl⟩
  clear H hN hD hDl hlen hrow hown4 hown3 hown e
  go_wp2_with fail
  go_ret
  exact ⟨by simp, hb4⟩
end Go.Proofs.Qxb6600003a
