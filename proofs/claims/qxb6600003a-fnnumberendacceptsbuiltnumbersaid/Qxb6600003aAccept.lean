/-
  'FnNumberEndAcceptsBuiltNumber': the walk.
-/
import Derived.Test.Qxb6600003aNumber
import Derived.Test.Qxb6600003aRefuse
namespace Go.Proofs.Qxb6600003a
open Go.RowKit

theorem nmb_pos (neg : Bool) (l : List UInt8) (hf : Bool) (fl : List UInt8) (he : Bool) (f : Nat) (el : List UInt8) : 0 < (nmb neg l hf fl he f el).length := by
  have : 0 < (ip neg l).length := by cases neg <;> cases l <;> simp [ip, ipb]
  simp only [nmb, List.length_append]
  omega

set_option maxRecDepth 100000 in
set_option maxHeartbeats 4000000 in
theorem accept_walk (pre l2 l4 l7 tl : List UInt8) (a0 a2 a4 a7 a8 : Option Addr) (c0 c2 c4 c7 c8 : Nat) (w : World) (h0 : Src w a0 pre.length c0 pre) (h2 : Src w a2 l2.length c2 l2) (h4 : Src w a4 l4.length c4 l4) (h7 : Src w a7 l7.length c7 l7) (h8 : Src w a8 tl.length c8 tl)
    (neg hf he : Bool) (q : UInt8) (b0 : pre.length ≤ 65536) (b2 : l2.length ≤ 65536) (b4 : l4.length ≤ 65536) (b7 : l7.length ≤ 65536) (b8 : tl.length ≤ 65536) (ht : tok tl) :
    Calls Try.prog 6 #[.slice a0 pre.length c0, .bool neg, .slice a2 l2.length c2, .bool hf, .slice a4 l4.length c4, .bool he, .int .u8 q.toNat, .slice a7 l7.length c7, .slice a8 tl.length c8] w fun e w' => e = .returned (.bool true) ∧ Below w.heap.size w w' := by
  obtain ⟨i0, hi, hz0, hz1, hz2⟩ := info_parts info5
  have H0 : Hid (Src w a0 pre.length c0 pre) := h0
  have H2 : Hid (Src w a2 l2.length c2 l2) := h2
  have H4 : Hid (Src w a4 l4.length c4 l4) := h4
  have H7 : Hid (Src w a7 l7.length c7 l7) := h7
  have H8 : Hid (Src w a8 tl.length c8 tl) := h8
  have HT : Hid (tok tl) := ht
  obtain ⟨X, hX⟩ : ∃ X, X = nmb neg l2 hf l4 he q.toNat l7 := ⟨_, rfl⟩
  have hXl : X.length ≤ 300000 := by have := nmb_le neg l2 hf l4 he q.toNat l7; rw [hX]; omega
  have HX : Hid (X = nmb neg l2 hf l4 he q.toNat l7) := hX
  have hq := q.toNat_lt
  clear h0 h2 h4 h7 h8 ht hX
  go_enter Try.func6, Try.ntmps6
  go_upto_if 53 with (go_at_call 20; go_in)
  go_cut [] (fun wx => w = wx)
  case first =>
    by_cases hl : 0 < tl.length
    · obtain ⟨t, r, htr⟩ : ∃ t r, tl = t :: r := by cases tl with | nil => simp at hl | cons t r => exact ⟨t, r, rfl⟩
      obtain ⟨_, _, _, _, hcells⟩ := H8.out
      obtain ⟨b, off, rfl, hb, hc⟩ := hcells hl
      have hc0 : w.cell? ⟨b, off, none⟩ = some (.int .u8 (t.toNat : Int)) := by have := hc 0 hl; simpa [htr] using this
      obtain ⟨hd, h46, h101, h69⟩ := HT.out t r htr
      have HD : Hid (¬ isD t) := hd
      have e46 : ((t.toNat : Int) == 46) = false := by rw [beq_eq_false_iff_ne]; omega
      have e101 : ((t.toNat : Int) == 101) = false := by rw [beq_eq_false_iff_ne]; omega
      have e69 : ((t.toNat : Int) == 69) = false := by rw [beq_eq_false_iff_ne]; omega
      clear hc hd h46 h101 h69 htr hcells
      go_wp2_with (go_at_call 21; refine (isdig_no t _ HD.out).mono ?_; rintro e w' ⟨rfl, rfl⟩)
      go_meet
      case rel => rfl
    · go_wp2
      go_meet
      case rel => rfl
  case rest =>
  subst hcut
  go_wp2_with (first | (at_make; refine wpList_mk0 rfl _ _ 22 rfl w.heap.size 5 i0 _ 1 Try.underlying22 hi hz0 hz1 hz2 w (Below.refl _ _) (Nat.le_refl _) _ (pre.length + l2.length + l4.length + l7.length + tl.length + 8) rfl rfl (by omega) (by omega) (by unfold maxLen; omega) ?_; intro ao1 w1 hown1) | (at_builtin; refine wpList_app_sl rfl (.tmp 87) (.tmp 88) rfl _ _ _ _ rfl w hown1 _ _ _ pre rfl H0.out (by omega) ?_; intro ao2 cap2 w2 hown2; simp only [Nat.zero_add, List.nil_append] at hown2) | (go_at_call 22; refine (number_any _ _ _ _ w _ hown2 neg _ _ l2 H2.out hf _ _ l4 H4.out he q _ _ l7 H7.out (by omega) (by omega) (by omega) (by omega)).mono ?_; rintro e w3 ⟨ao3, n3, cap3, rfl, hown3⟩; rw [← HX.out, ← u8s_app] at hown3; obtain rfl : n3 = pre.length + X.length := by have := hown3.len; rw [u8s_len, List.length_append] at this; exact this.symm) | (at_builtin; refine wpList_app_sl rfl (.tmp 103) (.tmp 104) rfl _ _ _ _ rfl w hown3 _ _ _ tl rfl H8.out (by omega) ?_; intro ao4 cap4 w4 hown4))
  rw [← u8s_app] at hown4
  obtain ⟨D, hD⟩ : ∃ D, D = pre ++ X ++ tl := ⟨_, rfl⟩
  have hN := accept (D := D) (i := pre.length) (neg := neg) (l := l2) (hf := hf) (fl := l4) (he := he) (f := q.toNat) (el := l7) (t := tl) (by rw [hD, List.append_assoc, List.drop_left, HX.out]) HT.out
  rw [← HX.out] at hN
  have hDl : pre.length + X.length + tl.length = D.length := by rw [hD]; simp only [List.length_append]
  have hXp : 0 < X.length := by rw [HX.out]; exact nmb_pos _ _ _ _ _ _ _
  rw [← hD] at hown4
  have hb4 := hown4.2.1
  obtain ⟨hlen, g, rfl, hrow⟩ := own_row hown4 (by omega)
  rw [hlen]
  have H := znum_any g cap4 D pre.length w4 hrow (by omega) (by omega)
  rw [hN] at H
  refine H.mono ?_
  rintro e w' ⟨rfl, rfl⟩
  clear H hN hD hDl hlen hrow hown4 hown3
  go_wp2_with fail
  go_ret
  exact ⟨by simp, hb4⟩
end Go.Proofs.Qxb6600003a
