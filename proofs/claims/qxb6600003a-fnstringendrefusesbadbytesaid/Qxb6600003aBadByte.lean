/-
  'FnStringEndRefusesBadByte': the walk.
-/
import Derived.Test.Qxb6600003aStrEnd
import Derived.Test.Qxb6600003aRefuse
namespace Go.Proofs.Qxb6600003a
open Go.RowKit

set_option maxRecDepth 100000 in
set_option maxHeartbeats 8000000 in
theorem bad_walk (l lF tl : List UInt8) (a0 a1 a4 : Option Addr) (c0 c1 c4 : Nat) (w : World) (h0 : Src w a0 l.length c0 l) (h1 : Src w a1 lF.length c1 lF) (h4 : Src w a4 tl.length c4 tl) (c : UInt8) (esc : Bool)
    (b0 : l.length ≤ 65536) (b1 : lF.length ≤ 65536) (b4 : tl.length ≤ 65536) (hc : (esc = true ∧ noesc c) ∨ (esc = false ∧ c.toNat < 32)) :
    Calls Try.prog 5 #[.slice a0 l.length c0, .slice a1 lF.length c1, .int .u8 c.toNat, .bool esc, .slice a4 tl.length c4] w fun e w' => e = .returned (.bool true) ∧ Below w.heap.size w w' := by
  obtain ⟨i0, hi, hz0, hz1, hz2⟩ := info_parts info5
  have H0 : Hid (Src w a0 l.length c0 l) := h0
  have H1 : Hid (Src w a1 lF.length c1 lF) := h1
  have H4 : Hid (Src w a4 tl.length c4 tl) := h4
  have hcl := c.toNat_lt
  clear h0 h1 h4
  rcases hc with ⟨rfl, hc⟩ | ⟨rfl, hc⟩
  · have HC : Hid (noesc c) := hc
    obtain ⟨x1, x2, x3, x4, x5, x6, x7, x8, x9⟩ := hc
    have e1 : ((c.toNat : Int) == 34) = false := by rw [beq_eq_false_iff_ne]; omega
    have e2 : ((c.toNat : Int) == 92) = false := by rw [beq_eq_false_iff_ne]; omega
    have e3 : ((c.toNat : Int) == 47) = false := by rw [beq_eq_false_iff_ne]; omega
    have e4 : ((c.toNat : Int) == 98) = false := by rw [beq_eq_false_iff_ne]; omega
    have e5 : ((c.toNat : Int) == 102) = false := by rw [beq_eq_false_iff_ne]; omega
    have e6 : ((c.toNat : Int) == 110) = false := by rw [beq_eq_false_iff_ne]; omega
    have e7 : ((c.toNat : Int) == 114) = false := by rw [beq_eq_false_iff_ne]; omega
    have e8 : ((c.toNat : Int) == 116) = false := by rw [beq_eq_false_iff_ne]; omega
    have e9 : ((c.toNat : Int) == 117) = false := by rw [beq_eq_false_iff_ne]; omega
    clear x1 x2 x3 x4 x5 x6 x7 x8 x9
    go_enter Try.func5, Try.ntmps5
    go_wp2_with (first | (at_make; refine wpList_mk0 rfl _ _ 22 rfl w.heap.size 5 i0 _ 1 Try.underlying22 hi hz0 hz1 hz2 w (Below.refl _ _) (Nat.le_refl _) _ (6 * l.length + 3 + tl.length) rfl rfl (by omega) (by omega) (by unfold maxLen; omega) ?_; intro ao1 w1 hown1) | (at_builtin; refine wpList_app rfl (.tmp 53) (.tmp 54) 22 rfl _ 5 i0 _ 1 Try.underlying22 hi hz0 hz1 hz2 rfl _ _ _ _ rfl w _ hown1 _ 1 rfl rfl (by intro u hu; simp at hu; subst hu; rfl) (by unfold maxLen; omega) (by omega) ?_; intro ao2 cap2 w2 hown2; simp only [Nat.zero_add, List.nil_append] at hown2) | (go_at_call 19; refine (escBody_any _ _ l _ _ _ _ _ _ lF w _ hown2 H0.out H1.out (by omega) (by omega) (by omega)).mono ?_; rintro e w3 ⟨ao3, n3, cap3, rfl, ts, hts, htk, hn3, hown3⟩; have HTS : Hid (ts.length = l.length) := hts; have HTK : Hid (∀ t ∈ ts, tk t) := htk; clear hts htk) | (at_builtin; refine wpList_app rfl (.tmp 61) (.tmp 62) 22 rfl _ 5 i0 _ 1 Try.underlying22 hi hz0 hz1 hz2 rfl _ _ _ _ rfl w _ hown3 _ 1 rfl rfl (by intro u hu; simp at hu; subst hu; rfl) (by unfold maxLen; omega) (by omega) ?_; intro ao4 cap4 w4 hown4) | (at_builtin; refine wpList_app rfl (.tmp 66) (.tmp 68) 22 rfl _ 5 i0 _ 1 Try.underlying22 hi hz0 hz1 hz2 rfl _ _ _ _ rfl w _ hown4 _ 1 rfl rfl (by intro u hu; simp at hu; subst hu; rfl) (by unfold maxLen; omega) (by omega) ?_; intro ao5 cap5 w5 hown5) | (at_builtin; refine wpList_app_sl rfl (.tmp 70) (.tmp 71) rfl _ _ _ _ rfl w hown5 _ _ _ tl rfl H4.out (by omega) ?_; intro ao6 cap6 w6 hown6) | (go_at_call 18; go_in))
    have e : [Value.int .u8 34] ++ u8s ts.flatten ++ [Value.int .u8 92] ++ [Value.int .u8 (c.toNat : Int)] ++ u8s tl = u8s (34 :: (ts.flatten ++ (92 :: c :: tl))) := by simp [u8s]
    rw [e] at hown6
    have hlen3 : 1 + ts.flatten.length = n3 := by have := hown3.len; simpa [u8s_len, Nat.add_comm] using this
    obtain ⟨D, hD⟩ : ∃ D : List UInt8, D = 34 :: (ts.flatten ++ (92 :: c :: tl)) := ⟨_, rfl⟩
    have hDd : D.drop 1 = ts.flatten ++ (92 :: c :: tl) := by rw [hD]; rfl
    have hDl : 1 ≤ D.length := by rw [hD]; simp
    rw [← hD] at hown6
    have hb6 := hown6.2.1
    obtain ⟨hlen, g, rfl, hrow⟩ := own_row hown6 (by omega)
    rw [hlen]
    have H := zstrEnd_bad g cap6 D w6 hrow (by omega) ts (92 :: c :: tl) 1 HTK.out hDd (.inr ⟨c, tl, rfl, HC.out, rfl⟩) hDl (n3 + 1) (by omega)
    refine H.mono ?_
    rintro e w' ⟨rfl, rfl⟩
    clear H hD hDd hDl hlen hrow hown6 hown5 hown4 hown3 hown2 hown1 e hlen3
    go_wp2_with fail
    go_ret
    exact ⟨by simp, hb6⟩
  · have HC : Hid (c.toNat < 32) := hc
    go_enter Try.func5, Try.ntmps5
    go_wp2_with (first | (at_make; refine wpList_mk0 rfl _ _ 22 rfl w.heap.size 5 i0 _ 1 Try.underlying22 hi hz0 hz1 hz2 w (Below.refl _ _) (Nat.le_refl _) _ (6 * l.length + 3 + tl.length) rfl rfl (by omega) (by omega) (by unfold maxLen; omega) ?_; intro ao1 w1 hown1) | (at_builtin; refine wpList_app rfl (.tmp 53) (.tmp 54) 22 rfl _ 5 i0 _ 1 Try.underlying22 hi hz0 hz1 hz2 rfl _ _ _ _ rfl w _ hown1 _ 1 rfl rfl (by intro u hu; simp at hu; subst hu; rfl) (by unfold maxLen; omega) (by omega) ?_; intro ao2 cap2 w2 hown2; simp only [Nat.zero_add, List.nil_append] at hown2) | (go_at_call 19; refine (escBody_any _ _ l _ _ _ _ _ _ lF w _ hown2 H0.out H1.out (by omega) (by omega) (by omega)).mono ?_; rintro e w3 ⟨ao3, n3, cap3, rfl, ts, hts, htk, hn3, hown3⟩; have HTS : Hid (ts.length = l.length) := hts; have HTK : Hid (∀ t ∈ ts, tk t) := htk; clear hts htk) | (at_builtin; refine wpList_app rfl (.tmp 66) (.tmp 68) 22 rfl _ 5 i0 _ 1 Try.underlying22 hi hz0 hz1 hz2 rfl _ _ _ _ rfl w _ hown3 _ 1 rfl rfl (by intro u hu; simp at hu; subst hu; rfl) (by unfold maxLen; omega) (by omega) ?_; intro ao5 cap5 w5 hown5) | (at_builtin; refine wpList_app_sl rfl (.tmp 70) (.tmp 71) rfl _ _ _ _ rfl w hown5 _ _ _ tl rfl H4.out (by omega) ?_; intro ao6 cap6 w6 hown6) | (go_at_call 18; go_in))
    have e : [Value.int .u8 34] ++ u8s ts.flatten ++ [Value.int .u8 (c.toNat : Int)] ++ u8s tl = u8s (34 :: (ts.flatten ++ (c :: tl))) := by simp [u8s]
    rw [e] at hown6
    have hlen3 : 1 + ts.flatten.length = n3 := by have := hown3.len; simpa [u8s_len, Nat.add_comm] using this
    obtain ⟨D, hD⟩ : ∃ D : List UInt8, D = 34 :: (ts.flatten ++ (c :: tl)) := ⟨_, rfl⟩
    have hDd : D.drop 1 = ts.flatten ++ (c :: tl) := by rw [hD]; rfl
    have hDl : 1 ≤ D.length := by rw [hD]; simp
    rw [← hD] at hown6
    have hb6 := hown6.2.1
    obtain ⟨hlen, g, rfl, hrow⟩ := own_row hown6 (by omega)
    rw [hlen]
    have H := zstrEnd_bad g cap6 D w6 hrow (by omega) ts (c :: tl) 0 HTK.out hDd (.inl ⟨c, tl, rfl, HC.out, rfl⟩) hDl n3 (by omega)
    refine H.mono ?_
    rintro e w' ⟨rfl, rfl⟩
    clear H hD hDd hDl hlen hrow hown6 hown5 hown3 hown2 hown1 e hlen3
    go_wp2_with fail
    go_ret
    exact ⟨by simp, hb6⟩
end Go.Proofs.Qxb6600003a
