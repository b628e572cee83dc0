/-
  The escapes: 'zzForm', 'zzHexDigit', 'zzEscBody': what is written is a row of tokens that a JSON string may hold.
-/
import Derived.Test.Qxb6600003aBuild
import Derived.Laws.BitsLemmas
namespace Go.Proofs.Qxb6600003a
open Go.RowKit

def hx (c : UInt8) : Prop := (48 ≤ c.toNat ∧ c.toNat ≤ 57) ∨ (97 ≤ c.toNat ∧ c.toNat ≤ 102) ∨ (65 ≤ c.toNat ∧ c.toNat ≤ 70)

theorem u8_of {n : Nat} (h : n < 256) : (UInt8.ofNat n).toNat = n := by simp; omega

theorem hex_ret {v : Int} {n : Nat} (hv : v = (n : Int)) (hn : (48 ≤ n ∧ n ≤ 57) ∨ (97 ≤ n ∧ n ≤ 102) ∨ (65 ≤ n ∧ n ≤ 70)) : ∃ c : UInt8, Ending.returned (.int .u8 v) = .returned (.int .u8 (c.toNat : Int)) ∧ hx c := by
  refine ⟨UInt8.ofNat n, ?_, ?_⟩
  · rw [u8_of (by omega), hv]
  · unfold hx; rw [u8_of (by omega)]; exact hn

set_option maxRecDepth 100000 in
theorem hexDigit_any (v : Int) (up : Bool) (w : World) (h0 : 0 ≤ v) (h1 : v < 16) :
    Calls Try.prog 34 #[.int .u8 v, .bool up] w fun e w' => (∃ c : UInt8, e = .returned (.int .u8 c.toNat) ∧ hx c) ∧ w = w' := by
  obtain ⟨n, rfl⟩ := Int.eq_ofNat_of_zero_le h0
  by_cases h : n < 10
  · go_enter Try.func34, Try.ntmps34
    go_wp2
    go_ret
    exact ⟨hex_ret (n := 48 + n) (by omega) (by omega), rfl⟩
  · cases up
    · go_enter Try.func34, Try.ntmps34
      go_wp2
      go_ret
      exact ⟨hex_ret (n := 97 + n - 10) (by omega) (by omega), rfl⟩
    · go_enter Try.func34, Try.ntmps34
      go_wp2
      go_ret
      exact ⟨hex_ret (n := 65 + n - 10) (by omega) (by omega), rfl⟩

set_option maxRecDepth 100000 in
theorem form_any (W0 w : World) (hb : Below W0.heap.size W0 w) (aF : Option Addr) (cF : Nat) (lF : List UInt8) (hs : Src W0 aF lF.length cF lF) (hl : lF.length ≤ 65536) (k : Nat) (hk : k ≤ 65536) :
    Calls Try.prog 33 #[.slice aF lF.length cF, .int .i64 k] w fun e w' => (∃ f : UInt8, e = .returned (.int .u8 f.toNat)) ∧ w = w' := by
  by_cases h0 : 0 < lF.length
  · obtain ⟨_, _, _, _, hcells⟩ := hs
    obtain ⟨b, off, rfl, hbl, hc⟩ := hcells h0
    have hm : k % lF.length < lF.length := Nat.mod_lt _ h0
    have hcell : w.cell? ⟨b, off + k % lF.length, none⟩ = some (.int .u8 (lF[k % lF.length].toNat : Int)) := (hb.cell (p := ⟨b, off + k % lF.length, none⟩) hbl).trans (hc _ hm)
    have hb0 : ((lF.length : Int) == 0) = false := by rw [beq_eq_false_iff_ne]; omega
    have hmi : (k : Int) % (lF.length : Int) < (lF.length : Int) := by have := Int.ofNat_lt.2 hm; simpa using this
    have hmn : 0 ≤ (k : Int) % (lF.length : Int) := Int.emod_nonneg _ (by omega)
    clear hc hcells
    go_enter Try.func33, Try.ntmps33
    go_wp2
    go_ret
    exact ⟨⟨_, rfl⟩, rfl⟩
  · have h00 : lF.length = 0 := by omega
    rw [h00]
    go_enter Try.func33, Try.ntmps33
    go_wp2
    go_ret
    exact ⟨⟨0, rfl⟩, rfl⟩

/-- One token of a JSON string's body. -/
def tk (t : List UInt8) : Prop :=
  (∃ b : UInt8, t = [b] ∧ 32 ≤ b.toNat ∧ b.toNat ≠ 34 ∧ b.toNat ≠ 92) ∨
  (∃ x : UInt8, t = [92, x] ∧ (x = 34 ∨ x = 92 ∨ x = 47 ∨ x = 98 ∨ x = 102 ∨ x = 110 ∨ x = 114 ∨ x = 116)) ∨
  (∃ h1 h2 h3 h4 : UInt8, t = [92, 117, h1, h2, h3, h4] ∧ hx h1 ∧ hx h2 ∧ hx h3 ∧ hx h4)

theorem tk_len {t : List UInt8} (h : tk t) : t.length ≤ 6 := by
  rcases h with ⟨b, rfl, _⟩ | ⟨x, rfl, _⟩ | ⟨h1, h2, h3, h4, rfl, _⟩ <;> simp

theorem flat_len : ∀ (ts : List (List UInt8)), (∀ t ∈ ts, tk t) → ts.flatten.length ≤ 6 * ts.length
  | [], _ => by simp
  | t :: r, h => by
    have h1 := tk_len (h t (by simp))
    have h2 := flat_len r (fun x hx => h x (by simp [hx]))
    simp only [List.flatten_cons, List.length_append, List.length_cons]
    omega

theorem one2 (a b : Int) : ∀ u ∈ [Value.int .u8 a, .int .u8 b], u.oneCell' = true := by
  intro u hu
  simp at hu
  rcases hu with rfl | rfl <;> rfl
theorem one6 (a b c d e f : Int) : ∀ u ∈ [Value.int .u8 a, .int .u8 b, .int .u8 c, .int .u8 d, .int .u8 e, .int .u8 f], u.oneCell' = true := by
  intro u hu
  simp only [List.mem_cons, List.not_mem_nil, or_false] at hu
  rcases hu with rfl | rfl | rfl | rfl | rfl | rfl <;> rfl

/-- What the loop holds behind k rounds. -/
def Esc (W0 : World) (xs : List Value) (n0 k : Nat) (ao : Option Addr) (n cap : Nat) (w : World) : Prop :=
  ∃ ts : List (List UInt8), ts.length = k ∧ (∀ t ∈ ts, tk t) ∧ n ≤ n0 + 6 * k ∧ Own W0.heap.size 5 ao n cap (xs ++ u8s ts.flatten) W0 w

theorem Esc.next {W0 : World} {xs : List Value} {n0 k : Nat} {n m : Nat} {w' : World} {ao' : Option Addr} {cap' : Nat} {t : List UInt8} {ts : List (List UInt8)} (hl : ts.length = k) (ht : ∀ t ∈ ts, tk t) (hn : n ≤ n0 + 6 * k) (htk : tk t) (hm : t.length = m)
    (h : Own W0.heap.size 5 ao' (n + m) cap' (xs ++ u8s ts.flatten ++ u8s t) W0 w') : Esc W0 xs n0 (k + 1) ao' (n + m) cap' w' := by
  refine ⟨ts ++ [t], by simp [hl], ?_, by have := tk_len htk; omega, ?_⟩
  · intro x hx
    rcases List.mem_append.1 hx with hx | hx
    · exact ht x hx
    · simp at hx; subst hx; exact htk
  · rw [List.flatten_append, u8s_app, ← List.append_assoc]
    simpa using h

set_option maxRecDepth 100000 in
theorem se_no (c : UInt8) (w : World) (h : ¬ (c.toNat = 8 ∨ c.toNat = 9 ∨ c.toNat = 10 ∨ c.toNat = 12 ∨ c.toNat = 13)) : Calls Try.prog 35 #[.int .u8 c.toNat] w fun e w' => e = .returned (.int .u8 0) ∧ w = w' := by
  have h8 : ((c.toNat : Int) == 8) = false := by rw [beq_eq_false_iff_ne]; omega
  have h9 : ((c.toNat : Int) == 9) = false := by rw [beq_eq_false_iff_ne]; omega
  have h10 : ((c.toNat : Int) == 10) = false := by rw [beq_eq_false_iff_ne]; omega
  have h12 : ((c.toNat : Int) == 12) = false := by rw [beq_eq_false_iff_ne]; omega
  have h13 : ((c.toNat : Int) == 13) = false := by rw [beq_eq_false_iff_ne]; omega
  clear h
  go_enter Try.func35, Try.ntmps35
  go_wp2
  go_ret
  exact ⟨rfl, rfl⟩

set_option maxRecDepth 100000 in
theorem se_lit (w : World) : (Calls Try.prog 35 #[.int .u8 8] w fun e w' => e = .returned (.int .u8 98) ∧ w = w') ∧ (Calls Try.prog 35 #[.int .u8 9] w fun e w' => e = .returned (.int .u8 116) ∧ w = w') ∧
    (Calls Try.prog 35 #[.int .u8 10] w fun e w' => e = .returned (.int .u8 110) ∧ w = w') ∧ (Calls Try.prog 35 #[.int .u8 12] w fun e w' => e = .returned (.int .u8 102) ∧ w = w') ∧ (Calls Try.prog 35 #[.int .u8 13] w fun e w' => e = .returned (.int .u8 114) ∧ w = w') := by
  refine ⟨?_, ?_, ?_, ?_, ?_⟩
  all_goals
    go_enter Try.func35, Try.ntmps35
    go_wp2
    go_ret
    exact ⟨rfl, rfl⟩

theorem se_yes (c : UInt8) (h : c.toNat = 8 ∨ c.toNat = 9 ∨ c.toNat = 10 ∨ c.toNat = 12 ∨ c.toNat = 13) : ∃ x : UInt8, (∀ wx, Calls Try.prog 35 #[.int .u8 c.toNat] wx fun e w' => e = .returned (.int .u8 x.toNat) ∧ wx = w') ∧ (x = 34 ∨ x = 92 ∨ x = 47 ∨ x = 98 ∨ x = 102 ∨ x = 110 ∨ x = 114 ∨ x = 116) := by
  rcases h with h | h | h | h | h <;> rw [h]
  · exact ⟨98, fun wx => (se_lit wx).1, by simp⟩
  · exact ⟨116, fun wx => (se_lit wx).2.1, by simp⟩
  · exact ⟨110, fun wx => (se_lit wx).2.2.1, by simp⟩
  · exact ⟨102, fun wx => (se_lit wx).2.2.2.1, by simp⟩
  · exact ⟨114, fun wx => (se_lit wx).2.2.2.2, by simp⟩

set_option maxRecDepth 100000 in
set_option maxHeartbeats 8000000 in
theorem escBody_some (b off capS : Nat) (l : List UInt8) (ao : Option Addr) (n0 cap : Nat) (xs : List Value) (aF : Option Addr) (cF : Nat) (lF : List UInt8) (W0 w : World) (hown : Own W0.heap.size 5 ao n0 cap xs W0 w) (hb : b < W0.heap.size)
    (hcell : ∀ j (h : j < l.length), W0.cell? ⟨b, off + j, none⟩ = some (.int .u8 (l[j].toNat : Int))) (hs : Src W0 aF lF.length cF lF) (hlF : lF.length ≤ 65536) (hl : l.length ≤ 65536) (hn0 : n0 ≤ 65536) :
    Calls Try.prog 19 #[.slice ao n0 cap, .slice (some ⟨b, off, none⟩) l.length capS, .slice aF lF.length cF] w fun e w' => ∃ ao' n' cap', e = .returned (.slice ao' n' cap') ∧ Esc W0 xs n0 l.length ao' n' cap' w' := by
  obtain ⟨i0, hi, hz0, hz1, hz2⟩ := info_parts info5
  have HC : Hid (∀ j (h : j < l.length), W0.cell? ⟨b, off + j, none⟩ = some (.int .u8 (l[j].toNat : Int))) := hcell
  have HFF : Hid (∀ k : Nat, k ≤ 65536 → ∀ wx : World, Below W0.heap.size W0 wx → Calls Try.prog 33 #[.slice aF lF.length cF, .int .i64 k] wx fun e w' => (∃ f : UInt8, e = .returned (.int .u8 f.toNat)) ∧ wx = w') := fun k hk wx hx => form_any W0 wx hx aF cF lF hs hlF k hk
  clear hcell hs
  go_enter Try.func19, Try.ntmps19
  go_wp2
  go_loopw [0, 7] (fun s i wr => ∃ (k : Nat) (ao : Option Addr) (n cap : Nat), k ≤ l.length ∧ i = .int .i64 k ∧ s = .slice ao n cap ∧ Esc W0 xs n0 k ao n cap wr) (fun _ i _ => l.length - (intOf i).toNat)
  case atStart => exact ⟨0, ao, n0, cap, Nat.zero_le _, rfl, rfl, [], rfl, (by intro t ht; simp at ht), by omega, by simpa [u8s] using hown⟩
  case round =>
    clear hown ao cap
    obtain ⟨k, ao, n, cap, hk, rfl, rfl, ts, hts, htk, hn, hown⟩ := hrel
    by_cases hlt : k < l.length
    · have hc : wr.cell? ⟨b, off + k, none⟩ = some (.int .u8 (l[k].toNat : Int)) := (hown.2.1.cell (p := ⟨b, off + k, none⟩) hb).trans (HC.out k hlt)
      have HTS : Hid (ts.length = k) := hts
      have HTK : Hid (∀ t ∈ ts, tk t) := htk
      have hbw := hown.2.1
      have HF : Hid (∀ wx, Below W0.heap.size W0 wx → Calls Try.prog 33 #[.slice aF lF.length cF, .int .i64 k] wx fun e w' => (∃ f : UInt8, e = .returned (.int .u8 f.toNat)) ∧ wx = w') := HFF.out k (by omega)
      obtain ⟨c, hcc⟩ : ∃ c, l[k] = c := ⟨_, rfl⟩
      rw [hcc] at hc
      have hcl := c.toNat_lt
      have h15 : bits .and .u8 (c.toNat : Int) 15 = (c.toNat : Int) % 16 := u8_and15 _ (by omega) (by omega)
      clear hts htk hcc
      go_wp2_with fail
      refine (HF.out _ hbw).mono ?_
      rintro e w' ⟨⟨f, rfl⟩, rfl⟩
      clear HF hc
      by_cases hA : c.toNat < 128 ∧ (bits BinOp.and IntKind.u8 (f.toNat : Int) 4 != 0) = true
      · obtain ⟨hA1, hA2⟩ := hA
        go_wp2_with fail
        refine (hexDigit_any _ _ _ (by omega) (by omega)).mono ?_
        rintro e w' ⟨⟨x1, rfl, hx1⟩, rfl⟩
        have HX1 : Hid (hx x1) := hx1
        clear hx1
        go_wp2_with fail
        refine (hexDigit_any _ _ _ (by omega) (by omega)).mono ?_
        rintro e w' ⟨⟨x2, rfl, hx2⟩, rfl⟩
        have HX2 : Hid (hx x2) := hx2
        clear hx2
        go_wp2_with (first | (at_builtin; refine wpList_app rfl (.tmp 34) (.tmp 43) 22 rfl _ 5 i0 _ 1 Try.underlying22 hi hz0 hz1 hz2 rfl _ _ _ _ rfl W0 _ hown _ 6 rfl rfl (one6 _ _ _ _ _ _) (by unfold maxLen; omega) (by omega) ?_; intro ao' cap' w' hown'))
        go_roundw
        case rel => exact ⟨k + 1, ao', _, cap', by omega, by go_num, rfl, Esc.next HTS.out HTK.out hn (t := [92, 117, 48, 48, x1, x2]) (.inr (.inr ⟨48, 48, x1, x2, rfl, .inl (by decide), .inl (by decide), HX1.out, HX2.out⟩)) rfl hown'⟩
        case measure => simp [intOf]; omega
      · by_cases h128 : c.toNat < 128
        · have hf4 : (bits BinOp.and IntKind.u8 (f.toNat : Int) 4 != 0) = false := by
            cases hx : (bits BinOp.and IntKind.u8 (f.toNat : Int) 4 != 0)
            · rfl
            · exact absurd ⟨h128, hx⟩ hA
          clear hA
          by_cases h34 : c.toNat = 34
          · have e34 : ((c.toNat : Int) == 34) = true := by rw [h34]; rfl
            clear h34
            go_wp2_with (first | (at_builtin; refine wpList_app rfl (.tmp 52) (.tmp 53) 22 rfl _ 5 i0 _ 1 Try.underlying22 hi hz0 hz1 hz2 rfl _ _ _ _ rfl W0 _ hown _ 2 rfl rfl (one2 _ _) (by unfold maxLen; omega) (by omega) ?_; intro ao' cap' w' hown'))
            go_roundw
            case rel => exact ⟨k + 1, ao', _, cap', by omega, by go_num, rfl, Esc.next HTS.out HTK.out hn (t := [92, 34]) (.inr (.inl ⟨34, rfl, .inl rfl⟩)) rfl hown'⟩
            case measure => simp [intOf]; omega
          · have e34 : ((c.toNat : Int) == 34) = false := by rw [beq_eq_false_iff_ne]; omega
            by_cases h92 : c.toNat = 92
            · have e92 : ((c.toNat : Int) == 92) = true := by rw [h92]; rfl
              clear h92 h34
              go_wp2_with (first | (at_builtin; refine wpList_app rfl (.tmp 58) (.tmp 59) 22 rfl _ 5 i0 _ 1 Try.underlying22 hi hz0 hz1 hz2 rfl _ _ _ _ rfl W0 _ hown _ 2 rfl rfl (one2 _ _) (by unfold maxLen; omega) (by omega) ?_; intro ao' cap' w' hown'))
              go_roundw
              case rel => exact ⟨k + 1, ao', _, cap', by omega, by go_num, rfl, Esc.next HTS.out HTK.out hn (t := [92, 92]) (.inr (.inl ⟨92, rfl, .inr (.inl rfl)⟩)) rfl hown'⟩
              case measure => simp [intOf]; omega
            · have e92 : ((c.toNat : Int) == 92) = false := by rw [beq_eq_false_iff_ne]; omega
              by_cases h47 : c.toNat = 47
              · have e47 : ((c.toNat : Int) == 47) = true := by rw [h47]; rfl
                have H47 : Hid (c.toNat = 47) := h47
                have hse : 14 ≤ c.toNat := by omega
                have hge : 32 ≤ c.toNat := by omega
                cases hf8 : (bits BinOp.and IntKind.u8 (f.toNat : Int) 8 != 0)
                · clear h47 h34 h92
                  go_wp2_with (first | (go_at_call 35; refine (se_no c _ (by omega)).mono ?_; rintro e w' ⟨rfl, rfl⟩) | (at_builtin; refine wpList_app rfl (.tmp 45) (.tmp 47) 22 rfl _ 5 i0 _ 1 Try.underlying22 hi hz0 hz1 hz2 rfl _ _ _ _ rfl W0 _ hown _ 1 rfl rfl (by intro u hu; simp at hu; subst hu; rfl) (by unfold maxLen; omega) (by omega) ?_; intro ao' cap' w' hown'))
                  go_roundw
                  case rel => exact ⟨k + 1, ao', _, cap', by omega, by go_num, rfl, Esc.next HTS.out HTK.out hn (t := [c]) (.inl ⟨c, rfl, by have := H47.out; omega, by have := H47.out; omega, by have := H47.out; omega⟩) rfl hown'⟩
                  case measure => simp [intOf]; omega
                · clear h47 h34 h92
                  go_wp2_with (first | (at_builtin; refine wpList_app rfl (.tmp 69) (.tmp 70) 22 rfl _ 5 i0 _ 1 Try.underlying22 hi hz0 hz1 hz2 rfl _ _ _ _ rfl W0 _ hown _ 2 rfl rfl (one2 _ _) (by unfold maxLen; omega) (by omega) ?_; intro ao' cap' w' hown'))
                  go_roundw
                  case rel => exact ⟨k + 1, ao', _, cap', by omega, by go_num, rfl, Esc.next HTS.out HTK.out hn (t := [92, 47]) (.inr (.inl ⟨47, rfl, .inr (.inr (.inl rfl))⟩)) rfl hown'⟩
                  case measure => simp [intOf]; omega
              · have e47 : ((c.toNat : Int) == 47) = false := by rw [beq_eq_false_iff_ne]; omega
                by_cases hse : c.toNat = 8 ∨ c.toNat = 9 ∨ c.toNat = 10 ∨ c.toNat = 12 ∨ c.toNat = 13
                · obtain ⟨x, hx, hxs⟩ := se_yes c hse
                  have HXS : Hid (x = 34 ∨ x = 92 ∨ x = 47 ∨ x = 98 ∨ x = 102 ∨ x = 110 ∨ x = 114 ∨ x = 116) := hxs
                  have hx0 : ((x.toNat : Int) != 0) = true := by rw [bne_iff_ne]; rcases hxs with rfl | rfl | rfl | rfl | rfl | rfl | rfl | rfl <;> decide
                  have HXC : Hid (∀ wx, Calls Try.prog 35 #[.int .u8 c.toNat] wx fun e w' => e = .returned (.int .u8 x.toNat) ∧ wx = w') := hx
                  clear hse hx hxs h34 h92 h47
                  go_wp2_with (first | (go_at_call 35; refine (HXC.out _).mono ?_; rintro e w' ⟨rfl, rfl⟩) | (at_builtin; refine wpList_app rfl (.tmp 76) (.tmp 79) 22 rfl _ 5 i0 _ 1 Try.underlying22 hi hz0 hz1 hz2 rfl _ _ _ _ rfl W0 _ hown _ 2 rfl rfl (one2 _ _) (by unfold maxLen; omega) (by omega) ?_; intro ao' cap' w' hown'))
                  go_roundw
                  case rel => exact ⟨k + 1, ao', _, cap', by omega, by go_num, rfl, Esc.next HTS.out HTK.out hn (t := [92, x]) (.inr (.inl ⟨x, rfl, HXS.out⟩)) rfl hown'⟩
                  case measure => simp [intOf]; omega
                · have HSE : Hid (∀ wx, Calls Try.prog 35 #[.int .u8 c.toNat] wx fun e w' => e = .returned (.int .u8 0) ∧ wx = w') := fun wx => se_no c wx hse
                  by_cases h32 : c.toNat < 32
                  · clear hse h34 h92 h47
                    go_wp2_with fail
                    refine (HSE.out _).mono ?_
                    rintro e w' ⟨rfl, rfl⟩
                    go_wp2_with fail
                    refine (hexDigit_any _ _ _ (by omega) (by omega)).mono ?_
                    rintro e w' ⟨⟨x1, rfl, hx1⟩, rfl⟩
                    have HX1 : Hid (hx x1) := hx1
                    clear hx1
                    go_wp2_with fail
                    refine (hexDigit_any _ _ _ (by omega) (by omega)).mono ?_
                    rintro e w' ⟨⟨x2, rfl, hx2⟩, rfl⟩
                    have HX2 : Hid (hx x2) := hx2
                    clear hx2
                    go_wp2_with (first | (at_builtin; refine wpList_app rfl (.tmp 84) (.tmp 93) 22 rfl _ 5 i0 _ 1 Try.underlying22 hi hz0 hz1 hz2 rfl _ _ _ _ rfl W0 _ hown _ 6 rfl rfl (one6 _ _ _ _ _ _) (by unfold maxLen; omega) (by omega) ?_; intro ao' cap' w' hown'))
                    go_roundw
                    case rel => exact ⟨k + 1, ao', _, cap', by omega, by go_num, rfl, Esc.next HTS.out HTK.out hn (t := [92, 117, 48, 48, x1, x2]) (.inr (.inr ⟨48, 48, x1, x2, rfl, .inl (by decide), .inl (by decide), HX1.out, HX2.out⟩)) rfl hown'⟩
                    case measure => simp [intOf]; omega
                  · have HR : Hid (32 ≤ c.toNat ∧ c.toNat ≠ 34 ∧ c.toNat ≠ 92) := ⟨by omega, h34, h92⟩
                    clear hse h34 h92 h47
                    go_wp2_with (first | (go_at_call 35; refine (HSE.out _).mono ?_; rintro e w' ⟨rfl, rfl⟩) | (at_builtin; refine wpList_app rfl (.tmp 45) (.tmp 47) 22 rfl _ 5 i0 _ 1 Try.underlying22 hi hz0 hz1 hz2 rfl _ _ _ _ rfl W0 _ hown _ 1 rfl rfl (by intro u hu; simp at hu; subst hu; rfl) (by unfold maxLen; omega) (by omega) ?_; intro ao' cap' w' hown'))
                    go_roundw
                    case rel => exact ⟨k + 1, ao', _, cap', by omega, by go_num, rfl, Esc.next HTS.out HTK.out hn (t := [c]) (.inl ⟨c, rfl, HR.out⟩) rfl hown'⟩
                    case measure => simp [intOf]; omega
        · have HSE : Hid (∀ wx, Calls Try.prog 35 #[.int .u8 c.toNat] wx fun e w' => e = .returned (.int .u8 0) ∧ wx = w') := fun wx => se_no c wx (by omega)
          have HR : Hid (32 ≤ c.toNat ∧ c.toNat ≠ 34 ∧ c.toNat ≠ 92) := ⟨by omega, by omega, by omega⟩
          clear hA
          go_wp2_with (first | (go_at_call 35; refine (HSE.out _).mono ?_; rintro e w' ⟨rfl, rfl⟩) | (at_builtin; refine wpList_app rfl (.tmp 45) (.tmp 47) 22 rfl _ 5 i0 _ 1 Try.underlying22 hi hz0 hz1 hz2 rfl _ _ _ _ rfl W0 _ hown _ 1 rfl rfl (by intro u hu; simp at hu; subst hu; rfl) (by unfold maxLen; omega) (by omega) ?_; intro ao' cap' w' hown'))
          go_roundw
          case rel => exact ⟨k + 1, ao', _, cap', by omega, by go_num, rfl, Esc.next HTS.out HTK.out hn (t := [c]) (.inl ⟨c, rfl, HR.out⟩) rfl hown'⟩
          case measure => simp [intOf]; omega
    · have ek : k = l.length := by omega
      subst ek
      go_wp2
      go_ret
      exact ⟨_, _, _, rfl, ts, hts, htk, hn, hown⟩

set_option maxRecDepth 100000 in
theorem escBody_none (ao : Option Addr) (n cap : Nat) (aS : Option Addr) (capS : Nat) (aF : Option Addr) (nF cF : Nat) (w : World) :
    Calls Try.prog 19 #[.slice ao n cap, .slice aS 0 capS, .slice aF nF cF] w fun e w' => e = .returned (.slice ao n cap) ∧ w' = w := by
  go_enter Try.func19, Try.ntmps19
  go_wp2
  go_loop [0, 7] (fun v i => v = .slice ao n cap ∧ i = .int .i64 0) (fun _ _ => 0)
  case atStart => exact ⟨rfl, rfl⟩
  case round =>
    obtain ⟨rfl, rfl⟩ := hrel
    go_wp2
    go_ret
    exact ⟨rfl, rfl⟩

/-- zzEscBody, whatever slices came in. -/
theorem escBody_any (aS : Option Addr) (capS : Nat) (l : List UInt8) (ao : Option Addr) (n0 cap : Nat) (xs : List Value) (aF : Option Addr) (cF : Nat) (lF : List UInt8) (W0 w : World) (hown : Own W0.heap.size 5 ao n0 cap xs W0 w)
    (hS : Src W0 aS l.length capS l) (hs : Src W0 aF lF.length cF lF) (hlF : lF.length ≤ 65536) (hl : l.length ≤ 65536) (hn0 : n0 ≤ 65536) :
    Calls Try.prog 19 #[.slice ao n0 cap, .slice aS l.length capS, .slice aF lF.length cF] w fun e w' => ∃ ao' n' cap', e = .returned (.slice ao' n' cap') ∧ Esc W0 xs n0 l.length ao' n' cap' w' := by
  by_cases h0 : 0 < l.length
  · obtain ⟨_, _, _, _, hcells⟩ := hS
    obtain ⟨b, off, rfl, hb, hc⟩ := hcells h0
    exact escBody_some b off capS l ao n0 cap xs aF cF lF W0 w hown hb hc hs hlF hl hn0
  · obtain rfl : l = [] := List.eq_nil_of_length_eq_zero (by omega)
    refine (escBody_none ao n0 cap aS capS aF lF.length cF w).mono ?_
    rintro e w' ⟨rfl, rfl⟩
    exact ⟨_, _, _, rfl, [], rfl, (by intro t ht; simp at ht), by simp, by simpa [u8s] using hown⟩
end Go.Proofs.Qxb6600003a
