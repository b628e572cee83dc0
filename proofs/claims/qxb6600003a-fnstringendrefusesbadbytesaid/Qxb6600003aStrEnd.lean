/-
  'jsonread.stringEnd' on a string whose body is good tokens and then a bad byte: its contract.
-/
import Derived.Test.Qxb6600003aEsc
namespace Go.Proofs.Qxb6600003a
open Go.RowKit

set_option maxRecDepth 100000 in
theorem hex_yes (c : UInt8) (w : World) (h : hx c) : Calls Try.prog 38 #[.int .u8 c.toNat] w fun e w' => e = .returned (.bool true) ∧ w = w' := by
  have hc := c.toNat_lt
  unfold hx at h
  rcases h with ⟨h1, h2⟩ | ⟨h1, h2⟩ | ⟨h1, h2⟩
  · have hb : decide ((c.toNat : Int) ≤ 57) = true := by simp; omega
    go_enter Try.func38, Try.ntmps38
    go_wp2
    go_ret
    exact ⟨rfl, rfl⟩
  · have hb : decide ((c.toNat : Int) ≤ 57) = false := by simp; omega
    have hb2 : decide ((c.toNat : Int) ≤ 102) = true := by simp; omega
    go_enter Try.func38, Try.ntmps38
    go_wp2
    go_ret
    exact ⟨rfl, rfl⟩
  · have hb : decide ((c.toNat : Int) ≤ 57) = false := by simp; omega
    have hb2 : decide ((97 : Int) ≤ (c.toNat : Int)) = false := by simp; omega
    have hb3 : decide ((c.toNat : Int) ≤ 70) = true := by simp; omega
    go_enter Try.func38, Try.ntmps38
    go_wp2
    go_ret
    exact ⟨rfl, rfl⟩

theorem suf_get {D : List UInt8} {j : Nat} {c : UInt8} {t : List UInt8} (h : D.drop j = c :: t) : ∃ hj : j < D.length, D[j] = c := by
  have hl := suf_lt h
  rw [List.drop_eq_getElem_cons hl] at h
  exact ⟨hl, (List.cons.inj h).1⟩

theorem row_get {w : World} {g : Nat} {D : List UInt8} (hr : Row w g D) {j : Nat} {c : UInt8} {t : List UInt8} (h : D.drop j = c :: t) : j < D.length ∧ w.cell? ⟨g, j, none⟩ = some (.int .u8 (c.toNat : Int)) := by
  obtain ⟨hj, hc⟩ := suf_get h
  exact ⟨hj, by rw [hr j hj, hc]⟩

/-- A byte that names no escape. -/
def noesc (c : UInt8) : Prop := c.toNat ≠ 34 ∧ c.toNat ≠ 92 ∧ c.toNat ≠ 47 ∧ c.toNat ≠ 98 ∧ c.toNat ≠ 102 ∧ c.toNat ≠ 110 ∧ c.toNat ≠ 114 ∧ c.toNat ≠ 116 ∧ c.toNat ≠ 117

/-- The bad end, and how far behind its start the refusal points. -/
def Bad (bad : List UInt8) (d : Nat) : Prop := (∃ c t, bad = c :: t ∧ c.toNat < 32 ∧ d = 0) ∨ (∃ c t, bad = 92 :: c :: t ∧ noesc c ∧ d = 1)

set_option maxRecDepth 100000 in
set_option maxHeartbeats 8000000 in
theorem strEnd_bad (g cap : Nat) (D : List UInt8) (w : World) (hr : Row w g D) (hl : D.length ≤ 1048576) (ts : List (List UInt8)) (bad : List UInt8) (d : Nat) (hts : ∀ t ∈ ts, tk t) (hD : D.drop 1 = ts.flatten ++ bad) (hbad : Bad bad d) (h0 : 1 ≤ D.length) :
    Calls Try.prog 31 #[.slice (some ⟨g, 0, none⟩) D.length cap, .int .i64 0] w fun e w' => e = .returned (.tuple #[.int .i64 (1 + ts.flatten.length + d : Nat), .bool false]) ∧ w' = w := by
  have HR : Hid (Row w g D) := hr
  have HB : Hid (Bad bad d) := hbad
  have HS0 : Hid (D.drop 1 = ts.flatten ++ bad) := hD
  have HT0 : Hid (∀ t ∈ ts, tk t) := hts
  obtain ⟨N, hN⟩ : ∃ N, 1 + ts.flatten.length = N := ⟨_, rfl⟩
  rw [hN]
  have HN0 : Hid (1 + ts.flatten.length = N) := hN
  clear hr hbad hD hts hN
  go_enter Try.func31, Try.ntmps31
  go_wp2
  go_loop [1] (fun i => ∃ (j : Nat) (rem : List (List UInt8)), j ≤ D.length ∧ i = .int .i64 j ∧ Hid (D.drop j = rem.flatten ++ bad) ∧ Hid (∀ t ∈ rem, tk t) ∧ Hid (j + rem.flatten.length = N)) (fun i => D.length - (intOf i).toNat)
  case atStart => exact ⟨1, ts, h0, rfl, HS0, HT0, HN0⟩
  case round =>
    clear HS0 HT0 HN0
    obtain ⟨j, rem, hj, rfl, HS, HT, HN⟩ := hrel
    cases rem with
    | nil =>
      have hs : D.drop j = bad := HS.out
      have hn : j = N := by simpa using HN.out
      rcases HB.out with ⟨c, t, rfl, hc, rfl⟩ | ⟨c, t, rfl, hc, rfl⟩
      · obtain ⟨hlt, hcell⟩ := row_get HR.out hs
        have HNN : Hid (j = N) := hn
        have e34 : ((c.toNat : Int) == 34) = false := by rw [beq_eq_false_iff_ne]; omega
        have e92 : ((c.toNat : Int) == 92) = false := by rw [beq_eq_false_iff_ne]; omega
        clear hs hn
        go_wp2
        go_ret2
        exact ⟨ret_ib (by rw [HNN.out]) rfl, rfl⟩
      · obtain ⟨hlt, hcell⟩ := row_get HR.out hs
        obtain ⟨hlt2, hcell2⟩ := row_get HR.out (suf_next hs)
        have HNN : Hid (j = N) := hn
        obtain ⟨x1, x2, x3, x4, x5, x6, x7, x8, x9⟩ := hc
        have e1 : ((c.toNat : Int) == 34) = false := by rw [beq_eq_false_iff_ne]; omega
        have e2 : ((c.toNat : Int) == 92) = false := by rw [beq_eq_false_iff_ne]; omega
        have e3 : ((c.toNat : Int) == 47) = false := by rw [beq_eq_false_iff_ne]; omega
        have e4 : ((c.toNat : Int) == 98) = false := by rw [beq_eq_false_iff_ne]; omega
        have e5 : ((c.toNat : Int) == 102) = false := by rw [beq_eq_false_iff_ne]; omega
        have e6 : ((c.toNat : Int) == 110) = false := by rw [beq_eq_false_iff_ne]; omega
        have e7 : ((c.toNat : Int) == 114) = false := by rw [beq_eq_false_iff_ne]; omega
        have e8 : ((c.toNat : Int) == 116) = false := by rw [beq_eq_false_iff_ne]; omega
        have e9 : ((c.toNat : Int) == 117) = false := by rw [beq_eq_false_iff_ne]; omega
        clear hs hn x1 x2 x3 x4 x5 x6 x7 x8 x9
        go_wp2
        go_ret2
        exact ⟨ret_ib (by have := HNN.out; omega) rfl, rfl⟩
    | cons t r =>
      have hs : D.drop j = t ++ (r.flatten ++ bad) := by rw [HS.out, List.flatten_cons, List.append_assoc]
      have HS2 : Hid (D.drop (j + t.length) = r.flatten ++ bad) := suf_app hs
      have HT2 : Hid (∀ x ∈ r, tk x) := fun x hx => HT.out x (by simp [hx])
      have HN2 : Hid (j + t.length + r.flatten.length = N) := by
        have := HN.out
        rw [List.flatten_cons, List.length_append] at this
        show _ = _
        omega
      rcases HT.out t (by simp) with ⟨c, rfl, h32, h34, h92⟩ | ⟨x, rfl, hx⟩ | ⟨h1, h2, h3, h4, rfl, x1, x2, x3, x4⟩
      · obtain ⟨hlt, hcell⟩ := row_get HR.out hs
        have e34 : ((c.toNat : Int) == 34) = false := by rw [beq_eq_false_iff_ne]; omega
        have e92 : ((c.toNat : Int) == 92) = false := by rw [beq_eq_false_iff_ne]; omega
        clear hs
        go_wp2
        go_round
        case rel => exact ⟨j + 1, r, by omega, by go_num, HS2, HT2, HN2⟩
        case measure => simp [intOf]; omega
      · obtain ⟨hlt, hcell⟩ := row_get HR.out hs
        obtain ⟨hlt2, hcell2⟩ := row_get HR.out (suf_next hs)
        clear hs
        rcases hx with rfl | rfl | rfl | rfl | rfl | rfl | rfl | rfl
        all_goals
          go_wp2
          go_round
          case rel => exact ⟨j + 2, r, by omega, by go_num, HS2, HT2, HN2⟩
          case measure => simp [intOf]; omega
      · obtain ⟨hlt, hcell⟩ := row_get HR.out hs
        obtain ⟨hlt2, hcell2⟩ := row_get HR.out (suf_next hs)
        obtain ⟨hlt3, hcell3⟩ := row_get HR.out (suf_next (suf_next hs))
        obtain ⟨hlt4, hcell4⟩ := row_get HR.out (suf_next (suf_next (suf_next hs)))
        obtain ⟨hlt5, hcell5⟩ := row_get HR.out (suf_next (suf_next (suf_next (suf_next hs))))
        obtain ⟨hlt6, hcell6⟩ := row_get HR.out (suf_next (suf_next (suf_next (suf_next (suf_next hs)))))
        have X1 : Hid (hx h1) := x1
        have X2 : Hid (hx h2) := x2
        have X3 : Hid (hx h3) := x3
        have X4 : Hid (hx h4) := x4
        clear hs x1 x2 x3 x4
        go_wp2_with (go_at_call 38; refine (hex_yes _ _ (Hid.out (by assumption))).mono ?_; rintro e w' ⟨rfl, rfl⟩)
        go_round
        case rel => exact ⟨j + 6, r, by omega, by go_num, HS2, HT2, HN2⟩
        case measure => simp [intOf]; omega

set_option maxRecDepth 100000 in
theorem zstrEnd_bad (g cap : Nat) (D : List UInt8) (w : World) (hr : Row w g D) (hl : D.length ≤ 1048576) (ts : List (List UInt8)) (bad : List UInt8) (d : Nat) (hts : ∀ t ∈ ts, tk t) (hD : D.drop 1 = ts.flatten ++ bad) (hbad : Bad bad d) (h0 : 1 ≤ D.length) (N : Nat) (hN : 1 + ts.flatten.length + d = N) :
    Calls Try.prog 14 #[.slice (some ⟨g, 0, none⟩) D.length cap, .int .i64 0] w fun e w' => e = .returned (.tuple #[.int .i64 N, .bool false]) ∧ w' = w := by
  have H := strEnd_bad g cap D w hr hl ts bad d hts hD hbad h0
  rw [hN] at H
  clear hr hts hD hbad hN
  go_enter Try.func14, Try.ntmps14
  go_wp2_with (go_at_call 31; refine H.mono ?_; rintro e w' ⟨rfl, rfl⟩)
  go_ret2
  exact ⟨rfl, rfl⟩
end Go.Proofs.Qxb6600003a
