/-
  'jsonread.digitsEnd', 'jsonread.numberEnd': what they compute, by places in a list of bytes, and their contracts.
-/
import Derived.Test.Qxb6600003aOwn
import Derived.WalkSpells
import Derived.WalkLawsBesides
import Derived.Deep.DeepCutAuto
import Derived.Deep.CutBlock
namespace Go.Proofs.Qxb6600003a
open Go.RowKit

/-- The byte at place i; 256 behind the end. -/
def ch (l : List UInt8) (i : Nat) : Nat := ((l[i]?).map UInt8.toNat).getD 256

theorem ch_lt (l : List UInt8) (i : Nat) (h : i < l.length) : ch l i = l[i].toNat := by simp [ch, h]
theorem ch_ge (l : List UInt8) (i : Nat) (h : l.length ≤ i) : ch l i = 256 := by simp [ch, h]
theorem ch_in (l : List UInt8) (i : Nat) (h : ch l i ≠ 256) : i < l.length := by
  rcases Nat.lt_or_ge i l.length with h1 | h1
  · exact h1
  · exact absurd (ch_ge l i h1) h

/-- How many digits a list opens with. -/
def dgc : List UInt8 → Nat
  | [] => 0
  | c :: r => if 48 ≤ c.toNat ∧ c.toNat ≤ 57 then dgc r + 1 else 0

def digE (l : List UInt8) (i : Nat) : Nat := i + dgc (l.drop i)

theorem digE_step (l : List UInt8) (i : Nat) (h : 48 ≤ ch l i ∧ ch l i ≤ 57) : digE l i = digE l (i + 1) := by
  have hi := ch_in l i (by omega)
  rw [ch_lt l i hi] at h
  unfold digE
  rw [List.drop_eq_getElem_cons hi, dgc, if_pos h]
  omega

theorem digE_stop (l : List UInt8) (i : Nat) (h : ¬ (48 ≤ ch l i ∧ ch l i ≤ 57)) : digE l i = i := by
  unfold digE
  rcases Nat.lt_or_ge i l.length with hi | hi
  · rw [ch_lt l i hi] at h
    rw [List.drop_eq_getElem_cons hi, dgc, if_neg h]
    rfl
  · rw [List.drop_of_length_le hi]
    rfl

theorem dgc_le : ∀ l : List UInt8, dgc l ≤ l.length
  | [] => by simp [dgc]
  | c :: r => by
    have := dgc_le r
    rw [dgc]
    split <;> simp <;> omega

theorem digE_ge (l : List UInt8) (i : Nat) : i ≤ digE l i := Nat.le_add_right _ _
theorem digE_le (l : List UInt8) (i : Nat) (h : i ≤ l.length) : digE l i ≤ l.length := by
  have := dgc_le (l.drop i)
  rw [List.length_drop] at this
  unfold digE
  omega

/-- What the walks are told of the data: a row of bytes. -/
def Row (w : World) (g : Nat) (l : List UInt8) : Prop := ∀ j (h : j < l.length), w.cell? ⟨g, j, none⟩ = some (.int .u8 (l[j].toNat : Int))

theorem ret_int {k : IntKind} {a b : Int} (h : a = b) : Ending.returned (.int k a) = .returned (.int k b) := by rw [h]
theorem ret_ib {k : IntKind} {a b : Int} {p q : Bool} (h : a = b) (hp : p = q) : Ending.returned (.tuple #[.int k a, .bool p]) = .returned (.tuple #[.int k b, .bool q]) := by rw [h, hp]

set_option maxRecDepth 100000 in
set_option maxHeartbeats 1000000 in
theorem dig_any (g cap : Nat) (l : List UInt8) (i : Nat) (w : World) (hr : Row w g l) (hl : l.length ≤ 1048576) (hi : i ≤ l.length) :
    Calls Try.prog 41 #[.slice (some ⟨g, 0, none⟩) l.length cap, .int .i64 i] w fun e w' => e = .returned (.int .i64 (digE l i)) ∧ w' = w := by
  have HR : Hid (Row w g l) := hr
  clear hr
  go_enter Try.func41, Try.ntmps41
  go_wp2
  go_loop [1] (fun v => ∃ k : Nat, k ≤ l.length ∧ v = .int .i64 k ∧ Hid (digE l i = digE l k)) (fun v => l.length - (intOf v).toNat)
  case atStart => exact ⟨i, hi, rfl, rfl⟩
  case round =>
    obtain ⟨k, hk, rfl, HE⟩ := hrel
    by_cases hlt : k < l.length
    · have hc := HR.out k hlt
      have HC : Hid _ := ch_lt l k hlt
      have hby := l[k].toNat_lt
      by_cases h1 : 48 ≤ l[k].toNat
      · by_cases h2 : l[k].toNat ≤ 57
        · go_wp2
          go_round
          case rel => exact ⟨k + 1, by omega, by go_num, by show _ = _; rw [HE.out]; exact digE_step l k (by rw [HC.out]; exact ⟨h1, h2⟩)⟩
          case measure => simp [intOf]; omega
        · go_wp2
          go_ret
          exact ⟨ret_int (by rw [HE.out, digE_stop l k (by rw [HC.out]; omega)]), rfl⟩
      · go_wp2
        go_ret
        exact ⟨ret_int (by rw [HE.out, digE_stop l k (by rw [HC.out]; omega)]), rfl⟩
    · have HC : Hid _ := ch_ge l k (by omega)
      go_wp2
      go_ret
      exact ⟨ret_int (by rw [HE.out, digE_stop l k (by rw [HC.out]; omega)]), rfl⟩

def sgE (l : List UInt8) (i : Nat) : Nat × Bool := if digE l i = i then (i, false) else (digE l i, true)
def expE (l : List UInt8) (i : Nat) : Nat × Bool := if ch l i = 101 ∨ ch l i = 69 then sgE l (if ch l (i + 1) = 43 ∨ ch l (i + 1) = 45 then i + 2 else i + 1) else (i, true)
def fracE (l : List UInt8) (i : Nat) : Nat × Bool := if ch l i = 46 then (if digE l (i + 1) = i + 1 then (i, false) else expE l (digE l (i + 1))) else expE l i
def intE (l : List UInt8) (i : Nat) : Nat × Bool := if ch l i = 48 then fracE l (i + 1) else if 49 ≤ ch l i ∧ ch l i ≤ 57 then fracE l (digE l i) else (i, false)
def numE (l : List UInt8) (i : Nat) : Nat × Bool := intE l (if ch l i = 45 then i + 1 else i)

theorem eq_bool {l : List UInt8} {i : Nat} {h : i < l.length} {C : Int} {c : Nat} (hC : C = (c : Int)) (hc : ch l i = l[i].toNat) : ((l[i].toNat : Int) == C) = decide (ch l i = c) := by
  rw [hc, hC, Bool.eq_iff_iff]
  simp
  omega
theorem no_bool {l : List UInt8} {i : Nat} {p : Prop} [Decidable p] (h : ch l i = 256) (hc : ch l i = 256 → ¬ p) : false = decide p := by
  simp [hc h]
theorem yes_bool {p : Prop} [Decidable p] (h : p) : true = decide p := by simp [h]
theorem not_bool {p : Prop} [Decidable p] (h : ¬ p) : false = decide p := by simp [h]
theorem of_true {p : Prop} [Decidable p] {b : Bool} (h : b = decide p) (hb : b = true) : p := by rw [hb] at h; exact of_decide_eq_true h.symm
theorem of_false {p : Prop} [Decidable p] {b : Bool} (h : b = decide p) (hb : b = false) : ¬ p := by rw [hb] at h; exact of_decide_eq_false h.symm

set_option maxRecDepth 100000 in
set_option maxHeartbeats 2000000 in
theorem num_any (g cap : Nat) (l : List UInt8) (i : Nat) (w : World) (hr : Row w g l) (hl : l.length ≤ 1048576) (hi : i ≤ l.length) :
    Calls Try.prog 37 #[.slice (some ⟨g, 0, none⟩) l.length cap, .int .i64 i] w fun e w' => e = .returned (.tuple #[.int .i64 (numE l i).1, .bool (numE l i).2]) ∧ w' = w := by
  have HR : Hid (Row w g l) := hr
  have HDG : Hid (∀ k, k ≤ l.length → Calls Try.prog 41 #[.slice (some ⟨g, 0, none⟩) l.length cap, .int .i64 k] w fun e w' => e = .returned (.int .i64 (digE l k)) ∧ w' = w) := fun k hk => dig_any g cap l k w hr hl hk
  clear hr
  obtain ⟨N, hN⟩ : ∃ N, numE l i = N := ⟨_, rfl⟩
  rw [hN]
  have HN : Hid (intE l (if ch l i = 45 then i + 1 else i) = N) := hN
  clear hN
  go_enter Try.func37, Try.ntmps37
  go_upto_region 1 with fail
  go_cut [18] (fun s wx => ∃ b : Bool, s = .bool b ∧ wx = w ∧ Hid (b = decide (ch l i = 45)))
  case first =>
    by_cases hlt : i < l.length
    · have hc := HR.out i hlt
      have HC : Hid _ := ch_lt l i hlt
      have hby := l[i].toNat_lt
      go_wp2
      go_meet
      case rel => exact ⟨_, rfl, rfl, eq_bool rfl HC.out⟩
    · have HC : Hid _ := ch_ge l i (by omega)
      go_wp2
      go_meet
      case rel => exact ⟨_, rfl, rfl, no_bool HC.out (by omega)⟩
  case rest =>
  obtain ⟨b, rfl, rfl, HB⟩ := hcut
  go_upto_if 18 with fail
  go_cut [1] (fun s wx => ∃ k : Nat, k ≤ l.length ∧ s = .int .i64 k ∧ wx = wc ∧ Hid (intE l k = N))
  case first =>
    cases b with
    | true =>
      have h := of_true HB.out rfl
      have hlt := ch_in l i (by omega)
      have HH : Hid (intE l (i + 1) = N) := by have := HN.out; rwa [if_pos h] at this
      clear h
      go_wp2
      go_meet
      case rel => exact ⟨i + 1, by omega, by go_num, rfl, HH⟩
    | false =>
      have h := of_false HB.out rfl
      have HH : Hid (intE l i = N) := by have := HN.out; rwa [if_neg h] at this
      clear h
      go_wp2
      go_meet
      case rel => exact ⟨i, by omega, rfl, rfl, HH⟩
  case rest =>
  obtain ⟨k, hk, rfl, rfl, HI⟩ := hcut
  clear HN HB hi i b
  go_upto_block 0 with fail
  go_cut [1] (fun s wx => ∃ m : Nat, m ≤ l.length ∧ s = .int .i64 m ∧ wx = wc ∧ Hid (fracE l m = N))
  case first =>
    by_cases hlt : k < l.length
    · have hc := HR.out k hlt
      have HC : Hid _ := ch_lt l k hlt
      have hby := l[k].toNat_lt
      by_cases h0 : l[k].toNat = 48
      · have HH : Hid (fracE l (k + 1) = N) := by have := HI.out; rwa [intE, if_pos (by rw [HC.out]; exact h0)] at this
        have hb : ((l[k].toNat : Int) == 48) = true := by rw [h0]; rfl
        clear h0
        go_wp2
        go_meet
        case rel => exact ⟨k + 1, by omega, by go_num, rfl, HH⟩
      · have hb : ((l[k].toNat : Int) == 48) = false := by rw [beq_eq_false_iff_ne]; omega
        by_cases h1 : 49 ≤ l[k].toNat
        · by_cases h2 : l[k].toNat ≤ 57
          · have HH : Hid (fracE l (digE l k) = N) := by have := HI.out; rwa [intE, if_neg (by rw [HC.out]; exact h0), if_pos (by rw [HC.out]; exact ⟨h1, h2⟩)] at this
            have hd := HDG.out k hk
            have hdl := digE_le l k hk
            clear h0
            go_wp2_with (go_at_call 41; refine hd.mono ?_; rintro e w' ⟨rfl, rfl⟩)
            go_meet
            case rel => exact ⟨digE l k, hdl, rfl, rfl, HH⟩
          · have HH : Hid ((k, false) = N) := by have := HI.out; rwa [intE, if_neg (by rw [HC.out]; exact h0), if_neg (by rw [HC.out]; omega)] at this
            clear h0
            go_wp2
            go_ret2
            exact ⟨ret_ib (by rw [← HH.out]) (by rw [← HH.out]), rfl⟩
        · have HH : Hid ((k, false) = N) := by have := HI.out; rwa [intE, if_neg (by rw [HC.out]; exact h0), if_neg (by rw [HC.out]; omega)] at this
          clear h0
          go_wp2
          go_ret2
          exact ⟨ret_ib (by rw [← HH.out]) (by rw [← HH.out]), rfl⟩
    · have HC : Hid _ := ch_ge l k (by omega)
      have HH : Hid ((k, false) = N) := by have := HI.out; rwa [intE, if_neg (by rw [HC.out]; omega), if_neg (by rw [HC.out]; omega)] at this
      go_wp2
      go_ret2
      exact ⟨ret_ib (by rw [← HH.out]) (by rw [← HH.out]), rfl⟩
  case rest =>
  obtain ⟨m, hm, rfl, rfl, HF⟩ := hcut
  clear HI hk k
  go_upto_region 8 with fail
  go_cut [68] (fun s wx => ∃ b : Bool, s = .bool b ∧ wx = wc ∧ Hid (b = decide (ch l m = 46)))
  case first =>
    by_cases hlt : m < l.length
    · have hc := HR.out m hlt
      have HC : Hid _ := ch_lt l m hlt
      have hby := l[m].toNat_lt
      go_wp2
      go_meet
      case rel => exact ⟨_, rfl, rfl, eq_bool rfl HC.out⟩
    · have HC : Hid _ := ch_ge l m (by omega)
      go_wp2
      go_meet
      case rel => exact ⟨_, rfl, rfl, no_bool HC.out (by omega)⟩
  case rest =>
  obtain ⟨b, rfl, rfl, HB⟩ := hcut
  go_upto_if 68 with fail
  go_cut [1] (fun s wx => ∃ k : Nat, k ≤ l.length ∧ s = .int .i64 k ∧ wx = wc ∧ Hid (expE l k = N))
  case first =>
    cases b with
    | true =>
      have h := of_true HB.out rfl
      have hlt := ch_in l m (by omega)
      have HH := HF.out
      rw [fracE, if_pos h] at HH
      have hd := HDG.out (m + 1) (by omega)
      have hdl := digE_le l (m + 1) (by omega)
      rw [show ((m + 1 : Nat) : Int) = (m : Int) + 1 by omega] at hd
      clear h
      obtain ⟨E, hE⟩ : ∃ E, digE l (m + 1) = E := ⟨_, rfl⟩
      rw [hE] at HH hd hdl
      have HE : Hid _ := hE
      clear hE
      by_cases hq : E = m + 1
      · have HH2 : Hid ((m, false) = N) := by rwa [if_pos hq] at HH
        have hb : ((E : Int) == (m : Int) + 1) = true := by rw [beq_iff_eq]; omega
        clear HH hq
        go_wp2_with (go_at_call 41; refine hd.mono ?_; rintro e w' ⟨rfl, rfl⟩)
        go_ret2
        exact ⟨ret_ib (by rw [← HH2.out]) (by rw [← HH2.out]), rfl⟩
      · have HH2 : Hid (expE l E = N) := by rwa [if_neg hq] at HH
        have hb : ((E : Int) == (m : Int) + 1) = false := by rw [beq_eq_false_iff_ne]; omega
        clear HH hq
        go_wp2_with (go_at_call 41; refine hd.mono ?_; rintro e w' ⟨rfl, rfl⟩)
        go_meet
        case rel => exact ⟨E, hdl, rfl, rfl, HH2⟩
    | false =>
      have h := of_false HB.out rfl
      have HH : Hid (expE l m = N) := by have := HF.out; rwa [fracE, if_neg h] at this
      clear h
      go_wp2
      go_meet
      case rel => exact ⟨m, hm, rfl, rfl, HH⟩
  case rest =>
  obtain ⟨k, hk, rfl, rfl, HX⟩ := hcut
  clear HF HB hm m b
  go_upto_region 13 with fail
  go_cut [96] (fun s wx => ∃ b : Bool, s = .bool b ∧ wx = wc ∧ Hid (b = decide (ch l k = 101 ∨ ch l k = 69)))
  case first =>
    by_cases hlt : k < l.length
    · have hc := HR.out k hlt
      have HC : Hid _ := ch_lt l k hlt
      have hby := l[k].toNat_lt
      by_cases h1 : l[k].toNat = 101
      · have hb : ((l[k].toNat : Int) == 101) = true := by rw [h1]; rfl
        have H1 : Hid _ := h1
        clear h1
        go_wp2
        go_meet
        case rel => exact ⟨_, rfl, rfl, yes_bool (by rw [HC.out]; exact .inl H1.out)⟩
      · have hb : ((l[k].toNat : Int) == 101) = false := by rw [beq_eq_false_iff_ne]; omega
        by_cases h2 : l[k].toNat = 69
        · have hb2 : ((l[k].toNat : Int) == 69) = true := by rw [h2]; rfl
          have H1 : Hid _ := h2
          clear h2
          go_wp2
          go_meet
          case rel => exact ⟨_, rfl, rfl, yes_bool (by rw [HC.out]; exact .inr H1.out)⟩
        · have hb2 : ((l[k].toNat : Int) == 69) = false := by rw [beq_eq_false_iff_ne]; omega
          go_wp2
          go_meet
          case rel => exact ⟨_, rfl, rfl, not_bool (by rw [HC.out]; omega)⟩
    · have HC : Hid _ := ch_ge l k (by omega)
      go_wp2
      go_meet
      case rel => exact ⟨_, rfl, rfl, not_bool (by rw [HC.out]; omega)⟩
  case rest =>
  obtain ⟨b, rfl, rfl, HB⟩ := hcut
  go_upto_if 96 with fail
  cases b with
  | false =>
    have h := of_false HB.out rfl
    have HH : Hid ((k, true) = N) := by have := HX.out; rwa [expE, if_neg h] at this
    clear h
    go_wp2
    go_ret2
    exact ⟨ret_ib (by rw [← HH.out]) (by rw [← HH.out]), rfl⟩
  | true =>
    have h := of_true HB.out rfl
    have hlt := ch_in l k (by omega)
    have HH : Hid (sgE l (if ch l (k + 1) = 43 ∨ ch l (k + 1) = 45 then k + 2 else k + 1) = N) := by have := HX.out; rwa [expE, if_pos h] at this
    clear h HB HX
    go_upto_region 15 with fail
    go_cut [116] (fun s wx => ∃ b : Bool, s = .bool b ∧ wx = wc ∧ Hid (b = decide (ch l (k + 1) = 43 ∨ ch l (k + 1) = 45)))
    case first =>
      by_cases hlt2 : k + 1 < l.length
      · have hc := HR.out (k + 1) hlt2
        have HC : Hid _ := ch_lt l (k + 1) hlt2
        have hby := l[k + 1].toNat_lt
        by_cases h1 : l[k + 1].toNat = 43
        · have hb : ((l[k + 1].toNat : Int) == 43) = true := by rw [h1]; rfl
          have H1 : Hid _ := h1
          clear h1
          go_wp2
          go_meet
          case rel => exact ⟨_, rfl, rfl, yes_bool (by rw [HC.out]; exact .inl H1.out)⟩
        · have hb : ((l[k + 1].toNat : Int) == 43) = false := by rw [beq_eq_false_iff_ne]; omega
          by_cases h2 : l[k + 1].toNat = 45
          · have hb2 : ((l[k + 1].toNat : Int) == 45) = true := by rw [h2]; rfl
            have H1 : Hid _ := h2
            clear h2
            go_wp2
            go_meet
            case rel => exact ⟨_, rfl, rfl, yes_bool (by rw [HC.out]; exact .inr H1.out)⟩
          · have hb2 : ((l[k + 1].toNat : Int) == 45) = false := by rw [beq_eq_false_iff_ne]; omega
            go_wp2
            go_meet
            case rel => exact ⟨_, rfl, rfl, not_bool (by rw [HC.out]; omega)⟩
      · have HC : Hid _ := ch_ge l (k + 1) (by omega)
        go_wp2
        go_meet
        case rel => exact ⟨_, rfl, rfl, not_bool (by rw [HC.out]; omega)⟩
    case rest =>
    obtain ⟨b, rfl, rfl, HB⟩ := hcut
    go_upto_if 116 with fail
    go_cut [1] (fun s wx => ∃ m : Nat, m ≤ l.length ∧ s = .int .i64 m ∧ wx = wc ∧ Hid (sgE l m = N))
    case first =>
      cases b with
      | true =>
        have h := of_true HB.out rfl
        have hlt2 := ch_in l (k + 1) (by omega)
        have HH2 : Hid (sgE l (k + 2) = N) := by have := HH.out; rwa [if_pos h] at this
        clear h
        go_wp2
        go_meet
        case rel => exact ⟨k + 2, by omega, by go_num, rfl, HH2⟩
      | false =>
        have h := of_false HB.out rfl
        have HH2 : Hid (sgE l (k + 1) = N) := by have := HH.out; rwa [if_neg h] at this
        clear h
        go_wp2
        go_meet
        case rel => exact ⟨k + 1, by omega, by go_num, rfl, HH2⟩
    case rest =>
    obtain ⟨m, hm, rfl, rfl, HS⟩ := hcut
    clear HH HB hlt hk k b
    have hd := HDG.out m hm
    have HH := HS.out
    rw [sgE] at HH
    obtain ⟨E, hE⟩ : ∃ E, digE l m = E := ⟨_, rfl⟩
    rw [hE] at HH hd
    have HE : Hid _ := hE
    clear hE
    by_cases hq : E = m
    · have HH2 : Hid ((m, false) = N) := by rwa [if_pos hq] at HH
      have hb : ((E : Int) == (m : Int)) = true := by rw [beq_iff_eq]; omega
      clear HH hq
      go_wp2_with (go_at_call 41; refine hd.mono ?_; rintro e w' ⟨rfl, rfl⟩)
      go_ret2
      exact ⟨ret_ib (by rw [← HH2.out]) (by rw [← HH2.out]), rfl⟩
    · have HH2 : Hid ((E, true) = N) := by rwa [if_neg hq] at HH
      have hb : ((E : Int) == (m : Int)) = false := by rw [beq_eq_false_iff_ne]; omega
      clear HH hq
      go_wp2_with (go_at_call 41; refine hd.mono ?_; rintro e w' ⟨rfl, rfl⟩)
      go_ret2
      exact ⟨ret_ib (by rw [← HH2.out]) (by rw [← HH2.out]), rfl⟩

set_option maxRecDepth 100000 in
theorem znum_any (g cap : Nat) (l : List UInt8) (i : Nat) (w : World) (hr : Row w g l) (hl : l.length ≤ 1048576) (hi : i ≤ l.length) :
    Calls Try.prog 23 #[.slice (some ⟨g, 0, none⟩) l.length cap, .int .i64 i] w fun e w' => e = .returned (.tuple #[.int .i64 (numE l i).1, .bool (numE l i).2]) ∧ w' = w := by
  have H := num_any g cap l i w hr hl hi
  clear hr
  go_enter Try.func23, Try.ntmps23
  go_wp2_with (go_at_call 37; refine H.mono ?_; rintro e w' ⟨rfl, rfl⟩)
  go_ret2
  exact ⟨rfl, rfl⟩
end Go.Proofs.Qxb6600003a
