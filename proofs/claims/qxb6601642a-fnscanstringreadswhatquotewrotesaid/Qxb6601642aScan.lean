/-
  'parser.scanString' on a text that 'zzb1QuoteSQL' wrote: its contract.
-/
import Derived.Test.Qxb6601642aQuote
namespace Go.Proofs.Qxb6601642a
open Go.RowKit

theorem at_of_drop {S : ByteArray} {j : Nat} {c : UInt8} {t : List UInt8} (h : S.data.toList.drop j = c :: t) : ∃ hj : j < S.size, S[j] = c ∧ S.data.toList.drop (j + 1) = t := by
  have hl : j < S.data.toList.length := by
    rcases Nat.lt_or_ge j S.data.toList.length with h1 | h1
    · exact h1
    · rw [List.drop_of_length_le h1] at h; cases h
  rw [List.drop_eq_getElem_cons hl] at h
  exact ⟨by simpa using hl, (List.cons.inj h).1, (List.cons.inj h).2⟩

theorem end_of_drop {S : ByteArray} {j : Nat} (h : S.data.toList.drop j = []) : S.size ≤ j := by simpa using h

theorem bc_snoc (l : List UInt8) (c : UInt8) : Lib.byteCells (l ++ [c]) = Lib.byteCells l ++ [Value.int .u8 (c.toNat : Int)] := by simp [Lib.byteCells]

set_option maxRecDepth 100000 in
theorem unescape_bs (w : World) : Calls Try.prog 27 #[.int .u8 92] w fun e w' => e = .returned (.string ⟨#[92]⟩) ∧ w = w' := by
  go_enter Try.func27, Try.ntmps27
  go_wp2
  go_ret
  exact ⟨rfl, rfl⟩

/-- The loop's fact: what is left of the text, what has been read. -/
structure Mid (S : ByteArray) (q : UInt8) (esc : Bool) (v rest : List UInt8) (p j : Nat) (done rem : List UInt8) : Prop where
  all : v = done ++ rem
  left : S.data.toList.drop j = qb q esc rem ++ (q :: rest)
  place : j = p + 1 + (qb q esc done).length

theorem Mid.next {S : ByteArray} {q : UInt8} {esc : Bool} {v rest : List UInt8} {p j : Nat} {done : List UInt8} {c : UInt8} {r : List UInt8} (h : Mid S q esc v rest p j done (c :: r)) (k : Nat) (hk : (qe q esc c).length = k) : Mid S q esc v rest p (j + k) (done ++ [c]) r := by
  refine ⟨by rw [h.all]; simp, ?_, ?_⟩
  · have := h.left
    rw [qb_cons, List.append_assoc] at this
    rw [← List.drop_drop, this, ← hk, List.drop_left]
  · rw [qb_app, qb_one, List.length_append, hk, h.place]
    omega

theorem ret_sib {x y : ByteArray} {a b : Int} {t : Bool} (h : x = y) (hab : a = b) : Ending.returned (.tuple #[.string x, .int .i64 a, .bool t]) = .returned (.tuple #[.string y, .int .i64 b, .bool t]) := by rw [h, hab]

theorem qe_ge (q : UInt8) (esc : Bool) (c : UInt8) : 1 ≤ (qe q esc c).length := by
  unfold qe
  split
  · simp
  · split <;> simp
theorem qb_ge (q : UInt8) (esc : Bool) : ∀ l : List UInt8, l.length ≤ (qb q esc l).length
  | [] => by simp
  | c :: r => by
    have h1 := qe_ge q esc c
    have h2 := qb_ge q esc r
    rw [qb_cons, List.length_append, List.length_cons]
    omega

theorem Builder_String_any' (B b : Nat) (l : List UInt8) (w : World) (h : Lib.IsBuilder 37 5 B b (Lib.byteCells l) w) (hBw : B ≤ w.heap.size) :
    Calls Try.prog 25 #[.pointer (some ⟨b, 0, none⟩)] w fun e w' => e = .returned (.string ⟨l.toArray⟩) ∧ Below B w w' := Try.Builder_String_any B b l w h hBw

set_option maxRecDepth 100000 in
set_option maxHeartbeats 4000000 in
theorem scan_any (S : ByteArray) (p : Nat) (q : UInt8) (esc : Bool) (v rest : List UInt8) (w : World) (hS : S.size ≤ 1048576) (hd : S.data.toList.drop p = q :: (qb q esc v ++ (q :: rest))) (hr : ∀ c r, rest = c :: r → c ≠ q) :
    Calls Try.prog 19 #[.string S, .int .i64 p, .bool esc] w fun e w' => e = .returned (.tuple #[.string ⟨v.toArray⟩, .int .i64 (p + 2 + (qb q esc v).length : Nat), .bool true]) ∧ Below w.heap.size w w' := by
  obtain ⟨hp, hq, hd1⟩ := at_of_drop hd
  have HR : Hid (∀ c r, rest = c :: r → c ≠ q) := hr
  have HM0 : Hid (Mid S q esc v rest p (p + 1) [] v) := ⟨rfl, hd1, by simp [qb]⟩
  have hql := q.toNat_lt
  clear hd hd1 hr
  go_enter Try.func19, Try.ntmps19
  go_wp2
  have HB0 : Lib.IsBuilder 37 5 w.heap.size w.heap.size (Lib.byteCells []) (w.alloc (.cells #[.pointer none, .slice none 0 0] 37)) :=
    .inl ⟨Nat.le_refl _, .slice none 0 0, heap_alloc_new w _, World.ownsRow_nil _ _ _ _, by simp [Value.ownBlock]⟩
  have hb0 : Below w.heap.size w (w.alloc (.cells #[.pointer none, .slice none 0 0] 37)) := (Below.refl _ _).alloc (Nat.le_refl _) _
  have HBB : Hid _ := HB0
  have HBL : Hid _ := hb0
  clear HB0 hb0
  go_loopw [11] (fun i wr => ∃ (j : Nat) (done rem : List UInt8), j ≤ S.size ∧ i = .int .i64 j ∧ Hid (Mid S q esc v rest p j done rem) ∧ Lib.IsBuilder 37 5 w.heap.size w.heap.size (Lib.byteCells done) wr ∧ Below w.heap.size w wr) (fun i _ => S.size - (intOf i).toNat)
  case atStart => exact ⟨p + 1, [], v, by omega, by go_num, HM0, HBB.out, HBL.out⟩
  case round =>
    clear HM0 HBB HBL hp hq
    obtain ⟨j, done, rem, hj, rfl, HM, hbd, hbw⟩ := hrel
    have hdl : done.length ≤ 1048576 := by
      have h1 := HM.out.place
      have h2 : done.length ≤ (qb q esc done).length := qb_ge q esc done
      omega
    have hbc : (Lib.byteCells done).length = done.length := Lib.byteCells_length done
    cases rem with
    | nil =>
      have hl : S.data.toList.drop j = q :: rest := HM.out.left
      obtain ⟨hjl, hc, hd⟩ := at_of_drop hl
      have hvd : v = done := by rw [HM.out.all]; simp
      have hpl := HM.out.place
      have HPL : Hid (j = p + 1 + (qb q esc done).length) := hpl
      have HVD : Hid (v = done) := hvd
      have HST := Builder_String_any' w.heap.size w.heap.size done wr hbd hbw.size
      clear hl hpl hvd
      by_cases hend : j + 1 < S.size
      · obtain ⟨c, r, hcr⟩ : ∃ c r, rest = c :: r := by
          cases rest with
          | nil => have := end_of_drop hd; omega
          | cons c r => exact ⟨c, r, rfl⟩
        rw [hcr] at hd
        obtain ⟨_, hc2, _⟩ := at_of_drop hd
        have hne := HR.out c r hcr
        have hcl := c.toNat_lt
        have hb : ((c.toNat : Int) == (q.toNat : Int)) = false := by
          rw [beq_eq_false_iff_ne]
          intro x
          exact hne (UInt8.toNat_inj.1 (by omega))
        clear hd hcr hne
        go_wp2_with (go_at_call 25; refine HST.mono ?_; rintro e w' ⟨rfl, hb'⟩)
        go_ret3
        exact ⟨ret_sib (by rw [HVD.out]) (by have := HPL.out; rw [HVD.out]; omega), hbw.trans hb'⟩
      · go_wp2_with (go_at_call 25; refine HST.mono ?_; rintro e w' ⟨rfl, hb'⟩)
        go_ret3
        exact ⟨ret_sib (by rw [HVD.out]) (by have := HPL.out; rw [HVD.out]; omega), hbw.trans hb'⟩
    | cons c r =>
      have hl : S.data.toList.drop j = qe q esc c ++ (qb q esc r ++ (q :: rest)) := by rw [HM.out.left, qb_cons, List.append_assoc]
      have hcl := c.toNat_lt
      by_cases h1 : c = q
      · subst h1
        have e1 : qe c esc c = [c, c] := by simp [qe]
        rw [e1] at hl
        obtain ⟨hjl, hc, hd⟩ := at_of_drop hl
        obtain ⟨hjl2, hc2, hd2⟩ := at_of_drop hd
        have HM2 : Hid (Mid S c esc v rest p (j + 2) (done ++ [c]) r) := HM.out.next 2 (by rw [e1]; rfl)
        have HW := writeByte_any w.heap.size w.heap.size (Lib.byteCells done) c.toNat wr hbd (by rw [hbc]; omega) hbw.size
        clear hl hd hd2 e1
        go_wp2_with (go_at_call 24; refine HW.mono ?_; rintro e w' ⟨rfl, hbd', hb'⟩)
        go_roundw
        case rel => exact ⟨j + 2, _, _, by omega, by go_num, HM2, .inr (by rw [bc_snoc]; exact hbd'), hbw.trans hb'⟩
        case measure => simp [intOf]; omega
      · have hb : ((c.toNat : Int) == (q.toNat : Int)) = false := by
          rw [beq_eq_false_iff_ne]
          intro x
          exact h1 (UInt8.toNat_inj.1 (by omega))
        by_cases h2 : esc = true ∧ c = 92
        · obtain ⟨rfl, rfl⟩ := h2
          have hb92 : ((92 : Int) == (q.toNat : Int)) = false := hb
          have e1 : qe q true 92 = [92, 92] := by rw [qe, if_neg h1, if_pos ⟨rfl, rfl⟩]
          rw [e1] at hl
          obtain ⟨hjl, hc, hd⟩ := at_of_drop hl
          obtain ⟨hjl2, hc2, hd2⟩ := at_of_drop hd
          have HM2 : Hid (Mid S q true v rest p (j + 2) (done ++ [92]) r) := HM.out.next 2 (by rw [e1]; rfl)
          have HW := writeString_any w.heap.size w.heap.size (Lib.byteCells done) ⟨#[92]⟩ wr hbd (by rw [hbc]; show done.length + 1 ≤ _; omega) hbw.size
          clear hl hd hd2 e1 h1
          go_wp2_with (first | (go_at_call 27; refine (unescape_bs _).mono ?_; rintro e w' ⟨rfl, rfl⟩) | (go_at_call 26; refine HW.mono ?_; rintro e w' ⟨rfl, hbd', hb'⟩))
          go_roundw
          case rel => exact ⟨j + 2, _, _, by omega, by go_num, HM2, .inr (by rw [bc_snoc]; exact hbd'), hbw.trans hb'⟩
          case measure => simp [intOf]; omega
        · have e1 : qe q esc c = [c] := by rw [qe, if_neg h1, if_neg h2]
          rw [e1] at hl
          obtain ⟨hjl, hc, hd⟩ := at_of_drop hl
          have HM2 : Hid (Mid S q esc v rest p (j + 1) (done ++ [c]) r) := HM.out.next 1 (by rw [e1]; rfl)
          have HW := writeByte_any w.heap.size w.heap.size (Lib.byteCells done) c.toNat wr hbd (by rw [hbc]; omega) hbw.size
          clear hl hd e1 h1
          by_cases h92 : c = 92
          · have hesc : esc = false := by cases esc <;> simp_all
            subst hesc
            have hb2 : ((c.toNat : Int) == 92) = true := by rw [h92]; rfl
            clear h92 h2
            go_wp2_with (go_at_call 24; refine HW.mono ?_; rintro e w' ⟨rfl, hbd', hb'⟩)
            go_roundw
            case rel => exact ⟨j + 1, _, _, by omega, by go_num, HM2, .inr (by rw [bc_snoc]; exact hbd'), hbw.trans hb'⟩
            case measure => simp [intOf]; omega
          · have hb2 : ((c.toNat : Int) == 92) = false := by
              rw [beq_eq_false_iff_ne]
              intro x
              exact h92 (UInt8.toNat_inj.1 (by rw [show (92 : UInt8).toNat = 92 from rfl]; omega))
            clear h92 h2
            go_wp2_with (go_at_call 24; refine HW.mono ?_; rintro e w' ⟨rfl, hbd', hb'⟩)
            go_roundw
            case rel => exact ⟨j + 1, _, _, by omega, by go_num, HM2, .inr (by rw [bc_snoc]; exact hbd'), hbw.trans hb'⟩
            case measure => simp [intOf]; omega

set_option maxRecDepth 100000 in
theorem zscan_any (S : ByteArray) (p : Nat) (q : UInt8) (esc : Bool) (v rest : List UInt8) (w : World) (hS : S.size ≤ 1048576) (hd : S.data.toList.drop p = q :: (qb q esc v ++ (q :: rest))) (hr : ∀ c r, rest = c :: r → c ≠ q) :
    Calls Try.prog 15 #[.string S, .int .i64 p, .bool esc] w fun e w' => e = .returned (.tuple #[.string ⟨v.toArray⟩, .int .i64 (p + 2 + (qb q esc v).length : Nat), .bool true]) ∧ Below w.heap.size w w' := by
  have H := scan_any S p q esc v rest w hS hd hr
  clear hd hr
  go_enter Try.func15, Try.ntmps15
  go_wp2_with (go_at_call 19; refine H.mono ?_; rintro e w' ⟨rfl, hb⟩)
  go_ret3
  exact ⟨rfl, hb⟩
end Go.Proofs.Qxb6601642a
