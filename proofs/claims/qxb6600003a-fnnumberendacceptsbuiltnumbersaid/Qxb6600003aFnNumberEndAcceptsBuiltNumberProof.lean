import Derived.Test.Qxb6600003aAccept
import Derived.Test.Qxb6600003aFacts
import Derived.WalkKit
import Derived.ProofKit
import Derived.OpenShut
import Derived.ShutString
import Derived.ChangeOld
import Derived.Below
namespace Go.Proofs.Qxb6600003a.fnNumberEndAcceptsBuiltNumber
open Go.ChangeShapes Go.WideShapes Go.ChangeAt Go.RowKit
open Go.ChangeMaps (open_string shut_string)
set_option linter.unusedVariables false

theorem own : ownKnob Try.prog.godebug = none := by kernel_rfl
theorem laidOut : laidOutB Try.prog = true := by kernel_rfl

/-- WHAT THE WALK IS TOLD OF A SLICE OF INTEGERS THAT CAME IN: it is nil; or it leads to a row of 'cap' cells, the numbers 'zs' (the first 'len' are its elements, the rest its spare room), each fitting its kind. -/
def IsRow (k : IntKind) (w : World) (a : Option Addr) (len cap : Nat) (zs : List Int) : Prop :=
  (a = none ∧ len = 0 ∧ cap = 0 ∧ zs = []) ∨
  ∃ x, a = some x ∧ len ≤ cap ∧ cap ≤ maxLen ∧ zs.length = cap ∧ (∀ i, i < zs.length → w.cell? (x.add i) = some (.int k (zs.getD i 0))) ∧ ∀ n ∈ zs, (Lit.int k n).wf = true

set_option maxRecDepth 100000 in
set_option maxHeartbeats 2000000 in
theorem long (a0 a2 a4 a7 a8 : Option Addr) (n0 n2 n4 n7 n8 c0 c2 c4 c7 c8 : Nat) (b1 b3 b5 : Bool) (a6 : Int) (w : World) (m0 : n0 ≤ maxLen) (m2 : n2 ≤ maxLen) (m4 : n4 ≤ maxLen) (m7 : n7 ≤ maxLen) (m8 : n8 ≤ maxLen)
    (h : 65536 < n0 ∨ (n0 ≤ 65536 ∧ 65536 < n2) ∨ (n0 ≤ 65536 ∧ n2 ≤ 65536 ∧ 65536 < n4) ∨ (n0 ≤ 65536 ∧ n2 ≤ 65536 ∧ n4 ≤ 65536 ∧ 65536 < n7) ∨ (n0 ≤ 65536 ∧ n2 ≤ 65536 ∧ n4 ≤ 65536 ∧ n7 ≤ 65536 ∧ 65536 < n8)) :
    Calls Try.prog 6 #[.slice a0 n0 c0, .bool b1, .slice a2 n2 c2, .bool b3, .slice a4 n4 c4, .bool b5, .int .u8 a6, .slice a7 n7 c7, .slice a8 n8 c8] w fun e w' => e = .returned (.bool true) ∧ Below w.heap.size w w' := by
  unfold maxLen at m0 m2 m4 m7 m8
  rcases h with h | ⟨h1, h⟩ | ⟨h1, h2, h⟩ | ⟨h1, h2, h3, h⟩ | ⟨h1, h2, h3, h4, h⟩
  all_goals
    go_enter Try.func6, Try.ntmps6
    go_wp2
    all_goals
      go_ret
      exact ⟨rfl, Below.refl _ _⟩

set_option maxRecDepth 100000 in
set_option maxHeartbeats 2000000 in
theorem passed (a0 a2 a4 a7 : Option Addr) (n0 n2 n4 n7 n8 c0 c2 c4 c7 c8 b off : Nat) (b1 b3 b5 : Bool) (a6 : Int) (t : UInt8) (w : World) (m0 : n0 ≤ 65536) (m2 : n2 ≤ 65536) (m4 : n4 ≤ 65536) (m7 : n7 ≤ 65536) (m8 : n8 ≤ 65536) (hp : 0 < n8)
    (hc : w.cell? ⟨b, off, none⟩ = some (.int .u8 (t.toNat : Int))) (h : isD t ∨ (¬ isD t ∧ (t.toNat = 46 ∨ t.toNat = 101 ∨ t.toNat = 69))) :
    Calls Try.prog 6 #[.slice a0 n0 c0, .bool b1, .slice a2 n2 c2, .bool b3, .slice a4 n4 c4, .bool b5, .int .u8 a6, .slice a7 n7 c7, .slice (some ⟨b, off, none⟩) n8 c8] w fun e w' => e = .returned (.bool true) ∧ Below w.heap.size w w' := by
  have hl := t.toNat_lt
  rcases h with h | ⟨hn, h | h | h⟩
  · unfold isD at h
    obtain ⟨h1, h2⟩ := h
    have hb : decide ((t.toNat : Int) ≤ 57) = true := by simp; omega
    go_enter Try.func6, Try.ntmps6
    go_wp2
    go_ret
    exact ⟨rfl, Below.refl _ _⟩
  · have hb : ((t.toNat : Int) == 46) = true := by rw [h]; rfl
    have HN : Hid (¬ isD t) := hn
    clear h hn
    go_enter Try.func6, Try.ntmps6
    go_wp2_with (first | (go_at_call 21; refine (isdig_no t _ HN.out).mono ?_; rintro e w' ⟨rfl, rfl⟩) | go_in)
    go_ret
    exact ⟨rfl, Below.refl _ _⟩
  · have hb0 : ((t.toNat : Int) == 46) = false := by rw [h]; rfl
    have hb : ((t.toNat : Int) == 101) = true := by rw [h]; rfl
    have HN : Hid (¬ isD t) := hn
    clear h hn
    go_enter Try.func6, Try.ntmps6
    go_wp2_with (first | (go_at_call 21; refine (isdig_no t _ HN.out).mono ?_; rintro e w' ⟨rfl, rfl⟩) | go_in)
    go_ret
    exact ⟨rfl, Below.refl _ _⟩
  · have hb0 : ((t.toNat : Int) == 46) = false := by rw [h]; rfl
    have hb1 : ((t.toNat : Int) == 101) = false := by rw [h]; rfl
    have hb : ((t.toNat : Int) == 69) = true := by rw [h]; rfl
    have HN : Hid (¬ isD t) := hn
    clear h hn
    go_enter Try.func6, Try.ntmps6
    go_wp2_with (first | (go_at_call 21; refine (isdig_no t _ HN.out).mono ?_; rintro e w' ⟨rfl, rfl⟩) | go_in)
    go_ret
    exact ⟨rfl, Below.refl _ _⟩

theorem walk (a0 : Option Addr) (len0 cap0 : Nat) (z0 : List Int) (a1 : Bool) (a2 : Option Addr) (len2 cap2 : Nat) (z2 : List Int) (a3 : Bool) (a4 : Option Addr) (len4 cap4 : Nat) (z4 : List Int) (a5 : Bool) (a6 : Int) (a7 : Option Addr) (len7 cap7 : Nat) (z7 : List Int) (a8 : Option Addr) (len8 cap8 : Nat) (z8 : List Int) (w : World) (w0 : IsRow .u8 w a0 len0 cap0 z0) (w2 : IsRow .u8 w a2 len2 cap2 z2) (w4 : IsRow .u8 w a4 len4 cap4 z4) (w6 : (Lit.int .u8 a6).wf = true) (w7 : IsRow .u8 w a7 len7 cap7 z7) (w8 : IsRow .u8 w a8 len8 cap8 z8) :
    Calls Try.prog 6 #[.slice a0 len0 cap0, .bool a1, .slice a2 len2 cap2, .bool a3, .slice a4 len4 cap4, .bool a5, .int .u8 a6, .slice a7 len7 cap7, .slice a8 len8 cap8] w fun e w' => e = .returned (.bool true) ∧ Below w.heap.size w w' := by
  obtain ⟨l0, h0⟩ := src_of_row w0
  obtain ⟨l2, h2⟩ := src_of_row w2
  obtain ⟨l4, h4⟩ := src_of_row w4
  obtain ⟨l7, h7⟩ := src_of_row w7
  obtain ⟨l8, h8⟩ := src_of_row w8
  have g0 : len0 ≤ maxLen := Nat.le_trans h0.2.1 h0.2.2.1
  have g2 : len2 ≤ maxLen := Nat.le_trans h2.2.1 h2.2.2.1
  have g4 : len4 ≤ maxLen := Nat.le_trans h4.2.1 h4.2.2.1
  have g7 : len7 ≤ maxLen := Nat.le_trans h7.2.1 h7.2.2.1
  have g8 : len8 ≤ maxLen := Nat.le_trans h8.2.1 h8.2.2.1
  have hb6 := bounds_u8 w6
  obtain ⟨q, rfl⟩ : ∃ q : UInt8, a6 = (q.toNat : Int) := ⟨UInt8.ofNat a6.toNat, by simp; omega⟩
  by_cases hlen : len0 ≤ 65536 ∧ len2 ≤ 65536 ∧ len4 ≤ 65536 ∧ len7 ≤ 65536 ∧ len8 ≤ 65536
  · obtain ⟨m0, m2, m4, m7, m8⟩ := hlen
    by_cases ht : tok l8
    · obtain ⟨rfl, r0⟩ := h0
      obtain ⟨rfl, r2⟩ := h2
      obtain ⟨rfl, r4⟩ := h4
      obtain ⟨rfl, r7⟩ := h7
      obtain ⟨rfl, r8⟩ := h8
      exact accept_walk l0 l2 l4 l7 l8 a0 a2 a4 a7 a8 cap0 cap2 cap4 cap7 cap8 w ⟨rfl, r0⟩ ⟨rfl, r2⟩ ⟨rfl, r4⟩ ⟨rfl, r7⟩ ⟨rfl, r8⟩ a1 a3 a5 q m0 m2 m4 m7 m8 ht
    · cases l8 with
      | nil => exact absurd (fun c r e => by cases e) ht
      | cons t r =>
        obtain ⟨hl8, _, _, _, hcells⟩ := h8
        have hp : 0 < len8 := by rw [← hl8]; simp
        obtain ⟨b, off, rfl, _, hc⟩ := hcells hp
        refine passed a0 a2 a4 a7 len0 len2 len4 len7 len8 cap0 cap2 cap4 cap7 cap8 b off a1 a3 a5 _ t w m0 m2 m4 m7 m8 hp (hc 0 (by simp)) ?_
        by_cases hd : isD t
        · exact .inl hd
        · refine .inr ⟨hd, ?_⟩
          by_cases x1 : t.toNat = 46
          · exact .inl x1
          · by_cases x2 : t.toNat = 101
            · exact .inr (.inl x2)
            · by_cases x3 : t.toNat = 69
              · exact .inr (.inr x3)
              · exact absurd (fun c r' e => by obtain ⟨rfl, rfl⟩ := List.cons.inj e; exact ⟨hd, x1, x2, x3⟩) ht
  · exact long a0 a2 a4 a7 a8 len0 len2 len4 len7 len8 cap0 cap2 cap4 cap7 cap8 a1 a3 a5 _ w g0 g2 g4 g7 g8 (by omega)

/-! ### THE ROW's STEP -/
set_option maxRecDepth 100000 in
theorem lifted (os : Os) (started : os.Started) (H : Type) (enc : TypeId × Value → H) :
    ReturnsInHanded {} Try.checked os 6 .any (Rows.fnNumberEndAcceptsBuiltNumberSpec.pre6 enc Try.prog Try.f6 Rows.fnNumberEndAcceptsBuiltNumberRow.domain false) (Rows.fnNumberEndAcceptsBuiltNumberSpec.post enc Try.prog Try.f6 false true false false) := by
  refine returnsInHanded_of_change (C := Try.checked) own started (by kernel_rfl) Try.func6
    (ChangeSpec.witness6 (enc := enc) (C := Try.checked) false ⟨#[], #[.slice none 0 0, .bool false, .slice none 0 0, .bool false, .slice none 0 0, .bool false, .int .u8 0, .slice none 0 0, .slice none 0 0], []⟩ 8 (by kernel_rfl) (by kernel_rfl) (by kernel_rfl) (by kernel_rfl)) ?_
  intro W base args ds gs before hval0 hW hcnd _
  have hval : ∀ (j : Nat) t v, Try.f6.params[j]? = some t → args[j]? = some v → Value.okWide Try.prog W .any base t v := hval0
  have hW' := hW
  obtain ⟨p, q, hA0, hV, rfl, hfz, hnd⟩ := hW
  have hA : DataW.TrodAll enc Try.prog W 0 (fun _ => true) true Try.f6.params.toList args.toList ds p := hA0
  rw [Try.params6] at hA hval
  obtain ⟨v0, vs0, d0, ds0, p0, q0, hargs, rfl, rfl, h0, r0⟩ := trodAll_cons hA
  obtain ⟨v1, vs1, d1, ds1, p1, q1, rfl, rfl, rfl, h1, r1⟩ := trodAll_cons r0
  obtain ⟨v2, vs2, d2, ds2, p2, q2, rfl, rfl, rfl, h2, r2⟩ := trodAll_cons r1
  obtain ⟨v3, vs3, d3, ds3, p3, q3, rfl, rfl, rfl, h3, r3⟩ := trodAll_cons r2
  obtain ⟨v4, vs4, d4, ds4, p4, q4, rfl, rfl, rfl, h4, r4⟩ := trodAll_cons r3
  obtain ⟨v5, vs5, d5, ds5, p5, q5, rfl, rfl, rfl, h5, r5⟩ := trodAll_cons r4
  obtain ⟨v6, vs6, d6, ds6, p6, q6, rfl, rfl, rfl, h6, r6⟩ := trodAll_cons r5
  obtain ⟨v7, vs7, d7, ds7, p7, q7, rfl, rfl, rfl, h7, r7⟩ := trodAll_cons r6
  obtain ⟨v8, vs8, d8, ds8, p8, q8, rfl, rfl, rfl, h8, r8⟩ := trodAll_cons r7
  obtain ⟨rfl, rfl, rfl⟩ := trodAll_nil r8
  obtain rfl : args = #[v0, v1, v2, v3, v4, v5, v6, v7, v8] := by cases args; simp_all
  obtain ⟨rfl, rfl⟩ := trodVars_none hV
  obtain ⟨a0, len0, cap0, rfl⟩ := okWide_slice Try.underlying22 (hval 0 22 v0 rfl rfl)
  have k0 := h0
  have lt0 : ∀ x ∈ p0, x.block < W.heap.size := by obtain ⟨m, hm⟩ := k0; exact DataW.trod_lt m _ _ _ hm
  obtain ⟨z0, w0⟩ : ∃ zs, IsRow .u8 W a0 len0 cap0 zs := by
    obtain ⟨fuel, hf⟩ := h0
    rcases open_ints Try.underlying22 Try.underlying5 (by kernel_rfl) hf with ⟨hcs, _⟩ | ⟨x, l, c, zs, hcs, _, hl, hm, hz, _, hcell, hwz⟩
    · simp [Value.cells] at hcs
      obtain ⟨rfl, rfl, rfl⟩ := hcs
      exact ⟨[], .inl ⟨rfl, rfl, rfl, rfl⟩⟩
    · simp [Value.cells] at hcs
      obtain ⟨rfl, rfl, rfl⟩ := hcs
      exact ⟨zs, .inr ⟨_, rfl, hl, hm, by simpa using hz, hcell, hwz⟩⟩
  obtain ⟨a1, rfl, rfl, rfl⟩ := open_bool Try.underlying4 (hval 1 4 v1 rfl rfl) h1
  obtain ⟨a2, len2, cap2, rfl⟩ := okWide_slice Try.underlying22 (hval 2 22 v2 rfl rfl)
  have k2 := h2
  have lt2 : ∀ x ∈ p2, x.block < W.heap.size := by obtain ⟨m, hm⟩ := k2; exact DataW.trod_lt m _ _ _ hm
  obtain ⟨z2, w2⟩ : ∃ zs, IsRow .u8 W a2 len2 cap2 zs := by
    obtain ⟨fuel, hf⟩ := h2
    rcases open_ints Try.underlying22 Try.underlying5 (by kernel_rfl) hf with ⟨hcs, _⟩ | ⟨x, l, c, zs, hcs, _, hl, hm, hz, _, hcell, hwz⟩
    · simp [Value.cells] at hcs
      obtain ⟨rfl, rfl, rfl⟩ := hcs
      exact ⟨[], .inl ⟨rfl, rfl, rfl, rfl⟩⟩
    · simp [Value.cells] at hcs
      obtain ⟨rfl, rfl, rfl⟩ := hcs
      exact ⟨zs, .inr ⟨_, rfl, hl, hm, by simpa using hz, hcell, hwz⟩⟩
  obtain ⟨a3, rfl, rfl, rfl⟩ := open_bool Try.underlying4 (hval 3 4 v3 rfl rfl) h3
  obtain ⟨a4, len4, cap4, rfl⟩ := okWide_slice Try.underlying22 (hval 4 22 v4 rfl rfl)
  have k4 := h4
  have lt4 : ∀ x ∈ p4, x.block < W.heap.size := by obtain ⟨m, hm⟩ := k4; exact DataW.trod_lt m _ _ _ hm
  obtain ⟨z4, w4⟩ : ∃ zs, IsRow .u8 W a4 len4 cap4 zs := by
    obtain ⟨fuel, hf⟩ := h4
    rcases open_ints Try.underlying22 Try.underlying5 (by kernel_rfl) hf with ⟨hcs, _⟩ | ⟨x, l, c, zs, hcs, _, hl, hm, hz, _, hcell, hwz⟩
    · simp [Value.cells] at hcs
      obtain ⟨rfl, rfl, rfl⟩ := hcs
      exact ⟨[], .inl ⟨rfl, rfl, rfl, rfl⟩⟩
    · simp [Value.cells] at hcs
      obtain ⟨rfl, rfl, rfl⟩ := hcs
      exact ⟨zs, .inr ⟨_, rfl, hl, hm, by simpa using hz, hcell, hwz⟩⟩
  obtain ⟨a5, rfl, rfl, rfl⟩ := open_bool Try.underlying4 (hval 5 4 v5 rfl rfl) h5
  obtain ⟨a6, rfl, rfl, rfl, w6⟩ := open_int Try.underlying5 (hval 6 5 v6 rfl rfl) h6
  obtain ⟨a7, len7, cap7, rfl⟩ := okWide_slice Try.underlying22 (hval 7 22 v7 rfl rfl)
  have k7 := h7
  have lt7 : ∀ x ∈ p7, x.block < W.heap.size := by obtain ⟨m, hm⟩ := k7; exact DataW.trod_lt m _ _ _ hm
  obtain ⟨z7, w7⟩ : ∃ zs, IsRow .u8 W a7 len7 cap7 zs := by
    obtain ⟨fuel, hf⟩ := h7
    rcases open_ints Try.underlying22 Try.underlying5 (by kernel_rfl) hf with ⟨hcs, _⟩ | ⟨x, l, c, zs, hcs, _, hl, hm, hz, _, hcell, hwz⟩
    · simp [Value.cells] at hcs
      obtain ⟨rfl, rfl, rfl⟩ := hcs
      exact ⟨[], .inl ⟨rfl, rfl, rfl, rfl⟩⟩
    · simp [Value.cells] at hcs
      obtain ⟨rfl, rfl, rfl⟩ := hcs
      exact ⟨zs, .inr ⟨_, rfl, hl, hm, by simpa using hz, hcell, hwz⟩⟩
  obtain ⟨a8, len8, cap8, rfl⟩ := okWide_slice Try.underlying22 (hval 8 22 v8 rfl rfl)
  have k8 := h8
  have lt8 : ∀ x ∈ p8, x.block < W.heap.size := by obtain ⟨m, hm⟩ := k8; exact DataW.trod_lt m _ _ _ hm
  obtain ⟨z8, w8⟩ : ∃ zs, IsRow .u8 W a8 len8 cap8 zs := by
    obtain ⟨fuel, hf⟩ := h8
    rcases open_ints Try.underlying22 Try.underlying5 (by kernel_rfl) hf with ⟨hcs, _⟩ | ⟨x, l, c, zs, hcs, _, hl, hm, hz, _, hcell, hwz⟩
    · simp [Value.cells] at hcs
      obtain ⟨rfl, rfl, rfl⟩ := hcs
      exact ⟨[], .inl ⟨rfl, rfl, rfl, rfl⟩⟩
    · simp [Value.cells] at hcs
      obtain ⟨rfl, rfl, rfl⟩ := hcs
      exact ⟨zs, .inr ⟨_, rfl, hl, hm, by simpa using hz, hcell, hwz⟩⟩
  clear hA0 hval0
  refine (walk a0 len0 cap0 z0 a1 a2 len2 cap2 z2 a3 a4 len4 cap4 z4 a5 a6 a7 len7 cap7 z7 a8 len8 cap8 z8 W w0 w2 w4 w6 w7 w8).mono fun e W' ⟨he, bel⟩ => ?_
  subst he
  exact ⟨_, rfl, _, _, _, [], _, [], hW', trodAll_mk1 (shut_bool Try.underlying4 _), (trodAll_cons_mk (Below.trod laidOut (by kernel_rfl) (of_decide_eq_true (by kernel_rfl)) k0 bel lt0) (trodAll_cons_mk (shut_bool Try.underlying4 _) (trodAll_cons_mk (Below.trod laidOut (by kernel_rfl) (of_decide_eq_true (by kernel_rfl)) k2 bel lt2) (trodAll_cons_mk (shut_bool Try.underlying4 _) (trodAll_cons_mk (Below.trod laidOut (by kernel_rfl) (of_decide_eq_true (by kernel_rfl)) k4 bel lt4) (trodAll_cons_mk (shut_bool Try.underlying4 _) (trodAll_cons_mk (shut_int Try.underlying5 w6) (trodAll_cons_mk (Below.trod laidOut (by kernel_rfl) (of_decide_eq_true (by kernel_rfl)) k7 bel lt7) (trodAll_cons_mk (Below.trod laidOut (by kernel_rfl) (of_decide_eq_true (by kernel_rfl)) k8 bel lt8) trodAll_mk0))))))))), rfl, bel.frame _, fun h => by cases h⟩

theorem closed : joinedFacts Try.prog 6 Try.f6 Rows.fnNumberEndAcceptsBuiltNumberSpec Rows.fnNumberEndAcceptsBuiltNumberRow = true := by
  unfold joinedFacts
  repeat' (with_reducible refine and_mk ?_ ?_)
  all_goals first | (with_reducible exact may_enter) | (rw [lifts_final]; as_aux_lemma => kernel_rfl) | (rw [make_cut]; as_aux_lemma => kernel_rfl) | as_aux_lemma => kernel_rfl

theorem over : Rows.fnNumberEndAcceptsBuiltNumberRow.holds Try.pinned (OpenSpec.ofChange Rows.fnNumberEndAcceptsBuiltNumberSpec) :=
  OpenClaim.holds_of_wide 6 Try.f6 rfl rfl rfl rfl rfl rfl rfl ⟨rfl, rfl, rfl, rfl, rfl⟩ rfl rfl rfl rfl rfl (by kernel_rfl) Try.func6 closed
    (of_decide_eq_true (by kernel_rfl)) (by unfold Func.isWrapper; first | (rw [if_pos (by decide +kernel)]; kernel_rfl) | (rw [if_neg (by decide +kernel)]; exact ⟨rfl, rfl⟩))
    (fun os started H enc _ => lifted os started H enc)

/-- THE STATEMENT -/
theorem proved : Rows.FnNumberEndAcceptsBuiltNumberSaid := over
#print axioms proved
end Go.Proofs.Qxb6600003a.fnNumberEndAcceptsBuiltNumber
