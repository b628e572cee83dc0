import Derived.Test.Qxb6600003aRefuse
import Derived.Test.Qxb6600003aFacts
import Derived.WalkKit
import Derived.ProofKit
import Derived.OpenShut
import Derived.ShutString
import Derived.ChangeOld
import Derived.Below
namespace Go.Proofs.Qxb6600003a.fnNumberEndRefusesEmptyPart
open Go.ChangeShapes Go.WideShapes Go.ChangeAt Go.RowKit
open Go.ChangeMaps (open_string shut_string)
set_option linter.unusedVariables false

theorem own : ownKnob Try.prog.godebug = none := by kernel_rfl
theorem laidOut : laidOutB Try.prog = true := by kernel_rfl

/-- WHAT THE WALK IS TOLD OF A SLICE OF INTEGERS THAT CAME IN: it is nil; or it leads to a row of 'cap' cells, the numbers 'zs' (the first 'len' are its elements, the rest its spare room), each fitting its kind. -/
def IsRow (k : IntKind) (w : World) (a : Option Addr) (len cap : Nat) (zs : List Int) : Prop :=
  (a = none ∧ len = 0 ∧ cap = 0 ∧ zs = []) ∨
  ∃ x, a = some x ∧ len ≤ cap ∧ cap ≤ maxLen ∧ zs.length = cap ∧ (∀ i, i < zs.length → w.cell? (x.add i) = some (.int k (zs.getD i 0))) ∧ ∀ n ∈ zs, (Lit.int k n).wf = true

set_option maxRecDepth 100000 in
set_option maxHeartbeats 1000000 in
theorem long (a0 a2 a5 : Option Addr) (n0 n2 n5 c0 c2 c5 : Nat) (a1 : Bool) (a3 a4 : Int) (w : World) (m0 : n0 ≤ maxLen) (m2 : n2 ≤ maxLen) (m5 : n5 ≤ maxLen) (h : 65536 < n0 ∨ (n0 ≤ 65536 ∧ 65536 < n2) ∨ (n0 ≤ 65536 ∧ n2 ≤ 65536 ∧ 65536 < n5)) :
    Calls Try.prog 8 #[.slice a0 n0 c0, .bool a1, .slice a2 n2 c2, .int .u8 a3, .int .u8 a4, .slice a5 n5 c5] w fun e w' => e = .returned (.bool true) ∧ Below w.heap.size w w' := by
  unfold maxLen at m0 m2 m5
  rcases h with h | ⟨h1, h⟩ | ⟨h1, h2, h⟩
  all_goals
    go_enter Try.func8, Try.ntmps8
    go_wp2
    all_goals
      go_ret
      exact ⟨rfl, Below.refl _ _⟩

set_option maxRecDepth 100000 in
set_option maxHeartbeats 1000000 in
theorem passed (a0 a2 a5 : Option Addr) (n0 n2 n5 c0 c2 c5 : Nat) (a1 : Bool) (a3 : Int) (c : UInt8) (w : World) (m0 : n0 ≤ 65536) (m2 : n2 ≤ 65536) (m5 : n5 ≤ 65536) (h : isD c ∨ (¬ isD c ∧ (c.toNat = 43 ∨ c.toNat = 45))) :
    Calls Try.prog 8 #[.slice a0 n0 c0, .bool a1, .slice a2 n2 c2, .int .u8 a3, .int .u8 c.toNat, .slice a5 n5 c5] w fun e w' => e = .returned (.bool true) ∧ Below w.heap.size w w' := by
  have hc := c.toNat_lt
  rcases h with h | ⟨hn, h | h⟩
  · unfold isD at h
    obtain ⟨h1, h2⟩ := h
    have hb : decide ((c.toNat : Int) ≤ 57) = true := by simp; omega
    go_enter Try.func8, Try.ntmps8
    go_wp2
    go_ret
    exact ⟨rfl, Below.refl _ _⟩
  · have hb : ((c.toNat : Int) == 43) = true := by rw [h]; rfl
    have HN : Hid (¬ isD c) := hn
    clear h hn
    go_enter Try.func8, Try.ntmps8
    go_wp2_with (first | (go_at_call 21; refine (isdig_no c _ HN.out).mono ?_; rintro e w' ⟨rfl, rfl⟩) | go_in)
    go_ret
    exact ⟨rfl, Below.refl _ _⟩
  · have hb0 : ((c.toNat : Int) == 43) = false := by rw [h]; rfl
    have hb : ((c.toNat : Int) == 45) = true := by rw [h]; rfl
    have HN : Hid (¬ isD c) := hn
    clear h hn
    go_enter Try.func8, Try.ntmps8
    go_wp2_with (first | (go_at_call 21; refine (isdig_no c _ HN.out).mono ?_; rintro e w' ⟨rfl, rfl⟩) | go_in)
    go_ret
    exact ⟨rfl, Below.refl _ _⟩

theorem walk (a0 : Option Addr) (len0 cap0 : Nat) (z0 : List Int) (a1 : Bool) (a2 : Option Addr) (len2 cap2 : Nat) (z2 : List Int) (a3 : Int) (a4 : Int) (a5 : Option Addr) (len5 cap5 : Nat) (z5 : List Int) (w : World) (w0 : IsRow .u8 w a0 len0 cap0 z0) (w2 : IsRow .u8 w a2 len2 cap2 z2) (w3 : (Lit.int .u8 a3).wf = true) (w4 : (Lit.int .u8 a4).wf = true) (w5 : IsRow .u8 w a5 len5 cap5 z5) :
    Calls Try.prog 8 #[.slice a0 len0 cap0, .bool a1, .slice a2 len2 cap2, .int .u8 a3, .int .u8 a4, .slice a5 len5 cap5] w fun e w' => e = .returned (.bool true) ∧ Below w.heap.size w w' := by
  obtain ⟨l0, h0⟩ := src_of_row w0
  obtain ⟨l2, h2⟩ := src_of_row w2
  obtain ⟨l5, h5⟩ := src_of_row w5
  have g0 : len0 ≤ maxLen := Nat.le_trans h0.2.1 h0.2.2.1
  have g2 : len2 ≤ maxLen := Nat.le_trans h2.2.1 h2.2.2.1
  have g5 : len5 ≤ maxLen := Nat.le_trans h5.2.1 h5.2.2.1
  have hb3 := bounds_u8 w3
  have hb4 := bounds_u8 w4
  obtain ⟨q, rfl⟩ : ∃ q : UInt8, a3 = (q.toNat : Int) := ⟨UInt8.ofNat a3.toNat, by simp; omega⟩
  obtain ⟨c, rfl⟩ : ∃ c : UInt8, a4 = (c.toNat : Int) := ⟨UInt8.ofNat a4.toNat, by simp; omega⟩
  by_cases hlen : len0 ≤ 65536 ∧ len2 ≤ 65536 ∧ len5 ≤ 65536
  · obtain ⟨m0, m2, m5⟩ := hlen
    by_cases hd : isD c
    · exact passed a0 a2 a5 len0 len2 len5 cap0 cap2 cap5 a1 _ c w m0 m2 m5 (.inl hd)
    · by_cases h43 : c.toNat = 43
      · exact passed a0 a2 a5 len0 len2 len5 cap0 cap2 cap5 a1 _ c w m0 m2 m5 (.inr ⟨hd, .inl h43⟩)
      · by_cases h45 : c.toNat = 45
        · exact passed a0 a2 a5 len0 len2 len5 cap0 cap2 cap5 a1 _ c w m0 m2 m5 (.inr ⟨hd, .inr h45⟩)
        · obtain ⟨rfl, r0⟩ := h0
          obtain ⟨rfl, r2⟩ := h2
          obtain ⟨rfl, r5⟩ := h5
          exact refuse_walk l0 l2 l5 a0 a2 a5 cap0 cap2 cap5 w ⟨rfl, r0⟩ ⟨rfl, r2⟩ ⟨rfl, r5⟩ a1 q c m0 m2 m5 hd h43 h45
  · exact long a0 a2 a5 len0 len2 len5 cap0 cap2 cap5 a1 _ _ w g0 g2 g5 (by omega)

/-! ### THE ROW's STEP -/
set_option maxRecDepth 100000 in
theorem lifted (os : Os) (started : os.Started) (H : Type) (enc : TypeId × Value → H) :
    ReturnsInHanded {} Try.checked os 8 .any (Rows.fnNumberEndRefusesEmptyPartSpec.pre6 enc Try.prog Try.f8 Rows.fnNumberEndRefusesEmptyPartRow.domain false) (Rows.fnNumberEndRefusesEmptyPartSpec.post enc Try.prog Try.f8 false true false false) := by
  refine returnsInHanded_of_change (C := Try.checked) own started (by kernel_rfl) Try.func8
    (ChangeSpec.witness6 (enc := enc) (C := Try.checked) false ⟨#[], #[.slice none 0 0, .bool false, .slice none 0 0, .int .u8 0, .int .u8 0, .slice none 0 0], []⟩ 8 (by kernel_rfl) (by kernel_rfl) (by kernel_rfl) (by kernel_rfl)) ?_
  intro W base args ds gs before hval0 hW hcnd _
  have hval : ∀ (j : Nat) t v, Try.f8.params[j]? = some t → args[j]? = some v → Value.okWide Try.prog W .any base t v := hval0
  have hW' := hW
  obtain ⟨p, q, hA0, hV, rfl, hfz, hnd⟩ := hW
  have hA : DataW.TrodAll enc Try.prog W 0 (fun _ => true) true Try.f8.params.toList args.toList ds p := hA0
  rw [Try.params8] at hA hval
  obtain ⟨v0, vs0, d0, ds0, p0, q0, hargs, rfl, rfl, h0, r0⟩ := trodAll_cons hA
  obtain ⟨v1, vs1, d1, ds1, p1, q1, rfl, rfl, rfl, h1, r1⟩ := trodAll_cons r0
  obtain ⟨v2, vs2, d2, ds2, p2, q2, rfl, rfl, rfl, h2, r2⟩ := trodAll_cons r1
  obtain ⟨v3, vs3, d3, ds3, p3, q3, rfl, rfl, rfl, h3, r3⟩ := trodAll_cons r2
  obtain ⟨v4, vs4, d4, ds4, p4, q4, rfl, rfl, rfl, h4, r4⟩ := trodAll_cons r3
  obtain ⟨v5, vs5, d5, ds5, p5, q5, rfl, rfl, rfl, h5, r5⟩ := trodAll_cons r4
  obtain ⟨rfl, rfl, rfl⟩ := trodAll_nil r5
  obtain rfl : args = #[v0, v1, v2, v3, v4, v5] := by cases args; simp_all
  obtain ⟨rfl, rfl⟩ := trodVars_none hV
  obtain ⟨a0, len0, cap0, rfl⟩ := okWide_slice Try.underlying22 (hval 0 22 v0 rfl rfl)
  have k0 := h0
  have lt0 : ∀ x ∈ p0, x.block < W.heap.size := by obtain ⟨m, hm⟩ := k0; exact DataW.trod_lt m _ _ _ hm
  obtain ⟨z0, w0⟩ : ∃ zs, IsRow .u8 W a0 len0 cap0 zs := by
    obtain ⟨fuel, hf⟩ := h0
    rcases open_ints Try.underlying22 Try.underlying5 (by kernel_rfl) hf with ⟨hcs, _⟩ | ⟨x, l, c, zs, hcs, _, hl, hm, hz, _, hcell, hwz⟩
    · simp [Value.cells] at hcs
      obtain ⟨rfl, rfl, rfl⟩ := hcs
      exact ⟨[], .inl ⟨rfl, rfl, rfl, rfl⟩⟩
    · simp [Value.cells] at hcs
      obtain ⟨rfl, rfl, rfl⟩ := hcs
      exact ⟨zs, .inr ⟨_, rfl, hl, hm, by simpa using hz, hcell, hwz⟩⟩
  obtain ⟨a1, rfl, rfl, rfl⟩ := open_bool Try.underlying4 (hval 1 4 v1 rfl rfl) h1
  obtain ⟨a2, len2, cap2, rfl⟩ := okWide_slice Try.underlying22 (hval 2 22 v2 rfl rfl)
  have k2 := h2
  have lt2 : ∀ x ∈ p2, x.block < W.heap.size := by obtain ⟨m, hm⟩ := k2; exact DataW.trod_lt m _ _ _ hm
  obtain ⟨z2, w2⟩ : ∃ zs, IsRow .u8 W a2 len2 cap2 zs := by
    obtain ⟨fuel, hf⟩ := h2
    rcases open_ints Try.underlying22 Try.underlying5 (by kernel_rfl) hf with ⟨hcs, _⟩ | ⟨x, l, c, zs, hcs, _, hl, hm, hz, _, hcell, hwz⟩
    · simp [Value.cells] at hcs
      obtain ⟨rfl, rfl, rfl⟩ := hcs
      exact ⟨[], .inl ⟨rfl, rfl, rfl, rfl⟩⟩
    · simp [Value.cells] at hcs
      obtain ⟨rfl, rfl, rfl⟩ := hcs
      exact ⟨zs, .inr ⟨_, rfl, hl, hm, by simpa using hz, hcell, hwz⟩⟩
  obtain ⟨a3, rfl, rfl, rfl, w3⟩ := open_int Try.underlying5 (hval 3 5 v3 rfl rfl) h3
  obtain ⟨a4, rfl, rfl, rfl, w4⟩ := open_int Try.underlying5 (hval 4 5 v4 rfl rfl) h4
  obtain ⟨a5, len5, cap5, rfl⟩ := okWide_slice Try.underlying22 (hval 5 22 v5 rfl rfl)
  have k5 := h5
  have lt5 : ∀ x ∈ p5, x.block < W.heap.size := by obtain ⟨m, hm⟩ := k5; exact DataW.trod_lt m _ _ _ hm
  obtain ⟨z5, w5⟩ : ∃ zs, IsRow .u8 W a5 len5 cap5 zs := by
    obtain ⟨fuel, hf⟩ := h5
    rcases open_ints Try.underlying22 Try.underlying5 (by kernel_rfl) hf with ⟨hcs, _⟩ | ⟨x, l, c, zs, hcs, _, hl, hm, hz, _, hcell, hwz⟩
    · simp [Value.cells] at hcs
      obtain ⟨rfl, rfl, rfl⟩ := hcs
      exact ⟨[], .inl ⟨rfl, rfl, rfl, rfl⟩⟩
    · simp [Value.cells] at hcs
      obtain ⟨rfl, rfl, rfl⟩ := hcs
      exact ⟨zs, .inr ⟨_, rfl, hl, hm, by simpa using hz, hcell, hwz⟩⟩
  clear hA0 hval0
  refine (walk a0 len0 cap0 z0 a1 a2 len2 cap2 z2 a3 a4 a5 len5 cap5 z5 W w0 w2 w3 w4 w5).mono fun e W' ⟨he, bel⟩ => ?_
  subst he
  exact ⟨_, rfl, _, _, _, [], _, [], hW', trodAll_mk1 (shut_bool Try.underlying4 _), (trodAll_cons_mk (Below.trod laidOut (by kernel_rfl) (of_decide_eq_true (by kernel_rfl)) k0 bel lt0) (trodAll_cons_mk (shut_bool Try.underlying4 _) (trodAll_cons_mk (Below.trod laidOut (by kernel_rfl) (of_decide_eq_true (by kernel_rfl)) k2 bel lt2) (trodAll_cons_mk (shut_int Try.underlying5 w3) (trodAll_cons_mk (shut_int Try.underlying5 w4) (trodAll_cons_mk (Below.trod laidOut (by kernel_rfl) (of_decide_eq_true (by kernel_rfl)) k5 bel lt5) trodAll_mk0)))))), rfl, bel.frame _, fun h => by cases h⟩

theorem closed : joinedFacts Try.prog 8 Try.f8 Rows.fnNumberEndRefusesEmptyPartSpec Rows.fnNumberEndRefusesEmptyPartRow = true := by
  unfold joinedFacts
  repeat' (with_reducible refine and_mk ?_ ?_)
  all_goals first | (with_reducible exact may_enter) | (rw [lifts_final]; as_aux_lemma => kernel_rfl) | (rw [make_cut]; as_aux_lemma => kernel_rfl) | as_aux_lemma => kernel_rfl

theorem over : Rows.fnNumberEndRefusesEmptyPartRow.holds Try.pinned (OpenSpec.ofChange Rows.fnNumberEndRefusesEmptyPartSpec) :=
  OpenClaim.holds_of_wide 8 Try.f8 rfl rfl rfl rfl rfl rfl rfl ⟨rfl, rfl, rfl, rfl, rfl⟩ rfl rfl rfl rfl rfl (by kernel_rfl) Try.func8 closed
    (of_decide_eq_true (by kernel_rfl)) (by unfold Func.isWrapper; first | (rw [if_pos (by decide +kernel)]; kernel_rfl) | (rw [if_neg (by decide +kernel)]; exact ⟨rfl, rfl⟩))
    (fun os started H enc _ => lifted os started H enc)

/-- THE STATEMENT -/
theorem proved : Rows.FnNumberEndRefusesEmptyPartSaid := over
#print axioms proved
end Go.Proofs.Qxb6600003a.fnNumberEndRefusesEmptyPart
