import Derived.Test.Qxb6002372aPlain
import Derived.Test.Qxb6002372aFacts
import Derived.WalkKit
import Derived.ProofKit
import Derived.OpenShut
import Derived.ShutString
import Derived.ChangeOld
import Derived.Below
import Derived.Deep.QuietTactic
import Derived.BigQuiet
namespace Go.Proofs.Qxb6002372a.fnSplitOutsideIsPlainSplitWithoutParentheses
open Go.ChangeShapes Go.WideShapes Go.ChangeAt Go.RowKit
open Go.ChangeMaps (open_string shut_string)
set_option linter.unusedVariables false

theorem own : ownKnob Try.prog.godebug = none := by kernel_rfl

/-- A row of strings, read. -/
theorem row_at {B : Nat} {ao : Option Addr} {n cap : Nat} {ps : List (List UInt8)} {W0 w : World} (h : Own B 9 ao n cap (ps.map strV) W0 w) (hne : ps ≠ []) :
    n = ps.length ∧ ∃ g, ao = some ⟨g, 0, none⟩ ∧ g < w.heap.size ∧ ps.length ≤ 9223372036854775807 ∧ ∀ j, j < ps.length → w.cell? ⟨g, j, none⟩ = some (.string ⟨(ps.getD j []).toArray⟩) := by
  have hl := h.len
  rw [List.length_map] at hl
  subst hl
  obtain ⟨g, rfl, _, hg, hc1, hc2, hc⟩ := h.at (List.length_pos_iff.2 hne)
  refine ⟨rfl, g, rfl, hg, by unfold maxLen at hc2; omega, fun j hj => ?_⟩
  rw [hc j hj]
  simp [strV, hj]

theorem splP_ne (sep : UInt8) : ∀ (l cur : List UInt8), splP sep l cur ≠ []
  | [], cur => by simp [splP]
  | c :: r, cur => by
    rw [splP]
    split
    · simp
    · exact splP_ne sep r _

set_option maxRecDepth 100000 in
set_option maxHeartbeats 1000000 in
theorem walk0 (s : ByteArray) (sep : UInt8) (hs : s.size ≤ 65536) (w : World) :
    Calls Try.prog 6 #[.string s, .int .u8 sep.toNat] w fun e w' => e = .returned (.bool true) ∧ Below w.heap.size w w' := by
  go_enter Try.func6, Try.ntmps6
  go_wp2
  go_loop [5] (fun i => ∃ k : Nat, k ≤ s.size ∧ i = .int .i64 k ∧ Hid (∀ j (hj : j < s.size), j < k → s[j].toNat ≠ 40 ∧ s[j].toNat ≠ 41)) (fun i => s.size - (intOf i).toNat)
  case atStart => exact ⟨0, Nat.zero_le _, rfl, fun j hj h => by omega⟩
  case round =>
    obtain ⟨k, hk, rfl, HN⟩ := hrel
    by_cases hlt : k < s.size
    · by_cases h1 : s[k].toNat = 40
      · have h1' : ((s[k].toNat : Int) == 40) = true := by rw [h1]; rfl
        clear h1
        go_wp2
        go_ret
        exact ⟨rfl, Below.refl _ _⟩
      · have h1' : ((s[k].toNat : Int) == 40) = false := by rw [beq_eq_false_iff_ne]; omega
        by_cases h2 : s[k].toNat = 41
        · have h2' : ((s[k].toNat : Int) == 41) = true := by rw [h2]; rfl
          clear h2
          go_wp2
          go_ret
          exact ⟨rfl, Below.refl _ _⟩
        · have h2' : ((s[k].toNat : Int) == 41) = false := by rw [beq_eq_false_iff_ne]; omega
          go_wp2
          go_round
          case rel =>
            refine ⟨k + 1, by omega, by go_num, fun j hj h => ?_⟩
            by_cases e : j = k
            · subst e; exact ⟨h1, h2⟩
            · exact HN.out j hj (by omega)
          case measure => simp [intOf]; omega
    · have hall : ∀ c ∈ s.data.toList, c.toNat ≠ 40 ∧ c.toNat ≠ 41 := by
        intro c hc
        obtain ⟨j, hj, rfl⟩ := List.mem_iff_getElem.1 hc
        have hj' : j < s.size := by simpa using hj
        exact HN.out j hj' (by omega)
      have heq := spl_splP sep s.data.toList [] hall
      obtain ⟨ps, hps⟩ : ∃ ps, splP sep s.data.toList [] = ps := ⟨_, rfl⟩
      have hne : ps ≠ [] := by rw [← hps]; exact splP_ne _ _ _
      have H1 := plain_any s sep w hs
      rw [hps] at H1
      have H2 := fun wx => zsplit_any s sep wx (by omega)
      rw [heq, hps] at H2
      clear heq hps hall HN
      go_wp2_with fail
      refine H1.mono ?_
      rintro e w1 ⟨ao1, n1, cap1, rfl, hown1⟩
      go_wp2_with fail
      refine (H2 w1).mono ?_
      rintro e w2 ⟨ao2, n2, cap2, rfl, hown2⟩
      obtain ⟨rfl, g1, rfl, hg1, hlen, hc1⟩ := row_at hown1 hne
      obtain ⟨rfl, g2, rfl, hg2, _, hc2⟩ := row_at hown2 hne
      have hb1 := hown1.2.1
      have hb2 := hown2.2.1
      have HC1 : Hid (∀ wx : World, Below w2.heap.size w2 wx → ∀ j, j < ps.length → wx.cell? ⟨g1, j, none⟩ = some (.string ⟨(ps.getD j []).toArray⟩)) := by
        intro wx hx j hj
        rw [hx.cell (p := ⟨g1, j, none⟩) (Nat.lt_of_lt_of_le hg1 hb2.size), hb2.cell (p := ⟨g1, j, none⟩) hg1]
        exact hc1 j hj
      have HC2 : Hid (∀ wx : World, Below w2.heap.size w2 wx → ∀ j, j < ps.length → wx.cell? ⟨g2, j, none⟩ = some (.string ⟨(ps.getD j []).toArray⟩)) := by
        intro wx hx j hj
        rw [hx.cell (p := ⟨g2, j, none⟩) hg2]
        exact hc2 j hj
      have hbel : Below w.heap.size w w2 := hb1.trans (hb2.mono hb1.size)
      clear hown1 hown2 hc1 hc2 hb1 hb2 H1 H2 hne hg1 hg2
      go_wp2_with fail
      go_loopw [8] (fun i wr => ∃ k : Nat, k ≤ ps.length ∧ i = .int .i64 k ∧ Below w2.heap.size w2 wr) (fun i _ => ps.length - (intOf i).toNat)
      case atStart => exact ⟨0, Nat.zero_le _, rfl, Below.refl _ _⟩
      case round =>
        obtain ⟨k, hk, rfl, hbr⟩ := hrel
        by_cases hlt : k < ps.length
        · have hcx := HC1.out wr hbr k hlt
          have hcy := HC2.out wr hbr k hlt
          obtain ⟨P, hP⟩ : ∃ P : ByteArray, P = ⟨(ps.getD k []).toArray⟩ := ⟨_, rfl⟩
          rw [← hP] at hcx hcy
          clear hP
          have hlt' : (k : Int) < (ps.length : Int) := by omega
          go_wp2_with fail
          go_quiet (fail)
          go_wp2
          go_roundw
          case rel => exact ⟨k + 1, by omega, by go_num, below_drewN hbr _⟩
          case measure => simp [intOf]; omega
        · go_wp2
          go_ret
          exact ⟨rfl, hbel.trans (hbr.mono hbel.size)⟩

set_option maxRecDepth 100000 in
theorem walk (a0 : ByteArray) (a1 : Int) (w0 : a0.size ≤ maxLen) (w1 : (Lit.int .u8 a1).wf = true) (w : World) :
    Calls Try.prog 6 #[.string a0, .int .u8 a1] w fun e w' => e = .returned (.bool true) ∧ Below w.heap.size w w' := by
  unfold maxLen at w0
  have hb := bounds_u8 w1
  obtain ⟨sep, hsep⟩ : ∃ sep : UInt8, a1 = (sep.toNat : Int) := ⟨UInt8.ofNat a1.toNat, by simp; omega⟩
  subst hsep
  by_cases h1 : a0.size ≤ 65536
  · exact walk0 a0 sep h1 w
  · by_cases h2 : a0.size ≤ 1048576
    all_goals
      go_enter Try.func6, Try.ntmps6
      go_wp2
      go_ret
      exact ⟨rfl, Below.refl _ _⟩

/-! ### THE ROW's STEP -/
set_option maxRecDepth 100000 in
theorem lifted (os : Os) (started : os.Started) (H : Type) (enc : TypeId × Value → H) :
    ReturnsInHanded {} Try.checked os 6 .any (Rows.fnSplitOutsideIsPlainSplitWithoutParenthesesSpec.pre6 enc Try.prog Try.f6 Rows.fnSplitOutsideIsPlainSplitWithoutParenthesesRow.domain false) (Rows.fnSplitOutsideIsPlainSplitWithoutParenthesesSpec.post enc Try.prog Try.f6 false true false false) := by
  refine returnsInHanded_of_change (C := Try.checked) own started (by kernel_rfl) Try.func6
    (ChangeSpec.witness6 (enc := enc) (C := Try.checked) false ⟨#[], #[.string ByteArray.empty, .int .u8 0], []⟩ 8 (by kernel_rfl) (by kernel_rfl) (by kernel_rfl) (by kernel_rfl)) ?_
  intro W base args ds gs before hval0 hW hcnd _
  have hval : ∀ (j : Nat) t v, Try.f6.params[j]? = some t → args[j]? = some v → Value.okWide Try.prog W .any base t v := hval0
  have hW' := hW
  obtain ⟨p, q, hA0, hV, rfl, hfz, hnd⟩ := hW
  have hA : DataW.TrodAll enc Try.prog W 0 (fun _ => true) true Try.f6.params.toList args.toList ds p := hA0
  rw [Try.params6] at hA hval
  obtain ⟨v0, vs0, d0, ds0, p0, q0, hargs, rfl, rfl, h0, r0⟩ := trodAll_cons hA
  obtain ⟨v1, vs1, d1, ds1, p1, q1, rfl, rfl, rfl, h1, r1⟩ := trodAll_cons r0
  obtain ⟨rfl, rfl, rfl⟩ := trodAll_nil r1
  obtain rfl : args = #[v0, v1] := by cases args; simp_all
  obtain ⟨rfl, rfl⟩ := trodVars_none hV
  obtain ⟨a0, rfl, rfl, rfl, w0⟩ := open_string Try.underlying9 (hval 0 9 v0 rfl rfl) h0
  obtain ⟨a1, rfl, rfl, rfl, w1⟩ := open_int Try.underlying5 (hval 1 5 v1 rfl rfl) h1
  clear hA0 hval0
  refine (walk a0 a1 w0 w1 W).mono fun e W' ⟨he, bel⟩ => ?_
  subst he
  exact ⟨_, rfl, _, _, _, [], [] ++ ([] ++ []), [], hW', trodAll_mk1 (shut_bool Try.underlying4 _), (trodAll_cons_mk (shut_string Try.underlying9 w0) (trodAll_cons_mk (shut_int Try.underlying5 w1) trodAll_mk0)), rfl, bel.frame _, fun h => by cases h⟩

/-- The closed facts of a row, the three that read the head apart. -/
theorem closed6 : joinedFacts Try.prog 6 Try.f6 Rows.fnSplitOutsideIsPlainSplitWithoutParenthesesSpec Rows.fnSplitOutsideIsPlainSplitWithoutParenthesesRow = true := by
  unfold joinedFacts
  repeat' (with_reducible refine and_mk ?_ ?_)
  all_goals first | (with_reducible exact may_enter) | (rw [lifts_final]; as_aux_lemma => kernel_rfl) | (rw [make_cut]; as_aux_lemma => kernel_rfl) | as_aux_lemma => kernel_rfl

theorem over : Rows.fnSplitOutsideIsPlainSplitWithoutParenthesesRow.holds Try.pinned (OpenSpec.ofChange Rows.fnSplitOutsideIsPlainSplitWithoutParenthesesSpec) :=
  OpenClaim.holds_of_wide 6 Try.f6 rfl rfl rfl rfl rfl rfl rfl ⟨rfl, rfl, rfl, rfl, rfl⟩ rfl rfl rfl rfl rfl (by kernel_rfl) Try.func6 closed6
    (of_decide_eq_true (by kernel_rfl)) (by unfold Func.isWrapper; first | (rw [if_pos (by decide +kernel)]; kernel_rfl) | (rw [if_neg (by decide +kernel)]; exact ⟨rfl, rfl⟩))
    (fun os started H enc _ => lifted os started H enc)

/-- THE STATEMENT -/
theorem proved : Rows.FnSplitOutsideIsPlainSplitWithoutParenthesesSaid :=
  over
#print axioms proved
end Go.Proofs.Qxb6002372a.fnSplitOutsideIsPlainSplitWithoutParentheses
