import Derived.Test.Qxb6002372aJoinLaw
import Derived.Test.Qxb6002372aFacts
import Derived.WalkKit
import Derived.ProofKit
import Derived.OpenShut
import Derived.ShutString
import Derived.ChangeOld
import Derived.Below
namespace Go.Proofs.Qxb6002372a.fnSplitOutsideJoinsBackIntoWholeParts
open Go.ChangeShapes Go.WideShapes Go.ChangeAt Go.RowKit
open Go.ChangeMaps (open_string shut_string)
set_option linter.unusedVariables false

theorem own : ownKnob Try.prog.godebug = none := by kernel_rfl
theorem info5 : (Try.prog.info? 5).map (fun i => (i.zero, i.size, i.bytes)) = some (some (.int .u8 0), 1, 1) := by kernel_rfl

theorem ba_of (s : ByteArray) : (⟨s.data.toList.toArray⟩ : ByteArray) = s := by simp

/-- The first call: the parts lie in memory. -/
theorem parts_any (s : ByteArray) (sep : UInt8) (w : World) (hs : s.size ≤ 1048576) (ps : List (List UInt8)) (hps : spl sep s.data.toList 0 [] = ps) :
    Calls Try.prog 20 #[.string s, .int .u8 sep.toNat] w fun e w' => ∃ g cap, e = .returned (.slice (some ⟨g, 0, none⟩) ps.length cap) ∧ 1 ≤ ps.length ∧ ps.length ≤ cap ∧ ps.length ≤ 9223372036854775807 ∧ g < w'.heap.size ∧
      (∀ j, j < ps.length → w'.cell? ⟨g, j, none⟩ = some (.string ⟨(ps.getD j []).toArray⟩)) ∧ Below w.heap.size w w' := by
  refine (zsplit_any s sep w hs).mono ?_
  rintro e w' ⟨ao, n, cap, rfl, hown⟩
  rw [hps] at hown
  have hl := hown.len
  rw [List.length_map] at hl
  subst hl
  have hne : 0 < ps.length := List.length_pos_iff.2 (by rw [← hps]; exact spl_ne _ _ _ _)
  obtain ⟨g, rfl, hB, hg, hc1, hc2, hc⟩ := hown.at hne
  refine ⟨g, cap, rfl, hne, hc1, by unfold maxLen at hc2; omega, hg, fun j hj => ?_, hown.2.1⟩
  rw [hc j hj]
  simp [strV, hj]

theorem cells_first (sep : UInt8) (ps : List (List UInt8)) (k : Nat) (hk : k < ps.length) (P : ByteArray) (hP : P.data.toList = ps[k]) (h0 : k = 0) (hl : jn sep (ps.take (k + 1)) = ps[k]) :
    ((jn sep (ps.take (k + 1))).map fun b => Value.int .u8 b.toNat) = ((jn sep (ps.take k)).map fun b => Value.int .u8 b.toNat) ++ Lib.strCells P := by
  rw [hl, Lib.strCells, hP]
  subst h0
  rfl

theorem cells_next (sep : UInt8) (ps : List (List UInt8)) (k : Nat) (hk : k < ps.length) (P : ByteArray) (hP : P.data.toList = ps[k]) (hl : jn sep (ps.take (k + 1)) = jn sep (ps.take k) ++ [sep] ++ ps[k]) :
    ((jn sep (ps.take (k + 1))).map fun b => Value.int .u8 b.toNat) = ((jn sep (ps.take k)).map fun b => Value.int .u8 b.toNat) ++ [Value.int .u8 sep.toNat] ++ Lib.strCells P := by
  rw [hl, Lib.strCells, hP, List.map_append, List.map_append]
  rfl

/-- The second call: of a part that is itself alone. -/
theorem part_any (P : ByteArray) (sep : UInt8) (w : World) (hs : P.size ≤ 1048576) (hp : spl sep P.data.toList 0 [] = [P.data.toList]) :
    Calls Try.prog 20 #[.string P, .int .u8 sep.toNat] w fun e w' => ∃ g cap, e = .returned (.slice (some ⟨g, 0, none⟩) 1 cap) ∧ w'.cell? ⟨g, 0, none⟩ = some (.string P) ∧ Below w.heap.size w w' := by
  refine (parts_any P sep w hs _ hp).mono ?_
  rintro e w' ⟨g, cap, rfl, _, _, _, _, hc, hb⟩
  exact ⟨g, cap, rfl, by simpa using hc 0 (by simp), hb⟩

set_option maxRecDepth 100000 in
set_option maxHeartbeats 1000000 in
theorem walk0 (s : ByteArray) (sep : UInt8) (hs : s.size ≤ 65536) (w : World) :
    Calls Try.prog 5 #[.string s, .int .u8 sep.toNat] w fun e w' => e = .returned (.bool true) ∧ Below w.heap.size w w' := by
  obtain ⟨i0, hi, hz0, hz1, hz2⟩ := info_parts info5
  obtain ⟨ps, hps⟩ : ∃ ps, spl sep s.data.toList 0 [] = ps := ⟨_, rfl⟩
  have HJ : Hid (jn sep ps = s.data.toList) := by show jn sep ps = _; rw [← hps, jn_spl]; rfl
  have HA : Hid (∀ p ∈ ps, spl sep p 0 [] = [p]) := by show ∀ p ∈ ps, _; rw [← hps]; exact part_alone sep _
  have HP := parts_any s sep w (by omega) ps hps
  clear hps
  go_enter Try.func5, Try.ntmps5
  go_wp2_with (first | (go_at_call 20; refine HP.mono ?_; rintro e w1 ⟨g, cap, rfl, hn1, hnc, hcm, hg, hcell, hbel⟩) | (at_make; refine wpList_mk0 rfl _ _ 22 rfl w1.heap.size 5 i0 _ 1 Try.underlying22 hi hz0 hz1 hz2 w1 (Below.refl _ _) (Nat.le_refl _) _ s.size rfl rfl rfl (by omega) (by unfold maxLen; omega) ?_; intro ao6 w2 hown) | go_in)
  go_loopw [6, 30] (fun v i wr => ∃ (k m : Nat) (ao : Option Addr) (c6 : Nat), k ≤ ps.length ∧ i = .int .i64 k ∧ v = .slice ao m c6 ∧ Own w1.heap.size 5 ao m c6 ((jn sep (ps.take k)).map fun b => Value.int .u8 b.toNat) w1 wr) (fun _ i _ => ps.length - (intOf i).toNat)
  case atStart => exact ⟨0, 0, _, _, Nat.zero_le _, rfl, rfl, hown⟩
  case round =>
    clear hown
    obtain ⟨k, m, ao, c6, hk, rfl, rfl, hown⟩ := hrel
    have hml : (jn sep (ps.take k)).length = m := by have := hown.len; rwa [List.length_map] at this
    have hle := take_len sep ps k
    have hsz : (jn sep ps).length = s.size := by rw [HJ.out]; simp
    have hms : m ≤ s.size := by omega
    by_cases hlt : k < ps.length
    · have hcx : wr.cell? ⟨g, k, none⟩ = some (.string ⟨(ps.getD k []).toArray⟩) := (hown.2.1.cell (p := ⟨g, k, none⟩) hg).trans (hcell k hlt)
      have hpl := part_len sep ps k hlt
      have hle2 := take_len sep ps (k + 1)
      have hgd : ps.getD k [] = ps[k] := by simp [hlt]
      obtain ⟨P, hP⟩ : ∃ P : ByteArray, P = ⟨(ps.getD k []).toArray⟩ := ⟨_, rfl⟩
      have hPs : P.size = ps[k].length := by rw [hP, hgd]; simp [ByteArray.size]
      have HPd : Hid (P.data.toList = ps[k]) := by show _ = _; rw [hP, hgd]
      rw [← hP] at hcx
      by_cases hk0 : k = 0
      · rw [if_pos hk0] at hpl
        have HL : Hid (jn sep (ps.take (k + 1)) = ps[k]) := hpl
        have HK : Hid (k = 0) := hk0
        have hk0' : k < 1 := by omega
        have hm0 : m = 0 := by rw [← hml, hk0]; rfl
        have hb : m + P.size ≤ s.size := by rw [hpl] at hle2; omega
        clear hpl hle hle2 hml hP hPs hsz hgd hcell hk0 hm0
        go_wp2_with (first | (at_builtin; refine wpList_app_str rfl (.tmp 41) (.tmp 42) 22 9 rfl _ 5 i0 Try.underlying22 Try.underlying9 hi hz0 hz1 hz2 _ _ _ _ rfl _ hown P rfl (by omega) ?_; intro ao' cap' w' hown'))
        go_roundw
        case rel =>
          have e := cells_first sep ps k hlt P HPd.out HK.out HL.out
          rw [← e] at hown'
          exact ⟨k + 1, _, _, _, by omega, by go_num, rfl, hown'⟩
        case measure => simp [intOf]; omega
      · rw [if_neg hk0] at hpl
        have HL : Hid (jn sep (ps.take (k + 1)) = jn sep (ps.take k) ++ [sep] ++ ps[k]) := hpl
        have hk0' : 0 < k := by omega
        have hb : m + 1 + P.size ≤ s.size := by rw [hpl] at hle2; simp only [List.length_append, List.length_singleton] at hle2; omega
        clear hpl hle hle2 hml hP hPs hsz hgd hcell hk0
        go_wp2_with (first | (at_builtin; refine wpList_app rfl (.tmp 37) (.tmp 39) 22 rfl _ 5 i0 _ 1 Try.underlying22 hi hz0 hz1 hz2 rfl _ _ _ _ rfl _ _ hown [.int .u8 sep.toNat] 1 rfl rfl (by intro u hu; simp at hu; subst hu; rfl) (by unfold maxLen; omega) (by omega) ?_; intro ao1 cap1 w2 hown1) | (at_builtin; refine wpList_app_str rfl (.tmp 41) (.tmp 42) 22 9 rfl _ 5 i0 Try.underlying22 Try.underlying9 hi hz0 hz1 hz2 _ _ _ _ rfl _ hown1 P rfl (by omega) ?_; intro ao' cap' w' hown'))
        go_roundw
        case rel =>
          have e := cells_next sep ps k hlt P HPd.out HL.out
          rw [← e] at hown'
          exact ⟨k + 1, _, _, _, by omega, by go_num, rfl, hown'⟩
        case measure => simp [intOf]; omega
    · have ek : ps.take k = ps := List.take_of_length_le (by omega)
      rw [ek, HJ.out] at hown
      have hconv := run_own_string (P := Try.prog) hown 22 9 Try.underlying22 Try.underlying5 Try.underlying9
      rw [ba_of] at hconv
      have hcell2 : ∀ wx : World, Below w1.heap.size w1 wx → ∀ j, j < ps.length → wx.cell? ⟨g, j, none⟩ = some (.string ⟨(ps.getD j []).toArray⟩) := fun wx hx j hj => (hx.cell (p := ⟨g, j, none⟩) hg).trans (hcell j hj)
      have hbr := hown.2.1
      have HC2 : Hid _ := hcell2
      clear hcell2 hcell hml hle hsz ek hown hms
      go_wp2_with fail
      obtain ⟨wo, hwo⟩ : ∃ wo : World, wo = wr := ⟨_, rfl⟩
      rw [← hwo]
      rw [← hwo] at hbr
      clear hwo hconv wr
      go_loopw [56] (fun i wr => ∃ (k : Nat), k ≤ ps.length ∧ i = .int .i64 k ∧ Below w1.heap.size w1 wr) (fun i _ => ps.length - (intOf i).toNat)
      case atStart => exact ⟨0, Nat.zero_le _, rfl, hbr⟩
      case round =>
        clear hbr
        obtain ⟨k, hk, rfl, hbr⟩ := hrel
        by_cases hlt : k < ps.length
        · have hcx := HC2.out wr hbr k hlt
          have hgd : ps.getD k [] = ps[k] := by simp [hlt]
          obtain ⟨P, hP⟩ : ∃ P : ByteArray, P = ⟨(ps.getD k []).toArray⟩ := ⟨_, rfl⟩
          have hPd : P.data.toList = ps[k] := by rw [hP, hgd]
          have hPs : P.size ≤ s.size := by
            have h1 := take_len sep ps (k + 1)
            rw [part_len sep ps k hlt, HJ.out] at h1
            have h2 : P.size = ps[k].length := by rw [← hPd]; simp
            have h3 : s.data.toList.length = s.size := by simp
            split at h1
            · omega
            · simp only [List.length_append] at h1; omega
          rw [← hP] at hcx
          have hq := part_any P sep wr (by omega) (by rw [hPd]; exact HA.out _ (List.getElem_mem _))
          clear hP hPd hgd
          go_wp2_with (go_at_call 20; refine hq.mono ?_; rintro e w3 ⟨g3, cap3, rfl, hc3, hb3⟩)
          go_roundw
          case rel => exact ⟨k + 1, by omega, by go_num, hbr.trans (hb3.mono hbr.size)⟩
          case measure => simp [intOf]; omega
        · go_wp2_with fail
          go_ret
          exact ⟨rfl, hbel.trans (hbr.mono hbel.size)⟩

set_option maxRecDepth 100000 in
theorem walk (a0 : ByteArray) (a1 : Int) (w0 : a0.size ≤ maxLen) (w1 : (Lit.int .u8 a1).wf = true) (w : World) :
    Calls Try.prog 5 #[.string a0, .int .u8 a1] w fun e w' => e = .returned (.bool true) ∧ Below w.heap.size w w' := by
  unfold maxLen at w0
  have hb := bounds_u8 w1
  obtain ⟨sep, hsep⟩ : ∃ sep : UInt8, a1 = (sep.toNat : Int) := ⟨UInt8.ofNat a1.toNat, by simp; omega⟩
  subst hsep
  by_cases h1 : a0.size ≤ 65536
  · exact walk0 a0 sep h1 w
  · by_cases h2 : a0.size ≤ 1048576
    all_goals
      go_enter Try.func5, Try.ntmps5
      go_wp2
      go_ret
      exact ⟨rfl, Below.refl _ _⟩

/-! ### THE ROW's STEP -/
set_option maxRecDepth 100000 in
theorem lifted (os : Os) (started : os.Started) (H : Type) (enc : TypeId × Value → H) :
    ReturnsInHanded {} Try.checked os 5 .any (Rows.fnSplitOutsideJoinsBackIntoWholePartsSpec.pre6 enc Try.prog Try.f5 Rows.fnSplitOutsideJoinsBackIntoWholePartsRow.domain false) (Rows.fnSplitOutsideJoinsBackIntoWholePartsSpec.post enc Try.prog Try.f5 false true false false) := by
  refine returnsInHanded_of_change (C := Try.checked) own started (by kernel_rfl) Try.func5
    (ChangeSpec.witness6 (enc := enc) (C := Try.checked) false ⟨#[], #[.string ByteArray.empty, .int .u8 0], []⟩ 8 (by kernel_rfl) (by kernel_rfl) (by kernel_rfl) (by kernel_rfl)) ?_
  intro W base args ds gs before hval0 hW hcnd _
  have hval : ∀ (j : Nat) t v, Try.f5.params[j]? = some t → args[j]? = some v → Value.okWide Try.prog W .any base t v := hval0
  have hW' := hW
  obtain ⟨p, q, hA0, hV, rfl, hfz, hnd⟩ := hW
  have hA : DataW.TrodAll enc Try.prog W 0 (fun _ => true) true Try.f5.params.toList args.toList ds p := hA0
  rw [Try.params5] at hA hval
  obtain ⟨v0, vs0, d0, ds0, p0, q0, hargs, rfl, rfl, h0, r0⟩ := trodAll_cons hA
  obtain ⟨v1, vs1, d1, ds1, p1, q1, rfl, rfl, rfl, h1, r1⟩ := trodAll_cons r0
  obtain ⟨rfl, rfl, rfl⟩ := trodAll_nil r1
  obtain rfl : args = #[v0, v1] := by cases args; simp_all
  obtain ⟨rfl, rfl⟩ := trodVars_none hV
  obtain ⟨a0, rfl, rfl, rfl, w0⟩ := open_string Try.underlying9 (hval 0 9 v0 rfl rfl) h0
  obtain ⟨a1, rfl, rfl, rfl, w1⟩ := open_int Try.underlying5 (hval 1 5 v1 rfl rfl) h1
  clear hA0 hval0
  refine (walk a0 a1 w0 w1 W).mono fun e W' ⟨he, bel⟩ => ?_
  subst he
  exact ⟨_, rfl, _, _, _, [], [] ++ ([] ++ []), [], hW', trodAll_mk1 (shut_bool Try.underlying4 _), (trodAll_cons_mk (shut_string Try.underlying9 w0) (trodAll_cons_mk (shut_int Try.underlying5 w1) trodAll_mk0)), rfl, bel.frame _, fun h => by cases h⟩

/-- The closed facts of a row, the three that read the head apart. -/
theorem closed5 : joinedFacts Try.prog 5 Try.f5 Rows.fnSplitOutsideJoinsBackIntoWholePartsSpec Rows.fnSplitOutsideJoinsBackIntoWholePartsRow = true := by
  unfold joinedFacts
  repeat' (with_reducible refine and_mk ?_ ?_)
  all_goals first | (with_reducible exact may_enter) | (rw [lifts_final]; as_aux_lemma => kernel_rfl) | (rw [make_cut]; as_aux_lemma => kernel_rfl) | as_aux_lemma => kernel_rfl

theorem over : Rows.fnSplitOutsideJoinsBackIntoWholePartsRow.holds Try.pinned (OpenSpec.ofChange Rows.fnSplitOutsideJoinsBackIntoWholePartsSpec) :=
  OpenClaim.holds_of_wide 5 Try.f5 rfl rfl rfl rfl rfl rfl rfl ⟨rfl, rfl, rfl, rfl, rfl⟩ rfl rfl rfl rfl rfl (by kernel_rfl) Try.func5 closed5
    (of_decide_eq_true (by kernel_rfl)) (by unfold Func.isWrapper; first | (rw [if_pos (by decide +kernel)]; kernel_rfl) | (rw [if_neg (by decide +kernel)]; exact ⟨rfl, rfl⟩))
    (fun os started H enc _ => lifted os started H enc)

/-- THE STATEMENT -/
theorem proved : Rows.FnSplitOutsideJoinsBackIntoWholePartsSaid :=
  over
#print axioms proved
end Go.Proofs.Qxb6002372a.fnSplitOutsideJoinsBackIntoWholeParts
