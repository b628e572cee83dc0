import Derived.Test.Qxb6002372aVarAll
import Derived.Test.Qxb6002372aFacts
import Derived.WalkKit
import Derived.ProofKit
import Derived.OpenShut
import Derived.ShutString
import Derived.ChangeOld
import Derived.Below
import Derived.Deep.Strs
import Derived.Deep.Slices
namespace Go.Proofs.Qxb6002372a.fnVariablesPicksFirstAddedElseLastRecord
open Go.ChangeShapes Go.WideShapes Go.ChangeAt Go.RowKit
set_option linter.unusedVariables false

theorem own : ownKnob Try.prog.godebug = none := by kernel_rfl
theorem laidOut : laidOutB Try.prog = true := by kernel_rfl

section
variable {H : Type} {enc : TypeId × Value → H} {W : World} {a : Option Addr} {len cap : Nat} {d : DataW H} {p : List MemPlace}

theorem strs_in (h : DataW.Trod enc Try.prog W 0 (fun _ => true) true 32 (.slice a len cap) d p) : ∃ S, StrsAt W a len S ∧ len ≤ maxLen := by
  obtain ⟨fuel, hf⟩ := h
  rcases Deep.open_strs Try.underlying32 Try.underlying9 cells9 hf with ⟨hcs, _⟩ | ⟨x, l, c, m, Sx, hcs, _, hl, hm, hmm, _, hx⟩
  · simp [Value.cells] at hcs
    obtain ⟨rfl, rfl, rfl⟩ := hcs
    exact ⟨fun _ => ByteArray.empty, fun i hi => by omega, Nat.zero_le _⟩
  · simp [Value.cells] at hcs
    obtain ⟨rfl, rfl, rfl⟩ := hcs
    have hmm' : m = cap := by simpa using hmm
    exact ⟨Sx, fun i hi => ⟨x, rfl, hx i (by omega)⟩, Nat.le_trans hl hm⟩

theorem bytes_in (h : DataW.Trod enc Try.prog W 0 (fun _ => true) true 22 (.slice a len cap) d p) : ∃ T, BytesAt W a len T ∧ len ≤ maxLen := by
  obtain ⟨fuel, hf⟩ := h
  rcases open_ints Try.underlying22 Try.underlying5 cells5 hf with ⟨hcs, _⟩ | ⟨x, l, c, zs, hcs, _, hl, hm, hz, _, hcell, hwz⟩
  · simp [Value.cells] at hcs
    obtain ⟨rfl, rfl, rfl⟩ := hcs
    exact ⟨fun _ => 0, fun i hi => by omega, Nat.zero_le _⟩
  · simp [Value.cells] at hcs
    obtain ⟨rfl, rfl, rfl⟩ := hcs
    have hz' : zs.length = cap := by simpa using hz
    exact ⟨fun i => zs.getD i 0, fun i hi => ⟨x, rfl, hcell i (by omega)⟩, Nat.le_trans hl hm⟩

theorem cells53 : Try.prog.cellsOf 53 = 16 := by kernel_rfl

/-- Sixteen cells that read as an array of bytes. -/
theorem guid_of {n : Nat} {cs : List Value} {x : DataW H × List MemPlace} (h : DataW.trod enc Try.prog W 0 (fun _ => true) true n 53 cs = some x) : ∃ g : List Int, cs = gcells g ∧ G16 (gcells g) := by
  obtain ⟨xs, m, _, _, hl, hxs, hall⟩ := DataW.trod_array Try.underlying53 h
  rw [cells53] at hl
  have each : ∀ i (hi : i < cs.length), ∃ z : Int, cs[i] = .int .u8 z ∧ (Lit.int .u8 z).wf = true := fun i hi => by
    have h1 := hall i (by omega)
    rw [cells5, Nat.mul_one, List.getElem?_eq_getElem (by omega)] at h1
    have e : (cs.drop i).take 1 = [cs[i]] := by rw [List.drop_eq_getElem_cons hi]; rfl
    rw [e] at h1
    obtain ⟨z, hz, _, hw⟩ := DataW.trod_int Try.underlying5 h1
    exact ⟨z, by simpa using hz, hw⟩
  have hmem : ∀ v ∈ cs, ∃ z : Int, v = .int .u8 z ∧ (Lit.int .u8 z).wf = true := fun v hv => by
    obtain ⟨i, hi, rfl⟩ := List.getElem_of_mem hv
    exact each i hi
  have key : ∀ l : List Value, (∀ v ∈ l, ∃ z : Int, v = .int .u8 z ∧ (Lit.int .u8 z).wf = true) → ∃ g : List Int, l = gcells g := by
    intro l
    induction l with
    | nil => exact fun _ => ⟨[], rfl⟩
    | cons v r ih =>
      intro hv
      obtain ⟨z, rfl, _⟩ := hv v (by simp)
      obtain ⟨g, rfl⟩ := ih (fun u hu => hv u (by simp [hu]))
      exact ⟨z :: g, rfl⟩
  obtain ⟨g, rfl⟩ := key cs hmem
  exact ⟨g, rfl, hl, hmem⟩

theorem guids_in (h : DataW.Trod enc Try.prog W 0 (fun _ => true) true 41 (.slice a len cap) d p) : ∃ G, GuidsAt W a len G ∧ (∀ i, i < len → G16 (gcells (G i))) ∧ len ≤ maxLen := by
  obtain ⟨fuel, hf⟩ := h
  rcases Deep.open_slice Try.underlying41 hf with ⟨hcs, _⟩ | ⟨x, l, c, m, n, D, Pl, hcs, _, hl, hm, hmm, _, hx⟩
  · simp [Value.cells] at hcs
    obtain ⟨rfl, rfl, rfl⟩ := hcs
    exact ⟨fun _ => [], fun i hi => by omega, fun i hi => by omega, Nat.zero_le _⟩
  · simp [Value.cells] at hcs
    obtain ⟨rfl, rfl, rfl⟩ := hcs
    have hmm' : m = cap := by simpa using hmm
    rw [cells53] at hx
    obtain ⟨G, hG⟩ := Deep.choose_lt (α := List Int) (n := len) (p := fun i g => G16 (gcells g) ∧ ∀ j v, (gcells g)[j]? = some v → W.cell? ((x.add (i * 16)).add j) = some v) (fun i hi => by
      obtain ⟨cs', h1, h2⟩ := hx i (by omega)
      obtain ⟨g, rfl, hg⟩ := guid_of h2
      obtain ⟨_, _, h3⟩ := World.cells?_some h1
      refine ⟨g, hg, fun j v hv => ?_⟩
      have hj : j < 16 := by rw [← hg.1]; exact (List.getElem?_eq_some_iff.1 hv).1
      rw [h3 j hj, hv])
    exact ⟨G, fun i hi => ⟨x, rfl, (hG i hi).2⟩, fun i hi => (hG i hi).1, Nat.le_trans hl hm⟩
end

/-! ### THE ROW's STEP -/
set_option maxRecDepth 100000 in
theorem lifted (os : Os) (started : os.Started) (H : Type) (enc : TypeId × Value → H) :
    ReturnsInHanded {} Try.checked os 10 .any (Rows.fnVariablesPicksFirstAddedElseLastRecordSpec.pre6 enc Try.prog Try.f10 Rows.fnVariablesPicksFirstAddedElseLastRecordRow.domain false) (Rows.fnVariablesPicksFirstAddedElseLastRecordSpec.post enc Try.prog Try.f10 false true false false) := by
  refine returnsInHanded_of_change (C := Try.checked) own started (by kernel_rfl) Try.func10
    (ChangeSpec.witness6 (enc := enc) (C := Try.checked) false ⟨#[], #[.slice none 0 0, .slice none 0 0, .slice none 0 0], []⟩ 8 (by kernel_rfl) (by kernel_rfl) (by kernel_rfl) (by kernel_rfl)) ?_
  intro W base args ds gs before hval0 hW hcnd _
  have hval : ∀ (j : Nat) t v, Try.f10.params[j]? = some t → args[j]? = some v → Value.okWide Try.prog W .any base t v := hval0
  have hW' := hW
  obtain ⟨p, q, hA0, hV, rfl, hfz, hnd⟩ := hW
  have hA : DataW.TrodAll enc Try.prog W 0 (fun _ => true) true Try.f10.params.toList args.toList ds p := hA0
  rw [Try.params10] at hA hval
  obtain ⟨v0, vs0, d0, ds0, p0, q0, hargs, rfl, rfl, h0, r0⟩ := trodAll_cons hA
  obtain ⟨v1, vs1, d1, ds1, p1, q1, rfl, rfl, rfl, h1, r1⟩ := trodAll_cons r0
  obtain ⟨v2, vs2, d2, ds2, p2, q2, rfl, rfl, rfl, h2, r2⟩ := trodAll_cons r1
  obtain ⟨rfl, rfl, rfl⟩ := trodAll_nil r2
  obtain rfl : args = #[v0, v1, v2] := by cases args; simp_all
  obtain ⟨rfl, rfl⟩ := trodVars_none hV
  obtain ⟨a0, len0, cap0, rfl⟩ := okWide_slice Try.underlying32 (hval 0 32 v0 rfl rfl)
  obtain ⟨a1, len1, cap1, rfl⟩ := okWide_slice Try.underlying41 (hval 1 41 v1 rfl rfl)
  obtain ⟨a2, len2, cap2, rfl⟩ := okWide_slice Try.underlying22 (hval 2 22 v2 rfl rfl)
  have lt0 : ∀ x ∈ p0, x.block < W.heap.size := by obtain ⟨m, hm⟩ := h0; exact DataW.trod_lt m _ _ _ hm
  have lt1 : ∀ x ∈ p1, x.block < W.heap.size := by obtain ⟨m, hm⟩ := h1; exact DataW.trod_lt m _ _ _ hm
  have lt2 : ∀ x ∈ p2, x.block < W.heap.size := by obtain ⟨m, hm⟩ := h2; exact DataW.trod_lt m _ _ _ hm
  obtain ⟨S, s0, b0⟩ := strs_in h0
  obtain ⟨G, s1, hG, b1⟩ := guids_in h1
  obtain ⟨T, s2, b2⟩ := bytes_in h2
  clear hA0 hval0
  refine (law_any W S G T a0 len0 cap0 s0 b0 a1 len1 cap1 s1 b1 hG a2 len2 cap2 s2 b2).mono fun e W' ⟨he, bel⟩ => ?_
  subst he
  exact ⟨_, rfl, _, _, _, [], _, [], hW', trodAll_mk1 (shut_bool Try.underlying4 _),
    (trodAll_cons_mk (Below.trod laidOut (by kernel_rfl) (of_decide_eq_true (by kernel_rfl)) h0 bel lt0) (trodAll_cons_mk (Below.trod laidOut (by kernel_rfl) (of_decide_eq_true (by kernel_rfl)) h1 bel lt1)
      (trodAll_cons_mk (Below.trod laidOut (by kernel_rfl) (of_decide_eq_true (by kernel_rfl)) h2 bel lt2) trodAll_mk0))), rfl, bel.frame _, fun h => by cases h⟩

theorem closed10 : joinedFacts Try.prog 10 Try.f10 Rows.fnVariablesPicksFirstAddedElseLastRecordSpec Rows.fnVariablesPicksFirstAddedElseLastRecordRow = true := by
  unfold joinedFacts
  repeat' (with_reducible refine and_mk ?_ ?_)
  all_goals first | (with_reducible exact may_enter) | (rw [lifts_final]; as_aux_lemma => kernel_rfl) | (rw [make_cut]; as_aux_lemma => kernel_rfl) | as_aux_lemma => kernel_rfl

theorem over : Rows.fnVariablesPicksFirstAddedElseLastRecordRow.holds Try.pinned (OpenSpec.ofChange Rows.fnVariablesPicksFirstAddedElseLastRecordSpec) :=
  OpenClaim.holds_of_wide 10 Try.f10 rfl rfl rfl rfl rfl rfl rfl ⟨rfl, rfl, rfl, rfl, rfl⟩ rfl rfl rfl rfl rfl (by kernel_rfl) Try.func10 closed10
    (of_decide_eq_true (by kernel_rfl)) (by unfold Func.isWrapper; first | (rw [if_pos (by decide +kernel)]; kernel_rfl) | (rw [if_neg (by decide +kernel)]; exact ⟨rfl, rfl⟩))
    (fun os started H enc _ => lifted os started H enc)

/-- THE STATEMENT -/
theorem proved : Rows.FnVariablesPicksFirstAddedElseLastRecordSaid := over
#print axioms proved
end Go.Proofs.Qxb6002372a.fnVariablesPicksFirstAddedElseLastRecord
