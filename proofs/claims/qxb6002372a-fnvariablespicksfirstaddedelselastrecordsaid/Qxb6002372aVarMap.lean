/-
  The map from keys to records, as it is filled and as it is ranged over: the proof's own words.
-/
import Derived.Test.Qxb6002372aVarPick
import Derived.Maps.OwnSet
import Derived.Maps.RangeWalk
namespace Go.Proofs.Qxb6002372a

section
variable {κ : Type} [DecidableEq κ] (n : Nat) (KL : Nat → Lit) (key : Nat → κ) (T : Nat → Int)

/-- The keys' literals tell the keys apart. -/
structure KeysFit : Prop where
  same : ∀ i j, i < n → j < n → (KL i = KL j ↔ key i = key j)
  str : ∀ i, i < n → ∃ l, KL i = .string l

/-- What the map reads as after k rounds. -/
def MapIs (k : Nat) (D : DataW Unit) : Prop :=
  (∀ i, i < n → Maps.has D (KL i) = (pick key T k (key i)).isSome ∧ D.atKey (KL i) (.lit (.int .i64 0)) = .lit (.int .i64 (((pick key T k (key i)).getD 0 : Nat) : Int))) ∧
  ∀ kl, Maps.has D kl = true → ∃ i, i < n ∧ kl = KL i

variable {n KL key T}

theorem MapIs.start : MapIs n KL key T 0 (.map []) := by
  refine ⟨fun i _ => ⟨rfl, ?_⟩, fun kl h => ?_⟩
  · rw [Maps.atKey_of_not_has (by rfl)]
    simp [pick]
  · simp [Maps.has] at h

theorem MapIs.put (F : KeysFit n KL key) {k : Nat} {D : DataW Unit} (h : MapIs n KL key T k D) (hk : k < n) (hD : Maps.IsMap D) (hp : ∀ j, pick key T k (key k) = some j → T j ≠ 63) :
    MapIs n KL key T (k + 1) (D.put (KL k) (.lit (.int .i64 k))) := by
  have hkl : WideAt.IsKeyLit (KL k) := by obtain ⟨l, hl⟩ := F.str k hk; rw [hl]; trivial
  refine ⟨fun i hi => ?_, fun kl hkl' => ?_⟩
  · by_cases e : key k = key i
    · have e' : KL i = KL k := ((F.same k i hk hi).2 e).symm
      have hpk : pick key T (k + 1) (key i) = some k := by
        unfold pick
        rw [if_pos e, ← e]
        cases hq : pick key T k (key k) with
        | none => rfl
        | some j => simp [hp j hq]
      rw [e', hpk]
      exact ⟨Maps.has_put_same hD hkl _, Maps.atKey_put_same hD hkl _ _⟩
    · have e' : KL i ≠ KL k := fun c => e ((F.same k i hk hi).1 c.symm)
      have hpk : pick key T (k + 1) (key i) = pick key T k (key i) := by
        rw [pick_succ, if_neg e]
      rw [hpk, Maps.has_put_other e', Maps.atKey_put_other e']
      exact h.1 i hi
  · by_cases e : kl = KL k
    · exact ⟨k, hk, e⟩
    · rw [Maps.has_put_other e] at hkl'
      exact h.2 kl hkl'

theorem MapIs.keep {k j : Nat} {D : DataW Unit} (h : MapIs n KL key T k D) (hp : pick key T k (key k) = some j) (hT : T j = 63) : MapIs n KL key T (k + 1) D := by
  refine ⟨fun i hi => ?_, h.2⟩
  have hpk : pick key T (k + 1) (key i) = pick key T k (key i) := by
    by_cases e : key k = key i
    · rw [pick_succ, if_pos e, ← e, hp]
      simp [hT]
    · rw [pick_succ, if_neg e]
  rw [hpk]
  exact h.1 i hi

variable (n KL key T)
/-- What has been collected while the map is ranged over: 'left' says which keys are still to come. -/
def Coll (left : Lit → Bool) (ss : List Nat) : Prop := ss.Nodup ∧ ∀ j, j ∈ ss ↔ j < n ∧ chosen key T n j = true ∧ left (KL j) = false
variable {n KL key T}

theorem Coll.start {D : DataW Unit} (h : MapIs n KL key T n D) : Coll n KL key T (Maps.has D) [] := by
  refine ⟨List.nodup_nil, fun j => ?_⟩
  constructor
  · intro h; cases h
  · rintro ⟨h1, h2, h3⟩
    rw [(h.1 j h1).1, of_decide_eq_true h2] at h3
    cases h3

theorem Coll.step (F : KeysFit n KL key) {D : DataW Unit} (h : MapIs n KL key T n D) {left : Lit → Bool} {ss : List Nat} (hc : Coll n KL key T left ss) {kl : Lit} (hlk : left kl = true) {c : Int} (hat : ∀ zd, D.atKey kl zd = .lit (.int .i64 c)) :
    ∃ j : Nat, c = (j : Int) ∧ j < n ∧ Coll n KL key T (fun z => left z && !z.sameKey kl) (ss ++ [j]) := by
  have hhas : Maps.has D kl = true := Maps.has_true_of_atKey hat
  obtain ⟨i, hi, rfl⟩ := h.2 kl hhas
  obtain ⟨e1, e2⟩ := h.1 i hi
  rw [hhas] at e1
  obtain ⟨j, hj⟩ := Option.isSome_iff_exists.1 e1.symm
  obtain ⟨hjn, hjk⟩ := pick_lt hj
  rw [hat, hj] at e2
  have hcj : c = (j : Int) := by simpa using e2
  have hKj : KL j = KL i := (F.same j i hjn hi).2 hjk
  have hch : chosen key T n j = true := by unfold chosen; rw [hjk, hj]; simp
  have same : ∀ m, m < n → ((KL m).sameKey (KL i) = true ↔ KL m = KL i) := fun m hm => by
    obtain ⟨a, ha⟩ := F.str m hm
    obtain ⟨b, hb⟩ := F.str i hi
    rw [ha, hb]
    simp [Lit.sameKey]
  refine ⟨j, hcj, hjn, ?_, fun m => ?_⟩
  · refine List.nodup_append.2 ⟨hc.1, by simp, fun a ha b hb => ?_⟩
    simp only [List.mem_singleton] at hb
    subst hb
    rintro rfl
    have := ((hc.2 a).1 ha).2.2
    rw [hKj, hlk] at this
    cases this
  · rw [List.mem_append, List.mem_singleton, hc.2 m]
    constructor
    · rintro (⟨h1, h2, h3⟩ | rfl)
      · exact ⟨h1, h2, by simp [h3]⟩
      · exact ⟨hjn, hch, by simp [(same m hjn).2 hKj]⟩
    · rintro ⟨h1, h2, h3⟩
      cases hl : left (KL m) with
      | false => exact .inl ⟨h1, h2, rfl⟩
      | true =>
        right
        have hs : (KL m).sameKey (KL i) = true := by simpa [hl] using h3
        have hk : key m = key i := (F.same m i h1 hi).1 ((same m h1).1 hs)
        have := of_decide_eq_true h2
        rw [hk, hj] at this
        exact (Option.some.inj this).symm

theorem Coll.fin {left : Lit → Bool} {ss : List Nat} (hc : Coll n KL key T left ss) (hl : ∀ kl, left kl = false) :
    (ss.map fun (j : Nat) => (j : Int)).mergeSort (fun x y => decide (x ≤ y)) = (stands key T n n).map fun (j : Nat) => (j : Int) :=
  sorted_stands hc.1 fun j => by rw [hc.2 j, hl]; simp

theorem Coll.len {left : Lit → Bool} {ss : List Nat} (hc : Coll n KL key T left ss) (hl : ∀ kl, left kl = false) : ss.length = (stands key T n n).length := by
  have := congrArg List.length (hc.fin hl)
  simpa using this
end

end Go.Proofs.Qxb6002372a
