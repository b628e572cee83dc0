/-
  Which record stands for a key: the plain law. No Go in sight.
-/
namespace Go.Proofs.Qxb6002372a

section
variable {κ : Type} [DecidableEq κ] (key : Nat → κ) (T : Nat → Int)

/-- Of the first k records, the one that stands for the key x: what the map holds after k rounds. -/
def pick : Nat → κ → Option Nat
  | 0, _ => none
  | k + 1, x => if key k = x then (match pick k x with | some j => if T j = 63 then some j else some k | none => some k) else pick k x

variable {key T}

theorem pick_succ (k : Nat) (x : κ) : pick key T (k + 1) x = if key k = x then (match pick key T k x with | some j => if T j = 63 then some j else some k | none => some k) else pick key T k x := rfl

theorem pick_lt : ∀ {k : Nat} {x : κ} {j : Nat}, pick key T k x = some j → j < k ∧ key j = x
  | 0, x, j, h => by simp [pick] at h
  | k + 1, x, j, h => by
    unfold pick at h
    split at h
    · rename_i hk
      split at h
      · rename_i j' hj'
        have := pick_lt hj'
        split at h
        · cases h; exact ⟨by omega, this.2⟩
        · cases h; exact ⟨by omega, hk⟩
      · cases h; exact ⟨by omega, hk⟩
    · have := pick_lt h
      exact ⟨by omega, this.2⟩

theorem pick_none : ∀ {k : Nat} {x : κ}, pick key T k x = none ↔ ∀ i, i < k → key i ≠ x
  | 0, x => by simp [pick]
  | k + 1, x => by
    have ih := pick_none (k := k) (x := x)
    unfold pick
    by_cases hk : key k = x
    · rw [if_pos hk]
      constructor
      · intro h
        split at h
        · split at h <;> cases h
        · cases h
      · intro h; exact absurd hk (h k (by omega))
    · rw [if_neg hk, ih]
      constructor
      · intro h i hi
        by_cases e : i = k
        · subst e; exact hk
        · exact h i (by omega)
      · intro h i hi
        exact h i (by omega)

/-- The rule. -/
theorem pick_some : ∀ {k : Nat} {x : κ} {j : Nat}, pick key T k x = some j ↔
    j < k ∧ key j = x ∧ ((T j = 63 ∧ ∀ i, i < j → key i = x → T i ≠ 63) ∨ ((∀ i, i < k → key i = x → T i ≠ 63) ∧ ∀ i, j < i → i < k → key i ≠ x))
  | 0, x, j => by simp [pick]
  | k + 1, x, j => by
    have ih := fun j => pick_some (k := k) (x := x) (j := j)
    have hn := pick_none (key := key) (T := T) (k := k) (x := x)
    unfold pick
    by_cases hk : key k = x
    · rw [if_pos hk]
      cases hp : pick key T k x with
      | none =>
        have h0 := hn.1 hp
        simp only [Option.some.injEq]
        constructor
        · rintro rfl
          refine ⟨by omega, hk, ?_⟩
          by_cases ht : T k = 63
          · exact .inl ⟨ht, fun i hi he => absurd he (h0 i hi)⟩
          · refine .inr ⟨fun i hi he => ?_, fun i h1 h2 => by omega⟩
            by_cases e : i = k
            · subst e; exact ht
            · exact absurd he (h0 i (by omega))
        · rintro ⟨h1, h2, _⟩
          by_cases e : k = j
          · exact e
          · exact absurd h2 (h0 j (by omega))
      | some p =>
        obtain ⟨p1, p2, p3⟩ := (ih p).1 hp
        by_cases ht : T p = 63
        · simp only [ht, if_true, Option.some.injEq]
          have hfirst : ∀ i, i < p → key i = x → T i ≠ 63 := by
            rcases p3 with h | h
            · exact h.2
            · exact absurd ht (h.1 p p1 p2)
          constructor
          · rintro rfl
            exact ⟨by omega, p2, .inl ⟨ht, hfirst⟩⟩
          · rintro ⟨h1, h2, h3 | h3⟩
            · by_cases c1 : p < j
              · exact absurd ht (h3.2 p c1 p2)
              · by_cases c2 : j < p
                · exact absurd h3.1 (hfirst j c2 h2)
                · omega
            · exact absurd ht (h3.1 p (by omega) p2)
        · simp only [ht, if_false, Option.some.injEq]
          have hno : ∀ i, i < k → key i = x → T i ≠ 63 := by
            rcases p3 with h | h
            · exact absurd h.1 ht
            · exact h.1
          constructor
          · rintro rfl
            refine ⟨by omega, hk, ?_⟩
            by_cases hq : T k = 63
            · exact .inl ⟨hq, fun i hi he => hno i hi he⟩
            · refine .inr ⟨fun i hi he => ?_, fun i h1 h2 => by omega⟩
              by_cases e : i = k
              · subst e; exact hq
              · exact hno i (by omega) he
          · rintro ⟨h1, h2, h3 | h3⟩
            · by_cases c : j < k
              · exact absurd h3.1 (hno j c h2)
              · omega
            · by_cases c : j < k
              · exact absurd hk (h3.2 k c (by omega))
              · omega
    · rw [if_neg hk, ih j]
      constructor
      · rintro ⟨h1, h2, h3⟩
        refine ⟨by omega, h2, h3.elim (fun h => Or.inl h) fun h => Or.inr ⟨fun i hi he => ?_, fun i a b => ?_⟩⟩
        · by_cases e : i = k
          · subst e; exact absurd he hk
          · exact h.1 i (by omega) he
        · by_cases e : i = k
          · subst e; exact hk
          · exact h.2 i a (by omega)
      · rintro ⟨h1, h2, h3⟩
        have hjk : j < k := by
          by_cases e : j = k
          · subst e; exact absurd h2 hk
          · omega
        exact ⟨hjk, h2, h3.elim (fun h => Or.inl h) fun h => Or.inr ⟨fun i hi he => h.1 i (by omega) he, fun i a b => h.2 i a (by omega)⟩⟩

/-- Record j is the one that stands for its key. -/
def chosen (key : Nat → κ) (T : Nat → Int) (n j : Nat) : Bool := decide (pick key T n (key j) = some j)

/-- What the brute-force rule asks of record j of the first m: nobody gainsays it. -/
def clear (key : Nat → κ) (T : Nat → Int) (i m : Nat) : Prop :=
  ∀ j, j < m → j ≠ i → key i = key j → ¬ (T i = 63 ∧ j < i ∧ T j = 63) ∧ ¬ (T i ≠ 63 ∧ T j = 63) ∧ ¬ (T i ≠ 63 ∧ i < j)

theorem chosen_iff {n i : Nat} (hi : i < n) : chosen key T n i = true ↔ clear key T i n := by
  unfold chosen
  rw [decide_eq_true_iff, pick_some]
  constructor
  · rintro ⟨_, _, h⟩ j hj hne he
    rcases h with h | h
    · refine ⟨fun a => h.2 j a.2.1 he.symm a.2.2, fun a => a.1 h.1, fun a => a.1 h.1⟩
    · refine ⟨fun a => h.1 i hi rfl a.1, fun a => h.1 j hj he.symm a.2, fun a => h.2 j a.2 hj he.symm⟩
  · intro h
    refine ⟨hi, rfl, ?_⟩
    by_cases ht : T i = 63
    · exact .inl ⟨ht, fun j hj he hT => (h j (by omega) (by omega) he.symm).1 ⟨ht, hj, hT⟩⟩
    · refine .inr ⟨fun j hj he hT => ?_, fun j h1 h2 he => (h j h2 (by omega) he.symm).2.2 ⟨ht, h1⟩⟩
      by_cases e : j = i
      · subst e; exact ht hT
      · exact (h j hj e he.symm).2.1 ⟨ht, hT⟩

/-- The records that stand, in order. -/
def stands (key : Nat → κ) (T : Nat → Int) (n m : Nat) : List Nat := (List.range m).filter (chosen key T n)

theorem stands_succ (n m : Nat) : stands key T n (m + 1) = stands key T n m ++ (if chosen key T n m then [m] else []) := by
  unfold stands
  rw [List.range_succ, List.filter_append]
  congr 1
  by_cases h : chosen key T n m = true <;> simp [h]

theorem stands_prefix {n : Nat} : ∀ {m k : Nat}, m ≤ k → ∃ l, stands key T n k = stands key T n m ++ l
  | m, 0, h => ⟨[], by rw [show m = 0 by omega]; simp⟩
  | m, k + 1, h => by
    by_cases e : m = k + 1
    · exact ⟨[], by rw [e]; simp⟩
    · obtain ⟨l, hl⟩ := stands_prefix (n := n) (m := m) (k := k) (by omega)
      exact ⟨l ++ (if chosen key T n k then [k] else []), by rw [stands_succ, hl, List.append_assoc]⟩

/-- Where the next one that stands is found. -/
theorem stands_at {n i : Nat} (hi : i < n) (hc : chosen key T n i = true) : (stands key T n n)[(stands key T n i).length]? = some i := by
  obtain ⟨l, hl⟩ := stands_prefix (key := key) (T := T) (n := n) (m := i + 1) (k := n) (by omega)
  rw [hl, stands_succ, if_pos hc]
  simp

theorem stands_mem {n m j : Nat} : j ∈ stands key T n m ↔ j < m ∧ chosen key T n j = true := by simp [stands]

theorem stands_nodup (n m : Nat) : (stands key T n m).Nodup := List.Nodup.sublist List.filter_sublist List.nodup_range

theorem stands_sorted (n m : Nat) : (stands key T n m).Pairwise (fun a b => a < b) := List.Pairwise.sublist List.filter_sublist List.pairwise_lt_range

theorem stands_le (n m : Nat) : (stands key T n m).length ≤ m := by
  have := List.length_filter_le (chosen key T n) (List.range m)
  simpa [stands] using this

theorem stands_lt {n m j : Nat} (h : j ∈ stands key T n m) : j < m := (stands_mem.1 h).1

/-- However the indices were collected, sorted they are the records that stand. -/
theorem sorted_stands {n : Nat} {ss : List Nat} (hnd : ss.Nodup) (hm : ∀ j, j ∈ ss ↔ j < n ∧ chosen key T n j = true) :
    (ss.map fun (j : Nat) => (j : Int)).mergeSort (fun x y => decide (x ≤ y)) = (stands key T n n).map fun (j : Nat) => (j : Int) := by
  have hp : ss.Perm (stands key T n n) := (List.perm_ext_iff_of_nodup hnd (stands_nodup n n)).2 fun j => by rw [hm, stands_mem]
  have hp' := hp.map (fun (j : Nat) => (j : Int))
  have tr : ∀ a b c : Int, decide (a ≤ b) = true → decide (b ≤ c) = true → decide (a ≤ c) = true := fun a b c h1 h2 => by
    simp only [decide_eq_true_eq] at *; omega
  have to : ∀ a b : Int, (decide (a ≤ b) || decide (b ≤ a)) = true := fun a b => by
    simp only [Bool.or_eq_true, decide_eq_true_eq]; omega
  refine List.Perm.eq_of_pairwise (le := fun a b => decide (a ≤ b) = true) (fun a b _ _ h1 h2 => ?_) (List.pairwise_mergeSort tr to _) ?_ ((List.mergeSort_perm _ _).trans hp')
  · simp only [decide_eq_true_eq] at h1 h2; omega
  · rw [List.pairwise_map]
    have hs := List.pairwise_iff_getElem.1 (stands_sorted (key := key) (T := T) n n)
    refine List.pairwise_iff_getElem.2 fun i j hi hj hij => ?_
    have := hs i j hi hj hij
    simp only [decide_eq_true_eq]
    omega
end

end Go.Proofs.Qxb6002372a
