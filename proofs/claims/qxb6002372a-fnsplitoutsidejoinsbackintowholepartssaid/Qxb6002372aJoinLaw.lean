/-
  THE PLAIN LAW: the parts, joined again, give the text back; each part, split again, is itself alone. No Go in sight.
-/
import Derived.Test.Qxb6002372aSplit
namespace Go.Proofs.Qxb6002372a

def jn (sep : UInt8) : List (List UInt8) → List UInt8
  | [] => []
  | p :: r => match r with
    | [] => p
    | _ :: _ => p ++ [sep] ++ jn sep r

theorem jn_cons (sep : UInt8) (p : List UInt8) (r : List (List UInt8)) (h : r ≠ []) : jn sep (p :: r) = p ++ [sep] ++ jn sep r := by
  cases r with
  | nil => exact absurd rfl h
  | cons a b => rw [jn]

theorem jn_one (sep : UInt8) (p : List UInt8) : jn sep [p] = p := rfl

theorem jn_snoc (sep : UInt8) (p : List UInt8) : ∀ (xs : List (List UInt8)), xs ≠ [] → jn sep (xs ++ [p]) = jn sep xs ++ [sep] ++ p
  | [], h => absurd rfl h
  | [a], _ => by rw [List.singleton_append, jn_cons sep a [p] (by simp), jn_one, jn_one]
  | a :: b :: r, _ => by
    rw [List.cons_append, jn_cons sep a _ (by simp), jn_snoc sep p (b :: r) (by simp), jn_cons sep a (b :: r) (by simp)]
    simp

theorem jn_len (sep : UInt8) : ∀ (xs ys : List (List UInt8)), (jn sep xs).length ≤ (jn sep (xs ++ ys)).length
  | [], ys => by simp [jn]
  | [a], [] => by simp
  | [a], b :: r => by rw [List.singleton_append, jn_one, jn_cons sep a _ (by simp)]; simp
  | a :: b :: r, ys => by
    have := jn_len sep (b :: r) ys
    rw [List.cons_append, jn_cons sep a (b :: r) (by simp), jn_cons sep a _ (by simp)]
    simp only [List.length_append] at *
    omega

theorem spl_ne (sep : UInt8) : ∀ (l : List UInt8) (d : Nat) (cur : List UInt8), spl sep l d cur ≠ []
  | [], d, cur => by simp [spl]
  | c :: r, d, cur => by
    rw [spl]
    split
    · exact spl_ne sep r _ _
    · split
      · exact spl_ne sep r _ _
      · split
        · simp
        · exact spl_ne sep r _ _

theorem jn_spl (sep : UInt8) : ∀ (l : List UInt8) (d : Nat) (cur : List UInt8), jn sep (spl sep l d cur) = cur ++ l
  | [], d, cur => by simp [spl, jn]
  | c :: r, d, cur => by
    rw [spl]
    split
    · rw [jn_spl sep r]; simp
    · split
      · rw [jn_spl sep r]; simp
      · split
        · rename_i h
          rw [jn_cons sep cur _ (spl_ne sep r _ _), jn_spl sep r, UInt8.toNat_inj.1 h.1]; simp
        · rw [jn_spl sep r]; simp

/-- The depth behind l, where no cut stands in it. -/
def qt (sep : UInt8) : List UInt8 → Nat → Option Nat
  | [], d => some d
  | c :: r, d =>
    if c.toNat = 40 then qt sep r (d + 1)
    else if c.toNat = 41 ∧ 0 < d then qt sep r (d - 1)
    else if c.toNat = sep.toNat ∧ d = 0 then none
    else qt sep r d

theorem qt_snoc (sep : UInt8) (c : UInt8) : ∀ (l : List UInt8) (d : Nat), qt sep (l ++ [c]) d = (qt sep l d).bind (qt sep [c])
  | [], d => by simp [qt]
  | b :: r, d => by
    rw [List.cons_append, qt, qt]
    split
    · exact qt_snoc sep c r _
    · split
      · exact qt_snoc sep c r _
      · split
        · rfl
        · exact qt_snoc sep c r _

theorem qt_spl (sep : UInt8) : ∀ (l : List UInt8) (d : Nat) (cur : List UInt8), qt sep cur 0 = some d → ∀ p ∈ spl sep l d cur, ∃ e, qt sep p 0 = some e
  | [], d, cur, h, p, hp => by
    simp [spl] at hp
    subst hp
    exact ⟨d, h⟩
  | c :: r, d, cur, h, p, hp => by
    rw [spl] at hp
    split at hp
    · rename_i h1
      exact qt_spl sep r (d + 1) _ (by rw [qt_snoc, h]; simp [qt, h1]) p hp
    · rename_i h1
      split at hp
      · rename_i h2
        exact qt_spl sep r (d - 1) _ (by rw [qt_snoc, h, Option.bind_some, qt, if_neg h1, if_pos h2, qt]) p hp
      · rename_i h2
        split at hp
        · rename_i h3
          rcases List.mem_cons.1 hp with rfl | hp
          · exact ⟨d, h⟩
          · exact qt_spl sep r 0 [] rfl p hp
        · rename_i h3
          exact qt_spl sep r d _ (by rw [qt_snoc, h, Option.bind_some, qt, if_neg h1, if_neg h2, if_neg h3, qt]) p hp

theorem spl_qt (sep : UInt8) : ∀ (l : List UInt8) (d e : Nat) (cur : List UInt8), qt sep l d = some e → spl sep l d cur = [cur ++ l]
  | [], d, e, cur, _ => by simp [spl]
  | c :: r, d, e, cur, h => by
    rw [qt] at h
    rw [spl]
    split at h
    · rename_i h1
      rw [if_pos h1, spl_qt sep r _ e _ h]; simp
    · rename_i h1
      rw [if_neg h1]
      split at h
      · rename_i h2
        rw [if_pos h2, spl_qt sep r _ e _ h]; simp
      · rename_i h2
        rw [if_neg h2]
        split at h
        · cases h
        · rename_i h3
          rw [if_neg h3, spl_qt sep r _ e _ h]; simp

theorem part_alone (sep : UInt8) (l p : List UInt8) (hp : p ∈ spl sep l 0 []) : spl sep p 0 [] = [p] := by
  obtain ⟨e, he⟩ := qt_spl sep l 0 [] rfl p hp
  rw [spl_qt sep p 0 e [] he]
  rfl

theorem part_len (sep : UInt8) (ps : List (List UInt8)) (k : Nat) (hk : k < ps.length) :
    (jn sep (ps.take (k + 1))) = (if k = 0 then ps[k] else jn sep (ps.take k) ++ [sep] ++ ps[k]) := by
  rw [List.take_succ_eq_append_getElem hk]
  split
  · rename_i h; subst h; simp [jn]
  · rename_i h
    rw [jn_snoc sep _ _ (by simp; refine ⟨h, ?_⟩; intro e; rw [e] at hk; simp at hk)]

theorem take_len (sep : UInt8) (ps : List (List UInt8)) (k : Nat) : (jn sep (ps.take k)).length ≤ (jn sep ps).length := by
  have := jn_len sep (ps.take k) (ps.drop k)
  rwa [List.take_append_drop] at this
end Go.Proofs.Qxb6002372a
