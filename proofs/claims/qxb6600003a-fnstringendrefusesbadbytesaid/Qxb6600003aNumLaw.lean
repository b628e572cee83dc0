/-
  THE PLAIN LAWS on numbers: what 'numE' answers on texts built by the grammar. No Go in sight.
-/
import Derived.Test.Qxb6600003aNum
namespace Go.Proofs.Qxb6600003a

section
variable {D : List UInt8} {i : Nat}

theorem suf_lt {c : UInt8} {t : List UInt8} (h : D.drop i = c :: t) : i < D.length := by
  rcases Nat.lt_or_ge i D.length with h1 | h1
  · exact h1
  · rw [List.drop_of_length_le h1] at h; cases h

theorem suf_ch {c : UInt8} {t : List UInt8} (h : D.drop i = c :: t) : ch D i = c.toNat := by
  have hl := suf_lt h
  rw [List.drop_eq_getElem_cons hl] at h
  rw [ch_lt D i hl, (List.cons.inj h).1]

theorem suf_next {c : UInt8} {t : List UInt8} (h : D.drop i = c :: t) : D.drop (i + 1) = t := by
  have hl := suf_lt h
  rw [List.drop_eq_getElem_cons hl] at h
  exact (List.cons.inj h).2

theorem suf_app {a b : List UInt8} (h : D.drop i = a ++ b) : D.drop (i + a.length) = b := by
  rw [← List.drop_drop, h, List.drop_left]

theorem suf_nil (h : D.drop i = []) : ch D i = 256 := ch_ge D i (by simpa using h)
end

def isD (c : UInt8) : Prop := 48 ≤ c.toNat ∧ c.toNat ≤ 57

/-- What follows opens with no digit. -/
def nd (t : List UInt8) : Prop := ∀ c r, t = c :: r → ¬ isD c

theorem suf_nd {D : List UInt8} {i : Nat} {t : List UInt8} (h : D.drop i = t) (hn : nd t) : ¬ (48 ≤ ch D i ∧ ch D i ≤ 57) := by
  cases t with
  | nil => rw [suf_nil h]; omega
  | cons c r => rw [suf_ch h]; exact hn c r rfl

theorem suf_dig {D : List UInt8} : ∀ {ds rest : List UInt8} {i : Nat}, D.drop i = ds ++ rest → (∀ c ∈ ds, isD c) → nd rest → digE D i = i + ds.length
  | [], rest, i, h, _, hn => digE_stop D i (suf_nd h hn)
  | c :: ds, rest, i, h, hd, hn => by
    have hc : D.drop i = c :: (ds ++ rest) := h
    rw [digE_step D i (by rw [suf_ch hc]; exact hd c (by simp)), suf_dig (suf_next hc) (fun x hx => hd x (by simp [hx])) hn]
    simp only [List.length_cons]
    omega

def dgt (c : UInt8) : UInt8 := UInt8.ofNat (48 + c.toNat % 10)
theorem dgt_nat (c : UInt8) : (dgt c).toNat = 48 + c.toNat % 10 := by unfold dgt; simp; omega
theorem dgt_isD (c : UInt8) : isD (dgt c) := by unfold isD; rw [dgt_nat]; omega
def dg1 (c : UInt8) : UInt8 := UInt8.ofNat (49 + c.toNat % 9)
theorem dg1_nat (c : UInt8) : (dg1 c).toNat = 49 + c.toNat % 9 := by unfold dg1; simp; omega

def ipb : List UInt8 → List UInt8
  | [] => [48]
  | c :: r => dg1 c :: r.map dgt

/-- The bytes of zzIntPart. -/
def ip (neg : Bool) (l : List UInt8) : List UInt8 := (if neg then [45] else []) ++ ipb l

theorem int_law {D : List UInt8} {i : Nat} {l rest : List UInt8} (h : D.drop i = ipb l ++ rest) (hn : nd rest) :
    intE D i = fracE D (i + (ipb l).length) := by
  cases l with
  | nil =>
    have hc : D.drop i = 48 :: rest := h
    rw [intE, suf_ch hc, if_pos (by decide)]
    rfl
  | cons c r =>
    have hc : D.drop i = dg1 c :: (r.map dgt ++ rest) := h
    have hx := dg1_nat c
    rw [intE, suf_ch hc, if_neg (by omega), if_pos (by omega)]
    rw [suf_dig (ds := dg1 c :: r.map dgt) h (by
      intro x hx'
      rcases List.mem_cons.1 hx' with rfl | hx'
      · unfold isD; omega
      · obtain ⟨y, _, rfl⟩ := List.mem_map.1 hx'
        exact dgt_isD y) hn]
    rfl

theorem num_law {D : List UInt8} {i : Nat} {neg : Bool} {l rest : List UInt8} (h : D.drop i = ip neg l ++ rest) (hn : nd rest) : numE D i = fracE D (i + (ip neg l).length) := by
  cases neg with
  | true =>
    have hc : D.drop i = 45 :: (ipb l ++ rest) := h
    rw [numE, suf_ch hc, if_pos (by decide), int_law (suf_next hc) hn]
    congr 1
    simp only [ip, if_true, List.length_append, List.length_singleton]
    omega
  | false =>
    have hc : D.drop i = ipb l ++ rest := h
    have hne : ch D i ≠ 45 := by
      cases l with
      | nil =>
        have hc' : D.drop i = 48 :: rest := h
        rw [suf_ch hc']; decide
      | cons c r =>
        have hc' : D.drop i = dg1 c :: (r.map dgt ++ rest) := h
        rw [suf_ch hc', dg1_nat]; omega
    rw [numE, if_neg hne, int_law hc hn]
    rfl

theorem ip_pos (neg : Bool) (l : List UInt8) : (ip neg l).length ≤ l.length + 2 := by
  unfold ip
  cases neg <;> cases l <;> simp [ipb]

/-! ### A part that no digit follows -/

/-- What stands for the part p of FnNumberEndRefusesEmptyPart behind the integer, and where the refusal points. -/
def sfx (p : Nat) : List UInt8 := match p with
  | 0 => [46] | 1 => [101] | 2 => [69] | 3 => [101, 43] | 4 => [101, 45] | 5 => [69, 43] | _ => [69, 45]
def off (p : Nat) : Nat := match p with
  | 0 => 0 | 1 => 1 | 2 => 1 | _ => 2

theorem refuse7 {D : List UInt8} {i : Nat} {c : UInt8} {t : List UInt8} (h : D.drop i = 45 :: c :: t) (hc : ¬ isD c) : numE D i = (i + 1, false) := by
  have h2 := suf_ch (suf_next h)
  unfold isD at hc
  rw [numE, suf_ch h, if_pos (by decide), intE, h2, if_neg (by omega), if_neg (by omega)]

theorem sg_no {D : List UInt8} {i : Nat} {c : UInt8} {t : List UInt8} (h : D.drop i = c :: t) (hc : ¬ isD c) : sgE D i = (i, false) := by
  rw [sgE, digE_stop D i (by rw [suf_ch h]; exact hc), if_pos rfl]

theorem refuse {D : List UInt8} {i p : Nat} {neg : Bool} {l : List UInt8} {c : UInt8} {t : List UInt8} (hp : p < 7) (h : D.drop i = ip neg l ++ (sfx p ++ (c :: t))) (hc : ¬ isD c) (h43 : c.toNat ≠ 43) (h45 : c.toNat ≠ 45) :
    numE D i = (i + (ip neg l).length + off p, false) := by
  have hnd : nd (sfx p ++ (c :: t)) := by
    intro x r hx
    have : x = 46 ∨ x = 101 ∨ x = 69 := by
      match p, hp with
      | 0, _ => exact .inl (List.cons.inj hx).1.symm
      | 1, _ => exact .inr (.inl (List.cons.inj hx).1.symm)
      | 2, _ => exact .inr (.inr (List.cons.inj hx).1.symm)
      | 3, _ => exact .inr (.inl (List.cons.inj hx).1.symm)
      | 4, _ => exact .inr (.inl (List.cons.inj hx).1.symm)
      | 5, _ => exact .inr (.inr (List.cons.inj hx).1.symm)
      | 6, _ => exact .inr (.inr (List.cons.inj hx).1.symm)
    unfold isD
    rcases this with rfl | rfl | rfl <;> decide
  rw [num_law h hnd]
  have hs := suf_app h
  generalize i + (ip neg l).length = j at hs ⊢
  match p, hp, hs with
  | 0, _, hs =>
    have h0 : D.drop j = 46 :: c :: t := hs
    rw [fracE, suf_ch h0, if_pos (by decide), digE_stop D (j + 1) (by rw [suf_ch (suf_next h0)]; exact hc), if_pos rfl]
    rfl
  | 1, _, hs =>
    have h0 : D.drop j = 101 :: c :: t := hs
    rw [fracE, suf_ch h0, if_neg (by decide), expE, suf_ch h0, if_pos (by decide), suf_ch (suf_next h0), if_neg (by omega), sg_no (suf_next h0) hc]
    rfl
  | 2, _, hs =>
    have h0 : D.drop j = 69 :: c :: t := hs
    rw [fracE, suf_ch h0, if_neg (by decide), expE, suf_ch h0, if_pos (by decide), suf_ch (suf_next h0), if_neg (by omega), sg_no (suf_next h0) hc]
    rfl
  | 3, _, hs =>
    have h0 : D.drop j = 101 :: 43 :: c :: t := hs
    rw [fracE, suf_ch h0, if_neg (by decide), expE, suf_ch h0, if_pos (by decide), suf_ch (suf_next h0), if_pos (by decide), sg_no (suf_next (suf_next h0)) hc]
    rfl
  | 4, _, hs =>
    have h0 : D.drop j = 101 :: 45 :: c :: t := hs
    rw [fracE, suf_ch h0, if_neg (by decide), expE, suf_ch h0, if_pos (by decide), suf_ch (suf_next h0), if_pos (by decide), sg_no (suf_next (suf_next h0)) hc]
    rfl
  | 5, _, hs =>
    have h0 : D.drop j = 69 :: 43 :: c :: t := hs
    rw [fracE, suf_ch h0, if_neg (by decide), expE, suf_ch h0, if_pos (by decide), suf_ch (suf_next h0), if_pos (by decide), sg_no (suf_next (suf_next h0)) hc]
    rfl
  | 6, _, hs =>
    have h0 : D.drop j = 69 :: 45 :: c :: t := hs
    rw [fracE, suf_ch h0, if_neg (by decide), expE, suf_ch h0, if_pos (by decide), suf_ch (suf_next h0), if_pos (by decide), sg_no (suf_next (suf_next h0)) hc]
    rfl
end Go.Proofs.Qxb6600003a
