/-
  THE PLAIN LAW: every number of the grammar is accepted, and ends where it ends. No Go in sight.
-/
import Derived.Test.Qxb6600003aNumLaw
namespace Go.Proofs.Qxb6600003a

def dgs : List UInt8 → List UInt8
  | [] => [48]
  | c :: r => (c :: r).map dgt
def frp (h : Bool) (l : List UInt8) : List UInt8 := if h then 46 :: dgs l else []
def emk (f : Nat) : UInt8 := if f % 2 = 0 then 101 else 69
def esg (f : Nat) : List UInt8 := if f / 2 % 3 = 1 then [43] else if f / 2 % 3 = 2 then [45] else []
def exq (f : Nat) (l : List UInt8) : List UInt8 := emk f :: (esg f ++ dgs l)
def exp' (h : Bool) (f : Nat) (l : List UInt8) : List UInt8 := if h then exq f l else []

/-- What follows cannot continue a number. -/
def tok (t : List UInt8) : Prop := ∀ c r, t = c :: r → ¬ isD c ∧ c.toNat ≠ 46 ∧ c.toNat ≠ 101 ∧ c.toNat ≠ 69

theorem dgs_isD (l : List UInt8) : ∀ c ∈ dgs l, isD c := by
  cases l with
  | nil => intro c hc; simp [dgs] at hc; subst hc; unfold isD; decide
  | cons a r =>
    intro c hc
    obtain ⟨x, _, rfl⟩ := List.mem_map.1 hc
    exact dgt_isD x
theorem dgs_pos (l : List UInt8) : 0 < (dgs l).length := by cases l <;> simp [dgs]
theorem dgs_le (l : List UInt8) : (dgs l).length ≤ l.length + 1 := by cases l <;> simp [dgs]
theorem emk_or (f : Nat) : (emk f).toNat = 101 ∨ (emk f).toNat = 69 := by unfold emk; split <;> decide
theorem esg_le (f : Nat) : (esg f).length ≤ 1 := by
  unfold esg
  split
  · simp
  · split <;> simp

theorem dgs_cons (l : List UInt8) : ∃ c r, dgs l = c :: r ∧ isD c := by
  cases hd : dgs l with
  | nil => have := dgs_pos l; rw [hd] at this; simp at this
  | cons c r => exact ⟨c, r, rfl, dgs_isD l c (by rw [hd]; simp)⟩

section
variable {D : List UInt8}

theorem sg_law {i : Nat} {l t : List UInt8} (h : D.drop i = dgs l ++ t) (ht : nd t) : sgE D i = (i + (dgs l).length, true) := by
  have hp := dgs_pos l
  rw [sgE, suf_dig h (dgs_isD l) ht, if_neg (by omega)]

theorem tok_nd {t : List UInt8} (h : tok t) : nd t := fun c r e => (h c r e).1

theorem ex_law {i f : Nat} {l t : List UInt8} (h : D.drop i = exq f l ++ t) (ht : tok t) : expE D i = (i + (exq f l).length, true) := by
  have h0 : D.drop i = emk f :: (esg f ++ (dgs l ++ t)) := by rw [h]; simp [exq]
  have h1 := suf_next h0
  obtain ⟨c, r, hcr, hd⟩ := dgs_cons l
  unfold isD at hd
  rw [expE, suf_ch h0, if_pos (emk_or f)]
  have hlen : (exq f l).length = 1 + ((esg f).length + (dgs l).length) := by simp only [exq, List.length_cons, List.length_append]; omega
  have key : (if ch D (i + 1) = 43 ∨ ch D (i + 1) = 45 then i + 2 else i + 1) = i + 1 + (esg f).length := by
    by_cases e1 : f / 2 % 3 = 1
    · have e : esg f = [43] := by simp [esg, e1]
      rw [e] at h1 ⊢
      have h1' : D.drop (i + 1) = 43 :: (dgs l ++ t) := h1
      rw [suf_ch h1', if_pos (by decide)]
      rfl
    · by_cases e2 : f / 2 % 3 = 2
      · have e : esg f = [45] := by simp [esg, e2]
        rw [e] at h1 ⊢
        have h1' : D.drop (i + 1) = 45 :: (dgs l ++ t) := h1
        rw [suf_ch h1', if_pos (by decide)]
        rfl
      · have e : esg f = [] := by simp [esg, e1, e2]
        rw [e, hcr] at h1
        rw [e]
        have h1' : D.drop (i + 1) = c :: (r ++ t) := h1
        rw [suf_ch h1', if_neg (by omega)]
        rfl
  rw [key, sg_law (suf_app h1) (tok_nd ht), hlen]
  congr 1
  omega

theorem exp_law {i f : Nat} {he : Bool} {l t : List UInt8} (h : D.drop i = exp' he f l ++ t) (ht : tok t) : expE D i = (i + (exp' he f l).length, true) := by
  cases he with
  | true => exact ex_law h ht
  | false =>
    have h0 : D.drop i = t := h
    have hn : ¬ (ch D i = 101 ∨ ch D i = 69) := by
      cases t with
      | nil => rw [suf_nil h0]; omega
      | cons c r => rw [suf_ch h0]; have := ht c r rfl; omega
    rw [expE, if_neg hn]
    rfl

theorem exp_tok {f : Nat} {he : Bool} {l t : List UInt8} (ht : tok t) : nd (exp' he f l ++ t) ∧ ∀ c r, exp' he f l ++ t = c :: r → c.toNat ≠ 46 := by
  cases he with
  | true =>
    have e : exp' true f l ++ t = emk f :: (esg f ++ dgs l ++ t) := by simp [exp', exq]
    have ho := emk_or f
    constructor
    · intro c r h
      rw [e] at h
      rw [← (List.cons.inj h).1]
      unfold isD; omega
    · intro c r h
      rw [e] at h
      rw [← (List.cons.inj h).1]
      omega
  | false => exact ⟨tok_nd ht, fun c r h => (ht c r h).2.1⟩

theorem frac_law {i f : Nat} {hf he : Bool} {fl el t : List UInt8} (h : D.drop i = frp hf fl ++ (exp' he f el ++ t)) (ht : tok t) : fracE D i = (i + (frp hf fl).length + (exp' he f el).length, true) := by
  cases hf with
  | true =>
    have h0 : D.drop i = 46 :: (dgs fl ++ (exp' he f el ++ t)) := h
    have h1 := suf_next h0
    have hp := dgs_pos fl
    rw [fracE, suf_ch h0, if_pos (by decide), suf_dig h1 (dgs_isD fl) (exp_tok ht).1, if_neg (by omega), exp_law (suf_app h1) ht]
    congr 1
    simp only [frp, if_true, List.length_cons]
    omega
  | false =>
    have h0 : D.drop i = exp' he f el ++ t := h
    have hn : ¬ ch D i = 46 := by
      cases hx : exp' he f el ++ t with
      | nil => rw [hx] at h0; rw [suf_nil h0]; omega
      | cons c r => rw [hx] at h0; rw [suf_ch h0]; exact (exp_tok ht).2 c r hx
    rw [fracE, if_neg hn, exp_law h0 ht]
    rfl

/-- The bytes of zzNumber. -/
def nmb (neg : Bool) (l : List UInt8) (hf : Bool) (fl : List UInt8) (he : Bool) (f : Nat) (el : List UInt8) : List UInt8 := ip neg l ++ (frp hf fl ++ exp' he f el)

theorem accept {i f : Nat} {neg hf he : Bool} {l fl el t : List UInt8} (h : D.drop i = nmb neg l hf fl he f el ++ t) (ht : tok t) : numE D i = (i + (nmb neg l hf fl he f el).length, true) := by
  have h0 : D.drop i = ip neg l ++ (frp hf fl ++ (exp' he f el ++ t)) := by rw [h]; simp [nmb]
  have hnd : nd (frp hf fl ++ (exp' he f el ++ t)) := by
    cases hf with
    | true =>
      intro c r e
      have e' : (46 : UInt8) = c := (List.cons.inj e).1
      rw [← e']
      unfold isD; decide
    | false => exact (exp_tok ht).1
  rw [num_law h0 hnd, frac_law (suf_app h0) ht]
  congr 1
  simp only [nmb, List.length_append]
  omega
end

theorem nmb_le (neg : Bool) (l : List UInt8) (hf : Bool) (fl : List UInt8) (he : Bool) (f : Nat) (el : List UInt8) : (nmb neg l hf fl he f el).length ≤ l.length + fl.length + el.length + 7 := by
  have h1 := ip_pos neg l
  have h2 := dgs_le fl
  have h3 := dgs_le el
  have h4 := esg_le f
  have h5 : (frp hf fl).length ≤ fl.length + 2 := by cases hf <;> simp [frp]; omega
  have h6 : (exp' he f el).length ≤ el.length + 3 := by cases he <;> simp [exp', exq]; omega
  simp only [nmb, List.length_append]
  omega
end Go.Proofs.Qxb6600003a
