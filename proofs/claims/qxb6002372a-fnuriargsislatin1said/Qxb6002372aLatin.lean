/-
  Bytes taken for code points and written as UTF-8: the plain facts. No Go function is named here.
-/
import Derived.Test.Qxb6002372aOwn
import Derived.Laws.Cover4
import Derived.Lib.DecodeN
namespace Go.Proofs.Qxb6002372a

def en (b : UInt8) : List UInt8 := if b.toNat < 128 then [b] else [UInt8.ofNat (192 + b.toNat / 64), UInt8.ofNat (128 + b.toNat % 64)]
def enc (l : List UInt8) : List UInt8 := l.flatMap en

theorem en_len (b : UInt8) : (en b).length = if b.toNat < 128 then 1 else 2 := by
  unfold en
  split <;> rfl

theorem en_encode (b : UInt8) : (Utf8.encode (b.toNat : Int)).data.toList = en b := by
  have hb := b.toNat_lt
  have hv : Utf8.valid (b.toNat : Int) = true := by
    simp only [Utf8.valid, Bool.or_eq_true, Bool.and_eq_true, decide_eq_true_eq]
    omega
  simp only [Utf8.encode, hv, if_true, Int.toNat_natCast, en]
  by_cases h : b.toNat < 128
  · rw [if_pos (by omega), if_pos h]
    simp
  · rw [if_neg (by omega), if_pos (by omega), if_neg h]

theorem foldl_enc : ∀ (l : List UInt8) (s : ByteArray), ((l.map fun b => (b.toNat : Int)).foldl (fun r n => r ++ Utf8.encode n) s).data.toList = s.data.toList ++ enc l
  | [], s => by simp [enc]
  | b :: r, s => by
    rw [List.map_cons, List.foldl_cons, foldl_enc r]
    rw [show (s ++ Utf8.encode (b.toNat : Int)).data.toList = s.data.toList ++ (Utf8.encode (b.toNat : Int)).data.toList by simp, en_encode]
    simp [enc]

theorem runes_enc (l : List UInt8) : runesBytes (l.map fun b => (b.toNat : Int)) = ⟨(enc l).toArray⟩ := by
  have h := foldl_enc l ByteArray.empty
  unfold runesBytes
  generalize (l.map fun b => (b.toNat : Int)).foldl (fun r n => r ++ Utf8.encode n) ByteArray.empty = S at h ⊢
  cases S with
  | mk d =>
    congr 1
    apply Array.ext'
    simpa using h

theorem enc_take (l : List UInt8) (k : Nat) (hk : k < l.length) : enc (l.take (k + 1)) = enc (l.take k) ++ en l[k] := by
  rw [List.take_succ_eq_append_getElem hk]
  simp only [enc, List.flatMap_append, List.flatMap_cons, List.flatMap_nil, List.append_nil]

theorem enc_split (l : List UInt8) (k : Nat) (hk : k < l.length) : enc l = enc (l.take k) ++ (en l[k] ++ enc (l.drop (k + 1))) := by
  have e : l = l.take k ++ l[k] :: l.drop (k + 1) := by rw [← List.drop_eq_getElem_cons hk, List.take_append_drop]
  refine (congrArg enc e).trans ?_
  simp only [enc, List.flatMap_append, List.flatMap_cons]

theorem get_data (A : List UInt8) (i : Nat) : (ByteArray.mk A.toArray).get! i = A.getD i 0 := by
  rw [List.getD_eq_getElem?_getD]
  show A.toArray[i]! = _
  rw [getElem!_def]
  simp only [List.getElem?_toArray]
  cases A[i]? <;> rfl

theorem decode_enc (l : List UInt8) (k : Nat) (hk : k < l.length) : Utf8.decode ⟨(enc l).toArray⟩ (enc (l.take k)).length = (l[k].toNat, (en l[k]).length) := by
  have hb := l[k].toNat_lt
  rw [Lib.decode_at]
  simp only [get_data]
  rw [enc_split l k hk]
  generalize enc (l.take k) = A
  generalize enc (l.drop (k + 1)) = C
  have hsz : (ByteArray.mk (A ++ (en l[k] ++ C)).toArray).size = A.length + ((en l[k]).length + C.length) := by simp [ByteArray.size]
  rw [hsz]
  have g0 : ∀ j, (A ++ (en l[k] ++ C)).getD (A.length + j) 0 = (en l[k] ++ C).getD j 0 := by
    intro j
    rw [List.getD_eq_getElem?_getD, List.getD_eq_getElem?_getD, List.getElem?_append_right (by omega)]
    simp
  have g00 := g0 0
  rw [Nat.add_zero] at g00
  rw [g00, g0 1]
  generalize ((A ++ (en l[k] ++ C)).getD (A.length + 2) 0).toNat = b2
  generalize ((A ++ (en l[k] ++ C)).getD (A.length + 3) 0).toNat = b3
  by_cases h : l[k].toNat < 128
  · have e : en l[k] = [l[k]] := by simp [en, h]
    rw [e]
    simp [Lib.decodeN, h]
  · have e : en l[k] = [UInt8.ofNat (192 + l[k].toNat / 64), UInt8.ofNat (128 + l[k].toNat % 64)] := by simp [en, h]
    rw [e]
    have e0 : (UInt8.ofNat (192 + l[k].toNat / 64)).toNat = 192 + l[k].toNat / 64 := by simp; omega
    have e1 : (UInt8.ofNat (128 + l[k].toNat % 64)).toNat = 128 + l[k].toNat % 64 := by simp; omega
    simp only [List.cons_append, List.nil_append, List.getD_cons_zero, List.getD_cons_succ, e0, e1, List.length_cons, List.length_nil]
    unfold Lib.decodeN
    rw [if_neg (by omega), if_pos ⟨by omega, by omega, by omega⟩, if_pos (by omega)]
    congr 1
    omega

theorem enc_lt (l : List UInt8) (k : Nat) (hk : k < l.length) : (enc (l.take k)).length < (enc l).length := by
  rw [enc_split l k hk]
  have : 0 < (en l[k]).length := by rw [en_len]; split <;> omega
  simp only [List.length_append]
  omega

theorem enc_le (l : List UInt8) : (enc l).length ≤ 2 * l.length := by
  induction l with
  | nil => simp [enc]
  | cons b r ih =>
    have : (en b).length ≤ 2 := by rw [en_len]; split <;> omega
    simp only [enc, List.flatMap_cons, List.length_append, List.length_cons] at *
    omega
end Go.Proofs.Qxb6002372a
