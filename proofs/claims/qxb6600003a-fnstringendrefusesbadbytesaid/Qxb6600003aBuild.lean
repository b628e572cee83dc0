/-
  Slices of bytes that came in ('Src'), appended to a slice of the call's own; 'zzDigits', 'zzIntPart': their contracts.
-/
import Derived.Test.Qxb6600003aNumLaw
import Derived.Laws.AppendOwnNone
import Derived.OpenShut
namespace Go.Proofs.Qxb6600003a
open Go.RowKit

def u8s (l : List UInt8) : List Value := l.map fun b => Value.int .u8 (b.toNat : Int)
theorem u8s_len (l : List UInt8) : (u8s l).length = l.length := by simp [u8s]
theorem u8s_app (a b : List UInt8) : u8s (a ++ b) = u8s a ++ u8s b := by simp [u8s]
theorem u8s_one (l : List UInt8) : ∀ u ∈ u8s l, u.oneCell' = true := by
  intro u hu
  obtain ⟨b, _, rfl⟩ := List.mem_map.1 hu
  rfl

/-- A slice of bytes that came in: nil; or somewhere; where it has an element its cells are known. -/
def Src (w : World) (ao : Option Addr) (n cap : Nat) (l : List UInt8) : Prop :=
  l.length = n ∧ n ≤ cap ∧ cap ≤ maxLen ∧ ((ao = none ∧ n = 0 ∧ cap = 0) ∨ ∃ ad, ao = some ad) ∧
  (0 < n → ∃ b off, ao = some ⟨b, off, none⟩ ∧ b < w.heap.size ∧ ∀ j (h : j < l.length), w.cell? ⟨b, off + j, none⟩ = some (.int .u8 (l[j].toNat : Int)))

theorem src_of_row {w : World} {a : Option Addr} {len cap : Nat} {zs : List Int}
    (h : (a = none ∧ len = 0 ∧ cap = 0 ∧ zs = []) ∨
      ∃ x, a = some x ∧ len ≤ cap ∧ cap ≤ maxLen ∧ zs.length = cap ∧ (∀ i, i < zs.length → w.cell? (x.add i) = some (.int .u8 (zs.getD i 0))) ∧ ∀ n ∈ zs, (Lit.int .u8 n).wf = true) :
    ∃ l, Src w a len cap l := by
  rcases h with ⟨rfl, rfl, rfl, rfl⟩ | ⟨x, rfl, hlc, hcm, hz, hcell, hwf⟩
  · exact ⟨[], rfl, Nat.le_refl _, Nat.zero_le _, .inl ⟨rfl, rfl, rfl⟩, fun h => absurd h (by omega)⟩
  · obtain ⟨l, hl⟩ : ∃ l : List UInt8, l = (zs.take len).map fun n => UInt8.ofNat n.toNat := ⟨_, rfl⟩
    have hll : l.length = len := by rw [hl]; simp; omega
    refine ⟨l, hll, hlc, hcm, .inr ⟨x, rfl⟩, fun h0 => ?_⟩
    obtain ⟨b, off, rfl, hc⟩ := ints_at hcell (by omega)
    refine ⟨b, off, rfl, World.block_lt_of_cell? w _ (hc 0 (by omega)), fun j hj => ?_⟩
    rw [hc j (by omega)]
    have hjz : j < zs.length := by omega
    have hb := bounds_u8 (hwf zs[j] (List.getElem_mem hjz))
    have e : zs.getD j 0 = (l[j].toNat : Int) := by
      simp only [hl, List.getElem_map, List.getElem_take, List.getD_eq_getElem?_getD, List.getElem?_eq_getElem hjz, Option.getD_some]
      simp
      omega
    rw [e]

theorem info5 : (Try.prog.info? 5).map (fun i => (i.zero, i.size, i.bytes)) = some (some (.int .u8 0), 1, 1) := by kernel_rfl

/-- 'dst = append(dst, src...)'. -/
theorem wpList_app_sl {ops : Array Oper} {rest : List Oper} {o : Oper} {a : Act} {Q : Exit → Act → World → Prop} {w : World} (hgd : o.guard = none) (s x : Operand)
    (ho : o.op = .call { callee := .builtin .append, args := #[s, x], argTypes := #[22, 22] })
    (ao : Option Addr) (n cap : Nat) (xs : List Value) (hs : a.eval s = .slice ao n cap) (W0 : World) (hb : Own W0.heap.size 5 ao n cap xs W0 w)
    (aoS : Option Addr) (m c : Nat) (l : List UInt8) (hx : a.eval x = .slice aoS m c) (hsrc : Src W0 aoS m c l) (hlen : n + m ≤ 140737488355328)
    (h : ∀ ao' cap' w', Own W0.heap.size 5 ao' (n + m) cap' (xs ++ u8s l) W0 w' → wpList Try.prog ops Q rest (a.put o.dst (.slice ao' (n + m) cap')) w') : wpList Try.prog ops Q (o :: rest) a w := by
  obtain ⟨i0, hi, hz0, hz1, hz2⟩ := info_parts info5
  obtain ⟨hl, hmc, hcm, hcase, hcells⟩ := hsrc
  rcases hcase with ⟨rfl, rfl, rfl⟩ | ⟨ad, rfl⟩
  · have hl0 : l = [] := List.eq_nil_of_length_eq_zero hl
    subst hl0
    refine wpList_append_own_none hgd s x 22 ho W0.heap.size 5 i0 1 Try.underlying22 hi _ n xs hs hb.1 hx ?_
    have := h ao cap w (by simpa [u8s] using hb)
    simpa using this
  · refine wpList_append_own w hgd s x 22 ho W0.heap.size 5 i0 _ 1 1 Try.underlying22 hi hz0 hz1 hz2 rfl (by decide) _ n xs hs hb.1 ad m c (u8s l) hx (by rw [u8s_len]; omega) ?_ (u8s_one l) (by unfold maxLen; omega) (by omega) hb.2.2 ?_
    · intro j u hj
      have hjl : j < l.length := by have := (List.getElem?_eq_some_iff.1 hj).1; rwa [u8s_len] at this
      obtain ⟨b, off, had, hbl, hc⟩ := hcells (by omega)
      obtain rfl := Option.some.inj had
      rw [Addr.add_lit, hb.2.1.cell (p := ⟨b, off + j, none⟩) hbl, hc j hjl]
      simpa [u8s, hjl] using hj
    · intro v' w' ho' hg _
      obtain ⟨ao', cap', rfl⟩ := Own.shape ho'
      exact h ao' cap' w' (hb.grown ho' hg)

theorem digits_step (l : List UInt8) (k : Nat) (hk : k < l.length) : u8s ((l.take (k + 1)).map dgt) = u8s ((l.take k).map dgt) ++ [Value.int .u8 (48 + (l[k].toNat : Int) % 10)] := by
  rw [List.take_succ_eq_append_getElem hk, List.map_append, u8s_app]
  congr 1
  simp only [u8s, List.map_cons, List.map_nil, dgt_nat]
  congr 2

set_option maxRecDepth 100000 in
set_option maxHeartbeats 1000000 in
theorem digits_some (ao : Option Addr) (n cap : Nat) (xs : List Value) (W0 w : World) (hown : Own W0.heap.size 5 ao n cap xs W0 w) (b off capS : Nat) (l : List UInt8) (hb : b < W0.heap.size)
    (hcell : ∀ j (h : j < l.length), W0.cell? ⟨b, off + j, none⟩ = some (.int .u8 (l[j].toNat : Int))) (hn : n ≤ 1048576) (hl : l.length ≤ 1048576) :
    Calls Try.prog 36 #[.slice ao n cap, .slice (some ⟨b, off, none⟩) l.length capS] w fun e w' => ∃ ao' cap', e = .returned (.slice ao' (n + l.length) cap') ∧ Own W0.heap.size 5 ao' (n + l.length) cap' (xs ++ u8s (l.map dgt)) W0 w' := by
  obtain ⟨i0, hi, hz0, hz1, hz2⟩ := info_parts info5
  have HC : Hid _ := hcell
  clear hcell
  go_enter Try.func36, Try.ntmps36
  go_wp2
  go_loopw [0, 5] (fun v i wr => ∃ (k : Nat) (ao' : Option Addr) (cap' : Nat), k ≤ l.length ∧ i = .int .i64 k ∧ v = .slice ao' (n + k) cap' ∧ Own W0.heap.size 5 ao' (n + k) cap' (xs ++ u8s ((l.take k).map dgt)) W0 wr) (fun _ i _ => l.length - (intOf i).toNat)
  case atStart => exact ⟨0, ao, cap, Nat.zero_le _, rfl, rfl, by simpa [u8s] using hown⟩
  case round =>
    clear hown ao cap
    obtain ⟨k, ao, cap, hk, rfl, rfl, hown⟩ := hrel
    by_cases hlt : k < l.length
    · have hc : wr.cell? ⟨b, off + k, none⟩ = some (.int .u8 (l[k].toNat : Int)) := (hown.2.1.cell (p := ⟨b, off + k, none⟩) hb).trans (HC.out k hlt)
      have hby := l[k].toNat_lt
      go_wp2_with (first | (at_builtin; refine wpList_app rfl _ _ 22 rfl _ 5 i0 _ 1 Try.underlying22 hi hz0 hz1 hz2 rfl _ _ _ _ rfl _ _ hown _ 1 rfl rfl (by intro u hu; simp at hu; subst hu; rfl) (by unfold maxLen; omega) (by omega) ?_; intro ao' cap' w' hown'))
      go_roundw
      case rel =>
        have e := digits_step l k hlt
        rw [List.append_assoc, ← e, Nat.add_assoc] at hown'
        exact ⟨k + 1, _, _, by omega, by go_num, by rw [Nat.add_assoc], hown'⟩
      case measure => simp [intOf]; omega
    · have ek : k = l.length := by omega
      subst ek
      rw [List.take_length] at hown
      go_wp2
      go_ret
      exact ⟨_, _, rfl, hown⟩

set_option maxRecDepth 100000 in
theorem digits_none (ao : Option Addr) (n cap : Nat) (w : World) (aoS : Option Addr) (capS : Nat) :
    Calls Try.prog 36 #[.slice ao n cap, .slice aoS 0 capS] w fun e w' => e = .returned (.slice ao n cap) ∧ w' = w := by
  go_enter Try.func36, Try.ntmps36
  go_wp2
  go_loop [0, 5] (fun v i => v = .slice ao n cap ∧ i = .int .i64 0) (fun _ _ => 0)
  case atStart => exact ⟨rfl, rfl⟩
  case round =>
    obtain ⟨rfl, rfl⟩ := hrel
    go_wp2
    go_ret
    exact ⟨rfl, rfl⟩

/-- zzDigits, whatever slice came in. -/
theorem digits_any (ao : Option Addr) (n cap : Nat) (xs : List Value) (W0 w : World) (hown : Own W0.heap.size 5 ao n cap xs W0 w) (aoS : Option Addr) (m capS : Nat) (l : List UInt8) (hsrc : Src W0 aoS m capS l) (hn : n ≤ 1048576) (hl : m ≤ 1048576) :
    Calls Try.prog 36 #[.slice ao n cap, .slice aoS m capS] w fun e w' => ∃ ao' cap', e = .returned (.slice ao' (n + m) cap') ∧ Own W0.heap.size 5 ao' (n + m) cap' (xs ++ u8s (l.map dgt)) W0 w' := by
  obtain ⟨rfl, hmc, hcm, hcase, hcells⟩ := hsrc
  by_cases h0 : 0 < l.length
  · obtain ⟨b, off, rfl, hb, hc⟩ := hcells h0
    exact digits_some ao n cap xs W0 w hown b off capS l hb hc hn hl
  · have hl0 : l = [] := List.eq_nil_of_length_eq_zero (by omega)
    subst hl0
    refine (digits_none ao n cap w aoS capS).mono ?_
    rintro e w' ⟨rfl, rfl⟩
    exact ⟨ao, cap, rfl, by simpa [u8s] using hown⟩

/-- What the walks do at each 'dst = append(dst, x)'. -/
theorem ip_true (l : List UInt8) : ip true l = 45 :: ipb l := rfl
theorem ip_false (l : List UInt8) : ip false l = ipb l := rfl

set_option maxRecDepth 100000 in
set_option maxHeartbeats 1000000 in
theorem intPart_nil (neg : Bool) (ao : Option Addr) (n cap : Nat) (xs : List Value) (W0 w : World) (hown : Own W0.heap.size 5 ao n cap xs W0 w) (aoS : Option Addr) (capS : Nat) (hn : n ≤ 1048576) :
    Calls Try.prog 26 #[.slice ao n cap, .bool neg, .slice aoS 0 capS] w fun e w' => ∃ ao' cap', e = .returned (.slice ao' (n + (ip neg []).length) cap') ∧ Own W0.heap.size 5 ao' (n + (ip neg []).length) cap' (xs ++ u8s (ip neg [])) W0 w' := by
  obtain ⟨i0, hi, hz0, hz1, hz2⟩ := info_parts info5
  cases neg
  · go_enter Try.func26, Try.ntmps26
    go_wp2_with (first | (at_builtin; refine wpList_app rfl _ _ 22 rfl _ 5 i0 _ 1 Try.underlying22 hi hz0 hz1 hz2 rfl _ _ _ _ rfl _ _ (by assumption) _ 1 rfl rfl (by intro u hu; simp at hu; subst hu; rfl) (by unfold maxLen; omega) (by omega) ?_; intro ao' cap' w' hown'))
    go_ret
    exact ⟨_, _, rfl, hown'⟩
  · go_enter Try.func26, Try.ntmps26
    go_wp2_with (first | (at_builtin; refine wpList_app rfl _ _ 22 rfl _ 5 i0 _ 1 Try.underlying22 hi hz0 hz1 hz2 rfl _ _ _ _ rfl _ _ (by assumption) _ 1 rfl rfl (by intro u hu; simp at hu; subst hu; rfl) (by unfold maxLen; omega) (by omega) ?_; intro ao' cap' w' hown'))
    go_ret
    refine ⟨_, _, rfl, ?_⟩
    rw [List.append_assoc] at hown'
    exact hown'

theorem dg1_val (c : UInt8) : Value.int .u8 (49 + (c.toNat : Int) % 9) = .int .u8 ((dg1 c).toNat : Int) := by
  rw [dg1_nat]
  congr 1

theorem close_f {B : Nat} {n : Nat} {ao : Option Addr} {cap : Nat} {xs : List Value} {W0 w : World} {c : UInt8} {r : List UInt8} (h : Own B 5 ao (n + 1 + r.length) cap (xs ++ [Value.int .u8 (49 + (c.toNat : Int) % 9)] ++ u8s (r.map dgt)) W0 w) :
    ∃ ao' cap', Ending.returned (.slice ao (n + 1 + r.length) cap) = .returned (.slice ao' (n + (ip false (c :: r)).length) cap') ∧ Own B 5 ao' (n + (ip false (c :: r)).length) cap' (xs ++ u8s (ip false (c :: r))) W0 w := by
  have e1 : n + 1 + r.length = n + (ip false (c :: r)).length := by rw [ip_false]; simp [ipb]; omega
  have e2 : xs ++ [Value.int .u8 (49 + (c.toNat : Int) % 9)] ++ u8s (r.map dgt) = xs ++ u8s (ip false (c :: r)) := by rw [dg1_val, ip_false, List.append_assoc]; rfl
  rw [e2, e1] at h
  rw [e1]
  exact ⟨_, _, rfl, h⟩

theorem close_t {B : Nat} {n : Nat} {ao : Option Addr} {cap : Nat} {xs : List Value} {W0 w : World} {c : UInt8} {r : List UInt8} (h : Own B 5 ao (n + 1 + 1 + r.length) cap (xs ++ [Value.int .u8 45] ++ [Value.int .u8 (49 + (c.toNat : Int) % 9)] ++ u8s (r.map dgt)) W0 w) :
    ∃ ao' cap', Ending.returned (.slice ao (n + 1 + 1 + r.length) cap) = .returned (.slice ao' (n + (ip true (c :: r)).length) cap') ∧ Own B 5 ao' (n + (ip true (c :: r)).length) cap' (xs ++ u8s (ip true (c :: r))) W0 w := by
  have e1 : n + 1 + 1 + r.length = n + (ip true (c :: r)).length := by rw [ip_true]; simp [ipb]; omega
  have e2 : xs ++ [Value.int .u8 45] ++ [Value.int .u8 (49 + (c.toNat : Int) % 9)] ++ u8s (r.map dgt) = xs ++ u8s (ip true (c :: r)) := by rw [dg1_val, ip_true, List.append_assoc, List.append_assoc]; rfl
  rw [e2, e1] at h
  rw [e1]
  exact ⟨_, _, rfl, h⟩

set_option maxRecDepth 100000 in
set_option maxHeartbeats 1000000 in
theorem intPart_some (neg : Bool) (ao : Option Addr) (n cap : Nat) (xs : List Value) (W0 w : World) (hown : Own W0.heap.size 5 ao n cap xs W0 w) (b off capS : Nat) (c : UInt8) (r : List UInt8) (hb : b < W0.heap.size) (hcap : r.length + 1 ≤ capS) (hcm : capS ≤ maxLen)
    (hcell : ∀ j (h : j < (c :: r).length), W0.cell? ⟨b, off + j, none⟩ = some (.int .u8 ((c :: r)[j].toNat : Int))) (hn : n ≤ 1000000) (hl : r.length + 1 ≤ 1000000) :
    Calls Try.prog 26 #[.slice ao n cap, .bool neg, .slice (some ⟨b, off, none⟩) (r.length + 1) capS] w fun e w' => ∃ ao' cap', e = .returned (.slice ao' (n + (ip neg (c :: r)).length) cap') ∧ Own W0.heap.size 5 ao' (n + (ip neg (c :: r)).length) cap' (xs ++ u8s (ip neg (c :: r))) W0 w' := by
  obtain ⟨i0, hi, hz0, hz1, hz2⟩ := info_parts info5
  have HC : Hid (∀ wx : World, Below W0.heap.size W0 wx → wx.cell? ⟨b, off, none⟩ = some (.int .u8 (c.toNat : Int))) := fun wx hx => (hx.cell (p := ⟨b, off, none⟩) hb).trans (hcell 0 (by simp))
  have hc0 := HC.out w hown.2.1
  have hby := c.toNat_lt
  unfold maxLen at hcm
  have HC2 : Hid (∀ j (h : j < r.length), W0.cell? ⟨b, off + 1 + j, none⟩ = some (.int .u8 (r[j].toNat : Int))) := fun j hj => by
    have := hcell (j + 1) (by simpa using hj)
    rw [show off + (j + 1) = off + 1 + j by omega] at this
    simpa using this
  clear hcell
  cases neg
  · go_enter Try.func26, Try.ntmps26
    go_wp2_with (first | (at_builtin; refine wpList_app rfl _ _ 22 rfl _ 5 i0 _ 1 Try.underlying22 hi hz0 hz1 hz2 rfl _ _ _ _ rfl _ _ (by assumption) _ 1 rfl rfl (by intro u hu; simp at hu; subst hu; rfl) (by unfold maxLen; omega) (by omega) ?_; intro ao' cap' w' hown'; have hc1 := HC.out w' hown'.2.1))
    · refine (digits_any _ _ _ _ W0 _ hown' _ _ _ r ⟨rfl, by omega, by omega, .inr ⟨_, rfl⟩, fun h => by omega⟩ (by omega) (by omega)).mono ?_
      rintro e w2 ⟨ao2, cap2, rfl, hown2⟩
      go_wp2_with fail
      go_ret
      exact close_f hown2
    · refine (digits_any _ _ _ _ W0 _ hown' _ _ _ r ⟨rfl, by omega, by unfold maxLen; omega, .inr ⟨_, rfl⟩, fun h => ⟨b, off + 1, rfl, hb, HC2.out⟩⟩ (by omega) (by omega)).mono ?_
      rintro e w2 ⟨ao2, cap2, rfl, hown2⟩
      go_wp2_with fail
      go_ret
      exact close_f hown2
  · go_enter Try.func26, Try.ntmps26
    go_wp2_with (first | (at_builtin; refine wpList_app rfl _ _ 22 rfl _ 5 i0 _ 1 Try.underlying22 hi hz0 hz1 hz2 rfl _ _ _ _ rfl _ _ (by assumption) _ 1 rfl rfl (by intro u hu; simp at hu; subst hu; rfl) (by unfold maxLen; omega) (by omega) ?_; intro ao' cap' w' hown'; have hc1 := HC.out w' hown'.2.1))
    · refine (digits_any _ _ _ _ W0 _ hown' _ _ _ r ⟨rfl, by omega, by omega, .inr ⟨_, rfl⟩, fun h => by omega⟩ (by omega) (by omega)).mono ?_
      rintro e w2 ⟨ao2, cap2, rfl, hown2⟩
      go_wp2_with fail
      go_ret
      exact close_t hown2
    · refine (digits_any _ _ _ _ W0 _ hown' _ _ _ r ⟨rfl, by omega, by unfold maxLen; omega, .inr ⟨_, rfl⟩, fun h => ⟨b, off + 1, rfl, hb, HC2.out⟩⟩ (by omega) (by omega)).mono ?_
      rintro e w2 ⟨ao2, cap2, rfl, hown2⟩
      go_wp2_with fail
      go_ret
      exact close_t hown2

/-- zzIntPart, whatever slice came in. -/
theorem intPart_any (neg : Bool) (ao : Option Addr) (n cap : Nat) (xs : List Value) (W0 w : World) (hown : Own W0.heap.size 5 ao n cap xs W0 w) (aoS : Option Addr) (m capS : Nat) (l : List UInt8) (hsrc : Src W0 aoS m capS l) (hn : n ≤ 1000000) (hl : m ≤ 1000000) :
    Calls Try.prog 26 #[.slice ao n cap, .bool neg, .slice aoS m capS] w fun e w' => ∃ ao' cap', e = .returned (.slice ao' (n + (ip neg l).length) cap') ∧ Own W0.heap.size 5 ao' (n + (ip neg l).length) cap' (xs ++ u8s (ip neg l)) W0 w' := by
  obtain ⟨rfl, hmc, hcm, hcase, hcells⟩ := hsrc
  cases l with
  | nil => exact intPart_nil neg ao n cap xs W0 w hown aoS capS (by omega)
  | cons c r =>
    obtain ⟨b, off, rfl, hb, hc⟩ := hcells (by simp)
    exact intPart_some neg ao n cap xs W0 w hown b off capS c r hb hmc hcm hc hn hl
end Go.Proofs.Qxb6600003a
