/-
  Helper laws for walks over this seat's program: one slice that the call itself makes ('Own'), carried from append to append. No Go function is named here.
-/
import Derived.Test.Qxb6002372aRows
import Derived.WalkKit
import Derived.Lib.AppendStr
import Derived.Laws.BytesArg
namespace Go.Proofs.Qxb6002372a
open Go.RowKit

/-- The slice 'ao, n, cap' owns the n one-cell values xs in a block from B on; below B nothing has turned since W0. -/
def Own (B : Nat) (e : TypeId) (ao : Option Addr) (n cap : Nat) (xs : List Value) (W0 w : World) : Prop :=
  w.ownsRow B e 1 (.slice ao n cap) n xs ∧ Below B W0 w ∧ B ≤ w.heap.size

section
variable {B : Nat} {e : TypeId} {ao : Option Addr} {n cap : Nat} {xs : List Value} {W0 w : World}

theorem Own.len (h : Own B e ao n cap xs W0 w) : xs.length = n := by simpa using h.1.1

theorem Own.nil (hB : Below B W0 w) (hs : B ≤ w.heap.size) : Own B e none 0 0 [] W0 w := ⟨World.ownsRow_nil _ _ _ _, hB, hs⟩

theorem Own.alloc (h : Own B e ao n cap xs W0 w) (o : Obj) : Own B e ao n cap xs W0 (w.alloc o) :=
  ⟨h.1.alloc o, h.2.1.alloc h.2.2 o, by have := h.2.2; simp; omega⟩

theorem Own.shape {v : Value} (h : w.ownsRow B e 1 v n xs) : ∃ ao cap, v = .slice ao n cap := by
  rcases h.2 with ⟨rfl, rfl⟩ | ⟨g, cap, cur, rfl, _⟩
  · exact ⟨none, 0, rfl⟩
  · exact ⟨_, _, rfl⟩

/-- Where there is an element there is an address, and the cells lie behind it. -/
theorem Own.at (h : Own B e ao n cap xs W0 w) (hn : 0 < n) : ∃ g, ao = some ⟨g, 0, none⟩ ∧ B ≤ g ∧ g < w.heap.size ∧ n ≤ cap ∧ cap ≤ maxLen ∧ ∀ j, j < n → w.cell? ⟨g, j, none⟩ = xs[j]? := by
  rcases h.1.2 with ⟨_, h0⟩ | ⟨g, c, cur, hv, hg, hh, hnc, hcm, _, _⟩
  · omega
  · simp only [Value.slice.injEq, true_and] at hv
    obtain ⟨rfl, rfl⟩ := hv
    refine ⟨g, rfl, hg, (Array.getElem?_eq_some_iff.1 hh).1, hnc, hcm, fun j hj => h.1.cellAt j (by omega)⟩

/-- What is owned below a later world's blocks stays as it is. -/
theorem Own.later {w' : World} (h : Own B e ao n cap xs W0 w) (hb : Below w.heap.size w w') : Own B e ao n cap xs W0 w' := by
  obtain ⟨⟨h1, h2⟩, h3, h4⟩ := h
  refine ⟨⟨h1, ?_⟩, h3.trans (hb.mono h4), Nat.le_trans h4 hb.size⟩
  rcases h2 with h2 | ⟨g, c, cur, hv, hg, hh, r⟩
  · exact .inl h2
  · exact .inr ⟨g, c, cur, hv, hg, by rw [hb.block g (Array.getElem?_eq_some_iff.1 hh).1]; exact hh, r⟩

theorem Own.grown {ao' : Option Addr} {n' cap' : Nat} {xs' : List Value} {w' : World} (h : Own B e ao n cap xs W0 w) (ho : w'.ownsRow B e 1 (.slice ao' n' cap') n' xs') (hg : w.grownBy w' (Value.slice ao n cap).ownBlock) : Own B e ao' n' cap' xs' W0 w' :=
  ⟨ho, h.2.1.grown hg h.2.2 (fun k hk => (h.1.lt k hk).1), Nat.le_trans h.2.2 hg.size⟩
end

section
variable {P : Program}

/-- 'dst = append(dst, x1, .., xm)': the new values lie in the block that the statement has just laid. -/
theorem wpList_app {ops : Array Oper} {rest : List Oper} {o : Oper} {a : Act} {Q : Exit → Act → World → Prop} (hgd : o.guard = none) (s x : Operand) (t : TypeId)
    (ho : o.op = .call { callee := .builtin .append, args := #[s, x], argTypes := #[t, t] })
    (B : Nat) (e : TypeId) (i : TypeInfo) (z : Value) (bytes : Nat) (ht : P.underlying t = some (.slice e)) (hi : P.info? e = some i) (hz : i.zero = some z) (hsize : i.size = 1) (hby : i.bytes = bytes) (hzs : z.cells.size = 1)
    (ao : Option Addr) (n cap : Nat) (xs : List Value) (hs : a.eval s = .slice ao n cap) (W0 w0 : World) (hb : Own B e ao n cap xs W0 w0) (news : List Value) (m : Nat) (hm : news.length = m)
    (hx : a.eval x = .slice (some ⟨w0.heap.size, 0, none⟩) m m) (h1 : ∀ u ∈ news, u.oneCell' = true) (h63 : n + m ≤ maxLen) (hlen : (n + m) * bytes ≤ 140737488355328)
    (h : ∀ ao' cap' w', Own B e ao' (n + m) cap' (xs ++ news) W0 w' → wpList P ops Q rest (a.put o.dst (.slice ao' (n + m) cap')) w') : wpList P ops Q (o :: rest) a (w0.alloc (.cells news.toArray e)) := by
  have hb' := hb.alloc (.cells news.toArray e)
  refine wpList_append_own _ hgd s x t ho B e i z 1 bytes ht hi hz hsize hby hzs (by decide) _ n xs hs hb'.1 ⟨w0.heap.size, 0, none⟩ m m news hx (by omega) ?_ h1 h63 hlen hb'.2.2 ?_
  · intro j u hj
    rw [Addr.add_lit, Nat.zero_add]
    have hg : (w0.alloc (.cells news.toArray e)).heap[w0.heap.size]? = some (.cells news.toArray e (0, 0)) := heap_alloc_new w0 _
    rw [cell_of_row _ w0.heap.size j news.toArray e (0, 0) hg]
    simpa using hj
  · intro v' w' ho' hg _
    obtain ⟨ao', cap', rfl⟩ := Own.shape ho'
    exact h ao' cap' w' (hb'.grown ho' hg)

/-- 'dst = append(dst, s...)', s a string. -/
theorem wpList_app_str {ops : Array Oper} {rest : List Oper} {o : Oper} {a : Act} {Q : Exit → Act → World → Prop} {w : World} (hgd : o.guard = none) (sl x : Operand) (t u : TypeId)
    (ho : o.op = .call { callee := .builtin .append, args := #[sl, x], argTypes := #[t, u] })
    (B : Nat) (e : TypeId) (i : TypeInfo) (ht : P.underlying t = some (.slice e)) (hu : P.underlying u = some .string) (hi : P.info? e = some i) (hz : i.zero = some (.int .u8 0)) (hsize : i.size = 1) (hby : i.bytes = 1)
    (ao : Option Addr) (n cap : Nat) (xs : List Value) (hs : a.eval sl = .slice ao n cap) (W0 : World) (hb : Own B e ao n cap xs W0 w) (s : ByteArray) (hx : a.eval x = .string s) (hlen : n + s.size ≤ 140737488355328)
    (h : ∀ ao' cap' w', Own B e ao' (n + s.size) cap' (xs ++ Lib.strCells s) W0 w' → wpList P ops Q rest (a.put o.dst (.slice ao' (n + s.size) cap')) w') : wpList P ops Q (o :: rest) a w := by
  refine Lib.wpList_append_own_string w hgd sl x t u ho B e i ht hu hi hz hsize hby _ n xs hs hb.1 s hx (by unfold maxLen; omega) hlen hb.2.2 ?_
  intro v' w' ho' hg _
  obtain ⟨ao', cap', rfl⟩ := Own.shape ho'
  exact h ao' cap' w' (hb.grown ho' hg)

/-- 'dst := make([]T, 0, n)'. -/
theorem wpList_mk0 {ops : Array Oper} {rest : List Oper} {o : Oper} {a : Act} {Q : Exit → Act → World → Prop} {w : World} (hg : o.guard = none) (l c : Operand) (t : TypeId) (hop : o.op = Op.makeSlice t l c)
    (B : Nat) (e : TypeId) (i : TypeInfo) (z : Value) (bytes : Nat) (ht : P.underlying t = some (.slice e)) (hi : P.info? e = some i) (hz : i.zero = some z) (hsize : i.size = 1) (hby : i.bytes = bytes)
    (W0 : World) (hB : Below B W0 w) (hsz : B ≤ w.heap.size) (C : Int) (n : Nat) (hl : a.eval l = .int .i64 0) (hc : a.eval c = .int .i64 C) (hC : C = (n : Int)) (hb : bytes * n ≤ 281474976710656) (h63 : n ≤ maxLen)
    (h : ∀ ao w', Own B e ao 0 n [] W0 w' → wpList P ops Q rest (a.put o.dst (.slice ao 0 n)) w') : wpList P ops Q (o :: rest) a w := by
  refine wpList_make_own w hg l c t hop B e i z 1 ht hi hz hsize .i64 .i64 C n hl hc hC (by rw [hby]; exact hb) h63 hsz ?_
  intro w' ho hgr
  exact h _ w' ⟨ho, hB.grown hgr hsz (by simp), Nat.le_trans hsz hgr.size⟩

/-- 'string(b)', b such a slice of bytes. -/
theorem run_own_string {B : Nat} {e : TypeId} {ao : Option Addr} {n cap : Nat} {l : List UInt8} {W0 w : World} (h : Own B e ao n cap (l.map fun b => Value.int .u8 b.toNat) W0 w) (src dst : TypeId)
    (hs : P.underlying src = some (.slice e)) (he : P.underlying e = some (.int .u8)) (hd : P.underlying dst = some .string) :
    (convert src dst (.slice ao n cap)).run P w = .ok (.string ⟨l.toArray⟩) w := by
  have hln := h.len
  simp only [List.length_map] at hln
  by_cases hn : 0 < n
  · obtain ⟨g, rfl, _, _, _, _, hc⟩ := h.at hn
    rw [run_convert_bytes_arg w src e hs he g 0 n cap (l.map fun b => (b.toNat : Int)) (by simpa using hln) ?_ dst hd]
    · congr 1
      simp only [strOfNums, List.map_map]
      congr 3
      have : l.map ((fun n : Int => UInt8.ofNat n.toNat) ∘ fun b : UInt8 => (b.toNat : Int)) = l.map id := by
        apply List.map_congr_left
        intro b _
        simp
      rw [this, List.map_id]
    · intro j hj
      rw [Nat.zero_add, hc j hj]
      simp [show j < l.length by omega]
  · have hl0 : l = [] := List.eq_nil_of_length_eq_zero (by omega)
    have hn0 : n = 0 := by omega
    subst hl0 hn0
    cases ao with
    | none => rw [run_convert_bytes_nil w src e hs he _ _ dst hd]; rfl
    | some ad =>
      rcases h.1.2 with ⟨h0, _⟩ | ⟨g, c, cur, hv, _⟩
      · simp at h0
      · simp only [Value.slice.injEq, Option.some.injEq, true_and] at hv
        obtain ⟨rfl, rfl⟩ := hv
        rw [run_convert_bytes_arg w src e hs he g 0 0 cap [] rfl (by simp) dst hd]; rfl
end
end Go.Proofs.Qxb6002372a
