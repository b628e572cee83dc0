/-
  More laws at the operation: a fresh variable, its first store, a look-up whose outcome is known.
-/
import Derived.Test.Qxb6002372aVarVars
import Derived.Test.Qxb6002372aVarMap
namespace Go.Proofs.Qxb6002372a
open Go.RowKit

theorem grownBy_setCells (g : Nat) : ∀ (vs : List Value) (o : Nat) (w : World), w.grownBy (w.setCells g o vs) (some g)
  | [], _, w => ⟨rfl, rfl, rfl, Nat.le_refl _, fun _ _ _ => rfl⟩
  | v :: r, o, w => by
    have ih := grownBy_setCells g r (o + 1) (w.setCell ⟨g, o, none⟩ v)
    rw [World.setCells]
    refine ⟨ih.os, ih.tape, ih.output, Nat.le_trans (by simp [World.setCell]) ih.size, fun k hk hne => ?_⟩
    rw [ih.block k (by simpa [World.setCell] using hk) hne]
    exact Below.heap_setCell _ _ _ _ (fun e => hne (by rw [e]))

theorem below_of_grown {w w' : World} {row : Option Nat} (h : w.grownBy w' row) {B : Nat} (hr : ∀ k, row = some k → B ≤ k) (hB : B ≤ w.heap.size) : Below B w w' := (Below.refl B w).grown h hB hr

section
variable {P : Program} {ops : Array Oper} {rest : List Oper} {o : Oper} {a : Act} {Q : Exit → Act → World → Prop} {w : World}

theorem wpList_alG (ty : TypeId) (ho : o.op = .alloc ty) (z : Array Value) (hz : ∀ w, (zeroValue ty).run P w = .ok (.agg z) w)
    (hw : Region.wanted o (yielded ops a.tmps) = true)
    (h : ∀ g w', Hid (g = w.heap.size ∧ w'.heap.size = w.heap.size + 1) → Rw w' g ty z.size 0 1 (fun _ => []) → w.grownBy w' none → wpList P ops Q rest (a.put o.dst (.pointer (some ⟨g, 0, none⟩))) w') : wpList P ops Q (o :: rest) a w :=
  BigFrame.wpList_want hw fun K hK => by
    unfold Oper.wp execOp
    simp [ho, Instr.alloc, hz, newVar, newRow, Value.cells, Result.andThen]
    exact hK _ _ (h _ _ ⟨rfl, by simp⟩ ⟨⟨_, heap_alloc_new w _, by simp⟩, Nat.zero_le _, fun i hi => by omega, fun i hi => by omega⟩ (World.grownBy_alloc w _ none))

/-- The first store into a fresh variable. -/
theorem wpList_st0 (ty : TypeId) (x y : Operand) (ho : o.op = .store ty x y) (g sz : Nat) (cs : List Value) (hx : a.eval x = .pointer (some ⟨g, 0, none⟩)) (hy : a.eval y = .agg cs.toArray)
    {e : TypeId} {f : Nat → List Value} (hr : Rw w g e sz 0 1 f) (hl : cs.length = sz) (h1 : ∀ v ∈ cs, v.oneCell' = true) (hi : (P.info? ty).map (·.size) = some sz)
    (hw : Region.wanted o (yielded ops a.tmps) = true)
    (h : ∀ w', w'.rangeAt g 0 cs → w.grownBy w' (some g) → Hid (w'.heap.size = w.heap.size) → wpList P ops Q rest (a.put o.dst undef) w') : wpList P ops Q (o :: rest) a w := by
  refine wpList_st ty x y ho _ hx hy (w' := w.setCells g 0 cs) ?_ hw (h _ ?_ (grownBy_setCells g cs 0 w) (size_setCells g cs 0 w))
  · have := run_st (P := P) hr (by omega) ty cs hl h1 hi
    simpa using this
  · have := hr.there (k := 0) (by omega)
    rw [Nat.zero_mul] at this
    exact World.rangeAt_setCells_same w g 0 cs (by rw [hl]; exact this)

/-- 'v, ok := m[k]', both known. -/
theorem wpList_look {H : Type} (m x : Operand) (t : TypeId) (hop : o.op = Op.lookup t m x true) (hg : o.guard = none)
    (k e : TypeId) (q : IntKind) (K : Maps.Keyed P k) (ht : P.underlying t = some (.map k e)) (he : P.underlying e = some (.int q)) (hz : (zeroValue e).run P w = .ok (.int q 0) w) (b n : Nat) (D : DataW H)
    (hm : a.eval m = .map (some b)) (hown : w.ownsMap P k (plainElem P e) b n D) (key : Value) (kl : Lit) (hx : a.eval x = key) (hkey : keyOf P k key = some kl)
    (c : Int) (f : Bool) (hat : D.atKey kl (.lit (.int q 0)) = .lit (.int q c)) (hf : Maps.has D kl = f)
    (h : wpList P ops Q rest (a.put o.dst (.tuple #[.int q c, .bool f])) w) : wpList P ops Q (o :: rest) a w := by
  refine wpList_lookup_own_ok_int w hg m x t hop k e q K ht he hz b n D hm hown key kl hx hkey fun c' hc' _ => ?_
  rw [hat] at hc'
  obtain rfl : c = c' := by simpa using hc'
  rw [hf]
  exact h
end

end Go.Proofs.Qxb6002372a
