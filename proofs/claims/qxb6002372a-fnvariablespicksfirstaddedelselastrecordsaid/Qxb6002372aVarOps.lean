/-
  Loads, stores, boxes and builds of wide values, at the operation: for the walk. No Go function is named here.
-/
import Derived.Test.Qxb6002372aVarCells
import Derived.Test.Qxb6002372aVarBytes
import Derived.BigFrame
namespace Go.Proofs.Qxb6002372a
open Go.RowKit

section
variable {P : Program} {ops : Array Oper} {rest : List Oper} {o : Oper} {a : Act} {Q : Exit → Act → World → Prop} {w : World}

theorem run_ld (b off : Nat) (ty : TypeId) (cs : List Value) (d : TypeDesc) (hc : w.rangeAt b off cs) (hu : P.underlying ty = some d) (hd : d.isRow = true) (hi : (P.info? ty).map (·.size) = some cs.length) :
    (loadVar ty ⟨b, off, none⟩).run P w = .ok (.agg cs.toArray) w := run_loadVar_mid w b off ty cs d hc hu hd hi

/-- A load whose outcome is known. -/
theorem wpList_ld (ty : TypeId) (x : Operand) (ho : o.op = .load ty x) (p : Addr) (hx : a.eval x = .pointer (some p)) {v : Value} (hr : (loadVar ty p).run P w = .ok v w)
    (hw : Region.wanted o (yielded ops a.tmps) = true) (h : wpList P ops Q rest (a.put o.dst v) w) : wpList P ops Q (o :: rest) a w :=
  BigFrame.wpList_want hw fun K hK => by
    unfold Oper.wp execOp
    simp only [ho, hx, Instr.loadAt, Instr.sureAddr, Sem.run_bind, Sem.run_pure, Result.andThen_ok, hr]
    exact hK _ _ h

/-- A store whose outcome is known. -/
theorem wpList_st (ty : TypeId) (x y : Operand) (ho : o.op = .store ty x y) (p : Addr) (hx : a.eval x = .pointer (some p)) {v : Value} (hy : a.eval y = v) {w' : World} (hr : (storeVar ty p v).run P w = .ok () w')
    (hw : Region.wanted o (yielded ops a.tmps) = true) (h : wpList P ops Q rest (a.put o.dst undef) w') : wpList P ops Q (o :: rest) a w :=
  BigFrame.wpList_want hw fun K hK => by
    unfold Oper.wp execOp
    simp only [ho, hx, hy, Instr.storeAt, Instr.sureAddr, Sem.run_bind, Sem.run_pure, Result.andThen_ok, hr]
    exact hK _ _ h

/-- A struct made out of its parts. -/
theorem wpList_bd (t : TypeId) (parts : Array (Nat × Operand)) (ho : o.op = .build t parts) (ps : List (Nat × Value)) (hp : parts.toList.map (fun p => (p.1, a.eval p.2)) = ps) (cs : List Value) (hb : P.built t ps = some cs.toArray)
    (hw : Region.wanted o (yielded ops a.tmps) = true) (h : wpList P ops Q rest (a.put o.dst (.agg cs.toArray)) w) : wpList P ops Q (o :: rest) a w :=
  BigFrame.wpList_want hw fun K hK => by
    have hb' : P.built t (parts.map fun (i, x) => (i, a.eval x)).toList = some cs.toArray := by rw [Array.toList_map, ← hb, ← hp]
    refine wp_build t parts ho (by rw [hb']; rfl) ?_
    rw [hb']
    exact hK _ _ h

theorem rangeAt_new (w : World) (cs : List Value) (t : TypeId) : (w.alloc (.cells cs.toArray t)).rangeAt w.heap.size 0 cs := fun j v hv => by
  rw [Nat.zero_add, cell_of_row _ _ j cs.toArray t (0, 0) (heap_alloc_new w _)]
  simpa using hv

theorem below_new (w : World) (o : Obj) : Below w.heap.size w (w.alloc o) := (Below.refl _ _).alloc (Nat.le_refl _) o

/-- A parameter that lies in a box of its own. -/
theorem wpList_bx (ty : TypeId) (x : Operand) (ho : o.op = .box ty x) (cs : List Value) (hx : a.eval x = .agg cs.toArray)
    (hw : Region.wanted o (yielded ops a.tmps) = true)
    (h : ∀ g w', Hid (g = w.heap.size ∧ w'.heap.size = w.heap.size + 1) → w'.rangeAt g 0 cs → Below w.heap.size w w' → wpList P ops Q rest (a.put o.dst (.pointer (some ⟨g, 0, none⟩))) w') : wpList P ops Q (o :: rest) a w :=
  BigFrame.wpList_want hw fun K hK => by
    unfold Oper.wp execOp
    simp [ho, hx, Instr.box, newVar, newRow, Value.cells, Result.andThen]
    exact hK _ _ (h _ _ ⟨rfl, by simp⟩ (rangeAt_new w cs ty) (below_new w _))

/-- A new variable of a wide type: what lies in it is nobody's concern till it is stored into. -/
theorem wpList_al (ty : TypeId) (ho : o.op = .alloc ty) (z : Array Value) (hz : ∀ w, (zeroValue ty).run P w = .ok (.agg z) w)
    (hw : Region.wanted o (yielded ops a.tmps) = true)
    (h : ∀ g w', Hid (g = w.heap.size ∧ w'.heap.size = w.heap.size + 1) → Rw w' g ty z.size 0 1 (fun _ => []) → Below w.heap.size w w' → wpList P ops Q rest (a.put o.dst (.pointer (some ⟨g, 0, none⟩))) w') : wpList P ops Q (o :: rest) a w :=
  BigFrame.wpList_want hw fun K hK => by
    unfold Oper.wp execOp
    simp [ho, Instr.alloc, hz, newVar, newRow, Value.cells, Result.andThen]
    exact hK _ _ (h _ _ ⟨rfl, by simp⟩ ⟨⟨_, heap_alloc_new w _, by simp⟩, Nat.zero_le _, fun i hi => by omega, fun i hi => by omega⟩ (below_new w _))

/-- The next element is stored, as the walk meets it. -/
theorem run_st {g : Nat} {e : TypeId} {sz n N : Nat} {f : Nat → List Value} (h : Rw w g e sz n N f) (hn : n < N) (ty : TypeId) (cs : List Value) (hl : cs.length = sz) (h1 : ∀ v ∈ cs, v.oneCell' = true) (hi : (P.info? ty).map (·.size) = some sz) :
    (storeVar ty ⟨g, n * sz, none⟩ (.agg cs.toArray)).run P w = .ok () (w.setCells g (n * sz) cs) := by
  have := run_storeVar_mid (P := P) w g (n * sz) ty cs.toArray (by simpa [hl] using h.there hn) (by simpa [hl] using hi) (all_oneCell_toArray h1)
  simpa using this

/-- The store of the next element, at the operation. -/
theorem wpList_stn (ty : TypeId) (x y : Operand) (ho : o.op = .store ty x y) (g n sz : Nat) (cs : List Value) (hx : a.eval x = .pointer (some ⟨g, n * sz, none⟩)) (hy : a.eval y = .agg cs.toArray)
    {e : TypeId} {N : Nat} {f : Nat → List Value} (hr : Rw w g e sz n N f) (hn : n < N) (hl : cs.length = sz) (h1 : ∀ v ∈ cs, v.oneCell' = true) (hi : (P.info? ty).map (·.size) = some sz)
    (hw : Region.wanted o (yielded ops a.tmps) = true) (h : wpList P ops Q rest (a.put o.dst undef) (w.setCells g (n * sz) cs)) : wpList P ops Q (o :: rest) a w :=
  wpList_st ty x y ho _ hx hy (run_st hr hn ty cs hl h1 hi) hw h

/-- The load of a part of a block, at the operation. -/
theorem wpList_ldn (ty : TypeId) (x : Operand) (ho : o.op = .load ty x) (g off : Nat) (cs : List Value) (d : TypeDesc) (hx : a.eval x = .pointer (some ⟨g, off, none⟩)) (hc : w.rangeAt g off cs) (hu : P.underlying ty = some d) (hd : d.isRow = true)
    (hi : (P.info? ty).map (·.size) = some cs.length) (hw : Region.wanted o (yielded ops a.tmps) = true) (h : wpList P ops Q rest (a.put o.dst (.agg cs.toArray)) w) : wpList P ops Q (o :: rest) a w :=
  wpList_ld ty x ho _ hx (run_ld g off ty cs d hc hu hd hi) hw h
end

end Go.Proofs.Qxb6002372a
