/-
  A region that draws its order, walked by hand: small laws. And what is known of the law's arguments.
-/
import Derived.Test.Qxb6002372aVarLists
import Derived.Deep.RegionHeldLaw
namespace Go.Proofs.Qxb6002372a
open Go.RowKit

section
variable {P : Program} {ops : Array Oper} {S : World → Prop} {o : Oper} {a : Act}

theorem yi_move (x : Operand) (ho : o.op = .move x) {v : Value} (hv : a.eval x = v) (hw : Region.wanted o (yielded ops a.tmps) = true) : YieldsIf P ops S o v a :=
  .inl ⟨hw, fun w _ => by unfold execOp; simp only [ho, hv]; rfl⟩
theorem yi_index (t : TypeId) (x y : Operand) (ho : o.op = .indexAddr t x y) {u i v : Value} (hx : a.eval x = u) (hy : a.eval y = i) (hr : ∀ w, (Instr.indexAt t u i).run P w = .ok v w) (hw : Region.wanted o (yielded ops a.tmps) = true) : YieldsIf P ops S o v a :=
  .inl ⟨hw, fun w _ => by unfold execOp; simp only [ho, hx, hy, Sem.run_bind, hr, Result.andThen_ok, Sem.run_pure]⟩
theorem yi_load (t : TypeId) (x : Operand) (ho : o.op = .load t x) {p : Addr} {v : Value} (hx : a.eval x = .pointer (some p)) (hr : ∀ w, S w → (loadVar t p).run P w = .ok v w) (hw : Region.wanted o (yielded ops a.tmps) = true) : YieldsIf P ops S o v a :=
  .inl ⟨hw, fun w h => by unfold execOp; simp only [ho, hx, Instr.loadAt, Instr.sureAddr, Sem.run_bind, Sem.run_pure, Result.andThen_ok, hr w h]⟩
theorem yi_convert (s d : TypeId) (x : Operand) (ho : o.op = .convert s d x) {u v : Value} (hx : a.eval x = u) (hr : ∀ w, (convert s d u).run P w = .ok v w) (hw : Region.wanted o (yielded ops a.tmps) = true) : YieldsIf P ops S o v a :=
  .inl ⟨hw, fun w _ => by unfold execOp; simp only [ho, hx, Sem.run_bind, hr, Result.andThen_ok, Sem.run_pure]⟩
theorem yi_build (t : TypeId) (parts : Array (Nat × Operand)) (ho : o.op = .build t parts) (ps : List (Nat × Value)) (hp : parts.toList.map (fun p => (p.1, a.eval p.2)) = ps) {cs : List Value} (hb : P.built t ps = some cs.toArray)
    (hw : Region.wanted o (yielded ops a.tmps) = true) : YieldsIf P ops S o (.agg cs.toArray) a :=
  .inl ⟨hw, fun w _ => by
    have hb' : P.built t (parts.map fun (i, x) => (i, a.eval x)).toList = some cs.toArray := by rw [Array.toList_map, ← hb, ← hp]
    unfold execOp
    simp only [ho, Sem.run_bind, run_build w t _ _ hb', Result.andThen_ok, Sem.run_pure]⟩
theorem yi_nil (x : Operand) (ho : o.op = .nilCheck x) {p : Addr} (hx : a.eval x = .pointer (some p)) (hw : Region.wanted o (yielded ops a.tmps) = true) : YieldsIf P ops S o (.pointer (some p)) a :=
  .inl ⟨hw, fun w _ => by unfold execOp; simp only [ho, hx]; rfl⟩
theorem yi_not (t : TypeId) (x : Operand) (ho : o.op = .unOp .not t x) {b : Bool} (hx : a.eval x = .bool b) {c : Bool} (hc : (!b) = c) (hw : Region.wanted o (yielded ops a.tmps) = true) : YieldsIf P ops S o (.bool c) a :=
  .inl ⟨hw, fun w _ => by unfold execOp; subst hc; simp only [ho, hx]; rfl⟩
theorem yi_pick (c x y : Operand) (ho : o.op = .pick c x y) {b : Bool} (hc : a.eval c = .bool b) {v : Value} (hv : (if b then a.eval x else a.eval y) = v) (hw : Region.wanted o (yielded ops a.tmps) = true) : YieldsIf P ops S o v a :=
  .inl ⟨hw, fun w _ => by unfold execOp; subst hv; simp only [ho, hc]; cases b <;> rfl⟩
theorem yi_field (t : TypeId) (x : Operand) (i : Nat) (ho : o.op = .fieldAddr t x i) {u v : Value} (hx : a.eval x = u) (hr : ∀ w, (Instr.fieldAt t u i).run P w = .ok v w) (hw : Region.wanted o (yielded ops a.tmps) = true) : YieldsIf P ops S o v a :=
  .inl ⟨hw, fun w _ => by unfold execOp; simp only [ho, hx, Sem.run_bind, hr, Result.andThen_ok, Sem.run_pure]⟩
theorem yi_skip {v : Value} (hv : v = undef) (hw : Region.wanted o (yielded ops a.tmps) = false) : YieldsIf P ops S o v a := .inr ⟨hw, hv⟩
theorem yi_run {v : Value} (hr : ∀ w, S w → (execOp a.eval o).run P w = .ok (.value v) w) (hw : Region.wanted o (yielded ops a.tmps) = true) : YieldsIf P ops S o v a := .inl ⟨hw, hr⟩
end

/-- Operation number i, which writes slot d, is taken first. -/
theorem held_take {P : Program} {ops : Array Oper} {Q : Exit → Act → World → Prop} {md : Region.Mode} {S : World → Prop} {fuel : Nat} {listed : Array Bool} {a : Act} {w : World} (i : Nat) (d : Tmp) (v : Value) {oi : Oper} (hi : ops[i]? = some oi) (hd : oi.dst = some d)
    (hs : Region.noSelect ops = true) (hf : Region.free md ops listed i = true) (hr : (Region.ready md ops listed).contains i = true)
    (hQ : ∀ c a w, Q (.panic c) (a.put (some d) v) w → Q (.panic c) a w) (hy : YieldsIf P ops S oi v a) (hS : S w)
    (h : wpAnyH P md ops Q S fuel (listed.setIfInBounds i true) (a.put (some d) v) w) : wpAnyH P md ops Q S (fuel + 1) listed a w := by
  rw [← hd] at hQ h
  exact wpAnyH_take hi hs hf hr hQ hy hS h

/-- The last operation is a store. -/
theorem held_last_store {P : Program} {ops : Array Oper} {Q : Exit → Act → World → Prop} {md : Region.Mode} {S : World → Prop} {fuel : Nat} {listed : Array Bool} {a : Act} {w : World} (i : Nat) {oi : Oper} (hi : ops[i]? = some oi) (hd : oi.dst = none)
    (hr : Region.ready md ops listed = [i]) (ty : TypeId) (x y : Operand) (ho : oi.op = .store ty x y) (p : Addr) (hx : a.eval x = .pointer (some p)) (v : Value) (hy : a.eval y = v) (w' : World) (hrun : (storeVar ty p v).run P w = .ok () w')
    (hw : Region.wanted oi (yielded ops a.tmps) = true) (hS : S w') (hfin : Region.ready md ops (listed.setIfInBounds i true) = []) (h : Q .normal a w') : wpAnyH P md ops Q S (fuel + 1) listed a w := by
  refine wpAnyH_ready (rs := [i]) hr (by simp) (AllReadyH.cons hi (fun K hK => ?_) AllReadyH.nil)
  rw [if_pos hw]
  unfold Oper.wp execOp
  simp only [ho, hx, hy, Instr.storeAt, Instr.sureAddr, Sem.run_bind, Sem.run_pure, Result.andThen_ok, hrun]
  refine hK.out _ _ hS (fun _ => wpAnyH_done hfin ?_ _)
  rw [hd]
  exact h

section
variable {P : Program} {ops : Array Oper} {Q : Exit → Act → World → Prop} {md : Region.Mode} {S : World → Prop} {fuel : Nat} {listed : Array Bool} {a : Act} {w : World}
/-- Operation number i alone may come up. -/
theorem held_one (i : Nat) {oi : Oper} (hi : ops[i]? = some oi) (hr : Region.ready md ops listed = [i]) (hw : Region.wanted oi (yielded ops a.tmps) = true)
    (h : ∀ K : Act → World → Prop, (∀ a' w', S w' → wpAnyH P md ops Q S fuel (listed.setIfInBounds i true) a' w' → K a' w') → oi.wp P a w K Q) : wpAnyH P md ops Q S (fuel + 1) listed a w := by
  refine wpAnyH_ready (rs := [i]) hr (by simp) (AllReadyH.cons hi (fun K hK => ?_) AllReadyH.nil)
  rw [if_pos hw]
  exact h K (fun a' w' hS hW => hK.out a' w' hS (fun _ => hW))
/-- One of two may come up. -/
theorem held_two (i j : Nat) {oi oj : Oper} (hi : ops[i]? = some oi) (hj : ops[j]? = some oj) (hr : Region.ready md ops listed = [i, j]) (hw : Region.wanted oi (yielded ops a.tmps) = true) (hw' : Region.wanted oj (yielded ops a.tmps) = true)
    (h : ∀ K : Act → World → Prop, (∀ a' w', S w' → wpAnyH P md ops Q S fuel (listed.setIfInBounds i true) a' w' → K a' w') → oi.wp P a w K Q)
    (h' : ∀ K : Act → World → Prop, (∀ a' w', S w' → wpAnyH P md ops Q S fuel (listed.setIfInBounds j true) a' w' → K a' w') → oj.wp P a w K Q) : wpAnyH P md ops Q S (fuel + 1) listed a w := by
  refine wpAnyH_ready (rs := [i, j]) hr (by simp) (AllReadyH.cons hi (fun K hK => ?_) (AllReadyH.cons hj (fun K hK => ?_) AllReadyH.nil))
  · rw [if_pos hw]
    exact h K (fun a' w' hS hW => hK.out a' w' hS (fun _ => hW))
  · rw [if_pos hw']
    exact h' K (fun a' w' hS hW => hK.out a' w' hS (fun _ => hW))

/-- A call whose contract is known. -/
theorem wp_fn {o : Oper} {K : Act → World → Prop} (f : FuncId) (vs : Array Value) (hrun : (execOp a.eval o).run P w = .ok (.enter f vs) w) (d : Tmp) (hd : o.dst = some d)
    {R : Ending → World → Prop} (hc : Calls P f vs w R) (h : ∀ e w', R e w' → ∃ v, e = .returned v ∧ K (a.put (some d) v) w') : o.wp P a w K Q := by
  unfold Oper.wp
  rw [hrun, Oper.upon_enter]
  refine hc.mono fun e w' hR => ?_
  obtain ⟨v, rfl, hK⟩ := h e w' hR
  rw [hd]
  exact hK
/-- An operation whose outcome is known. -/
theorem wp_run {o : Oper} {K : Act → World → Prop} (v : Value) {w' : World} (hrun : (execOp a.eval o).run P w = .ok (.value v) w') (d : Tmp) (hd : o.dst = some d) (h : K (a.put (some d) v) w') : o.wp P a w K Q := by
  unfold Oper.wp
  rw [hrun, Oper.upon_value, hd]
  exact h
end

/-- A wide value, loaded from whatever address. -/
theorem run_ldg {P : Program} (w : World) (p : Addr) (ty : TypeId) (cs : List Value) (d : TypeDesc) (hc : ∀ j v, cs[j]? = some v → w.cell? (p.add j) = some v)
    (hu : P.underlying ty = some d) (hd : d.isRow = true) (hi : (P.info? ty).map (·.size) = some cs.length) : (loadVar ty p).run P w = .ok (.agg cs.toArray) w := by
  have hl : (loadCells p cs.length).run P w = .ok cs.toArray w := run_loadCells_list (P := P) w p cs hc
  cases hq : P.info? ty with
  | none => simp [hq] at hi
  | some i =>
    have hs : i.size = cs.length := by simpa [hq] using hi
    have hagg : (isAgg ty).run P w = .ok true w := by
      unfold isAgg
      rw [Sem.run_bind, run_underlying hu w]
      cases d <;> simp_all
    simp [loadVar, Sem.run_bind, hagg, sizeOf, typeInfo, hq, hs, hl]

theorem add_blk (x : Addr) (j : Nat) : (x.add j).block = x.block := by unfold Addr.add; split <;> rfl

/-- The slice's n elements are the GUIDs G 0, G 1, .. -/
def GuidsAt (w : World) (ao : Option Addr) (n : Nat) (G : Nat → List Int) : Prop := ∀ i, i < n → ∃ y, ao = some y ∧ ∀ j v, (gcells (G i))[j]? = some v → w.cell? ((y.add (i * 16)).add j) = some v
/-- The slice's n elements are the bytes T 0, T 1, .. -/
def BytesAt (w : World) (ao : Option Addr) (n : Nat) (T : Nat → Int) : Prop := ∀ i, i < n → ∃ z, ao = some z ∧ w.cell? (z.add i) = some (.int .u8 (T i))

theorem cell_below {w w' : World} (h : Below w.heap.size w w') {p : Addr} {v : Value} (hc : w.cell? p = some v) : w'.cell? p = some v :=
  (World.cell?_of_block (h.block p.block (World.block_lt_of_cell? w p hc))).trans hc

theorem conv32 (k : Nat) (hk : k < 4294967296) (w : World) : (convert 3 55 (.int .i64 (k : Int))).run Try.prog w = .ok (.int .u32 k) w := by
  have e : IntKind.u32.wrap (k : Int) = k := by simp [IntKind.wrap, IntKind.signed, IntKind.bits]; omega
  simp [convert, run_underlying Try.underlying3, run_underlying Try.underlying55, Conv.intToInt, e]

end Go.Proofs.Qxb6002372a
