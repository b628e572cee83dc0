/-
  Rows of wide elements in one block: 'Rw'. No Go function is named here.
-/
import Derived.Test.Qxb6002372aOwn
import Derived.Deep.MidRow
import Derived.Laws.OwnMore
namespace Go.Proofs.Qxb6002372a
open Go.RowKit

section
variable {P : Program}

theorem heap_setCells_other (b : Nat) : ∀ (vs : List Value) (o : Nat) (w : World) (k : Nat), k ≠ b → (w.setCells b o vs).heap[k]? = w.heap[k]?
  | [], _, _, _, _ => rfl
  | v :: r, o, w, k, h => by
    rw [World.setCells, heap_setCells_other b r (o + 1) _ k h]
    exact Below.heap_setCell _ _ _ _ h

theorem size_setCells (b : Nat) : ∀ (vs : List Value) (o : Nat) (w : World), (w.setCells b o vs).heap.size = w.heap.size
  | [], _, _ => rfl
  | v :: r, o, w => by rw [World.setCells, size_setCells b r]; simp [World.setCell]

theorem below_setCells {B : Nat} {a : World} (b : Nat) (hb : B ≤ b) : ∀ (vs : List Value) (o : Nat) (w : World), Below B a w → Below B a (w.setCells b o vs)
  | [], _, _, h => h
  | v :: r, o, w, h => by rw [World.setCells]; exact below_setCells b hb r (o + 1) _ (h.setCell hb v)

theorem heap_setCell_same {w : World} {b : Nat} {cur : Array Value} {e : TypeId} {fr : Nat × Nat} (h : w.heap[b]? = some (.cells cur e fr)) (o : Nat) (v : Value) :
    ∃ cur', (w.setCell ⟨b, o, none⟩ v).heap[b]? = some (.cells cur' e fr) ∧ cur'.size = cur.size := by
  refine ⟨_, by simp only [World.setCell, Array.getElem?_modify, ↓reduceIte, h, Option.map_some]; rfl, by simp⟩

theorem heap_setCells_same {b : Nat} {e : TypeId} {fr : Nat × Nat} : ∀ (vs : List Value) (o : Nat) (w : World) (cur : Array Value), w.heap[b]? = some (.cells cur e fr) →
    ∃ cur', (w.setCells b o vs).heap[b]? = some (.cells cur' e fr) ∧ cur'.size = cur.size
  | [], _, _, cur, h => ⟨cur, h, rfl⟩
  | v :: r, o, w, cur, h => by
    obtain ⟨c1, h1, e1⟩ := heap_setCell_same h o v
    obtain ⟨c2, h2, e2⟩ := heap_setCells_same r (o + 1) _ c1 h1
    exact ⟨c2, h2, e2.trans e1⟩

/-- In block g there is room for N elements of sz cells; the first n of them are f 0, f 1, .. -/
structure Rw (w : World) (g : Nat) (e : TypeId) (sz n N : Nat) (f : Nat → List Value) : Prop where
  blk : ∃ cur : Array Value, w.heap[g]? = some (.cells cur e (0, 0)) ∧ N * sz ≤ cur.size
  le : n ≤ N
  len : ∀ i, i < n → (f i).length = sz
  range : ∀ i, i < n → w.rangeAt g (i * sz) (f i)

section
variable {w w' : World} {g : Nat} {e : TypeId} {sz n N : Nat} {f : Nat → List Value}

theorem Rw.lt (h : Rw w g e sz n N f) : g < w.heap.size := by
  obtain ⟨cur, hc, _⟩ := h.blk
  exact (Array.getElem?_eq_some_iff.1 hc).1

theorem rangeAt_of_heap {b o : Nat} {cs : List Value} (h : w.rangeAt b o cs) (hb : w'.heap[b]? = w.heap[b]?) : w'.rangeAt b o cs := fun j v hv => by
  rw [World.cell?_of_block (w := w) (w' := w') (a := ⟨b, o + j, none⟩) hb]
  exact h j v hv

theorem Rw.of_heap (h : Rw w g e sz n N f) (hb : w'.heap[g]? = w.heap[g]?) : Rw w' g e sz n N f := by
  obtain ⟨cur, hc, hs⟩ := h.blk
  exact ⟨⟨cur, hb.trans hc, hs⟩, h.le, h.len, fun i hi => rangeAt_of_heap (h.range i hi) hb⟩

theorem Rw.below {B : Nat} (h : Rw w g e sz n N f) (hb : Below B w w') (hg : g < B) : Rw w' g e sz n N f := h.of_heap (hb.block g hg)

theorem Rw.later (h : Rw w g e sz n N f) (hb : Below w.heap.size w w') : Rw w' g e sz n N f := h.below hb h.lt

theorem Rw.alloc (h : Rw w g e sz n N f) (o : Obj) : Rw (w.alloc o) g e sz n N f := h.of_heap (Below.heap_alloc w o g h.lt)

theorem Rw.setFar (h : Rw w g e sz n N f) {b : Nat} (hb : g ≠ b) (o : Nat) (vs : List Value) : Rw (w.setCells b o vs) g e sz n N f := h.of_heap (heap_setCells_other b vs o w g hb)

theorem Rw.setFar1 (h : Rw w g e sz n N f) {a : Addr} (hb : g ≠ a.block) (v : Value) : Rw (w.setCell a v) g e sz n N f := h.of_heap (Below.heap_setCell _ _ _ _ hb)

theorem Rw.congr {f' : Nat → List Value} (h : Rw w g e sz n N f) (hf : ∀ i, i < n → f i = f' i) : Rw w g e sz n N f' :=
  ⟨h.blk, h.le, fun i hi => by rw [← hf i hi]; exact h.len i hi, fun i hi => by rw [← hf i hi]; exact h.range i hi⟩

theorem Rw.there (h : Rw w g e sz n N f) {k : Nat} (hk : k < N) : w.there g (k * sz) sz := fun j hj => by
  obtain ⟨cur, hc, hs⟩ := h.blk
  have hlt : k * sz + j < cur.size := by
    have : (k + 1) * sz ≤ N * sz := Nat.mul_le_mul_right _ hk
    rw [Nat.add_mul, Nat.one_mul] at this
    omega
  refine ⟨?_, frozen_of_row w g _ cur e hc⟩
  rw [cell_of_row w g _ cur e (0, 0) hc, Array.getElem?_eq_getElem hlt]
  rfl

/-- The next element is stored. -/
theorem Rw.store (h : Rw w g e sz n N f) (hn : n < N) (hl : (f n).length = sz) : Rw (w.setCells g (n * sz) (f n)) g e sz (n + 1) N f := by
  have ht := h.there hn
  obtain ⟨cur, hc, hs⟩ := h.blk
  obtain ⟨c1, h1, e1⟩ := heap_setCells_same (f n) (n * sz) w cur hc
  refine ⟨⟨c1, h1, by rw [e1]; exact hs⟩, hn, fun i hi => ?_, fun i hi => ?_⟩
  · by_cases e : i = n
    · rw [e]; exact hl
    · exact h.len i (by omega)
  · by_cases e : i = n
    · subst e
      exact World.rangeAt_setCells_same w g _ _ (by rw [hl]; exact ht)
    · have hi' : i < n := by omega
      refine World.rangeAt_setCells_apart (h.range i hi') g _ _ (.inr (.inl ?_))
      rw [h.len i hi']
      have : (i + 1) * sz ≤ n * sz := Nat.mul_le_mul_right _ (by omega)
      rw [Nat.add_mul, Nat.one_mul] at this
      exact this

/-- .. of one cell. -/
theorem Rw.store1 (h : Rw w g e 1 n N f) (hn : n < N) {v : Value} (hf : f n = [v]) : Rw (w.setCell ⟨g, n, none⟩ v) g e 1 (n + 1) N f := by
  have := h.store hn (by rw [hf]; rfl)
  rw [hf, Nat.mul_one] at this
  exact this

theorem Rw.cell (h : Rw w g e sz n N f) {i : Nat} (hi : i < n) {j : Nat} {v : Value} (hv : (f i)[j]? = some v) : w.cell? ⟨g, i * sz + j, none⟩ = some v := h.range i hi j v hv

theorem Rw.cell1 (h : Rw w g e 1 n N f) {i : Nat} (hi : i < n) {v : Value} (hv : f i = [v]) : w.cell? ⟨g, i, none⟩ = some v := by
  have := h.cell hi (j := 0) (v := v) (by rw [hv]; rfl)
  simpa using this

theorem Rw.free (h : Rw w g e 1 n N f) {i : Nat} (hi : i < N) : w.frozen? ⟨g, i, none⟩ = false := by
  have := (h.there hi 0 (by omega)).2
  simpa using this

theorem Rw.is (h : Rw w g e 1 n N f) {i : Nat} (hi : i < N) : ∃ u, w.cell? ⟨g, i, none⟩ = some u := by
  have := (h.there hi 0 (by omega)).1
  simpa using Option.isSome_iff_exists.1 this

/-- A part of a range. -/
theorem rangeAt_part {b o : Nat} {cs : List Value} (h : w.rangeAt b o cs) (k m : Nat) : w.rangeAt b (o + k) ((cs.drop k).take m) := fun j v hv => by
  rw [Nat.add_assoc]
  refine h (k + j) v ?_
  rw [List.getElem?_take] at hv
  split at hv
  · rwa [List.getElem?_drop] at hv
  · cases hv

/-- Out of what append and make keep. -/
theorem Rw.of_owns {B : Nat} {ao : Option Addr} {cap : Nat} {f : Nat → List Value} {m : Nat} (hn : 0 < m) (hl : ∀ i, i < m → (f i).length = sz)
    (h : w.ownsRow B e sz (.slice ao m cap) m ((List.range m).flatMap f)) : ∃ g, ao = some ⟨g, 0, none⟩ ∧ B ≤ g ∧ m ≤ cap ∧ cap ≤ maxLen ∧ Rw w g e sz m m f := by
  rcases h.2 with ⟨_, h0⟩ | ⟨g, c, cur, hv, hg, hh, hnc, hcm, hcs, htk⟩
  · omega
  · simp only [Value.slice.injEq, true_and] at hv
    obtain ⟨rfl, rfl⟩ := hv
    have hms : m * sz ≤ cap * sz := Nat.mul_le_mul_right _ hnc
    refine ⟨g, rfl, hg, hnc, hcm, ⟨cur, hh, by omega⟩, Nat.le_refl _, hl, fun i hi j v hj => ?_⟩
    have hjl : j < sz := by rw [← hl i hi]; exact (List.getElem?_eq_some_iff.1 hj).1
    rw [cell_of_row w g _ cur e (0, 0) hh]
    have key : ∀ (m : Nat), (∀ i, i < m → (f i).length = sz) → ∀ i, i < m → ∀ j v, j < sz → (f i)[j]? = some v → ((List.range m).flatMap f)[i * sz + j]? = some v := by
      intro m
      induction m with
      | zero => intro _ i hi; omega
      | succ m ih =>
        intro hl i hi j v hjs hj
        have hlen : ((List.range m).flatMap f).length = m * sz := by
          rw [List.length_flatMap]
          have : (List.map (fun a => (f a).length) (List.range m)) = List.replicate m sz := by
            rw [List.eq_replicate_iff]
            refine ⟨by simp, fun b hb => ?_⟩
            obtain ⟨a, ha, rfl⟩ := List.mem_map.1 hb
            exact hl a (by have := List.mem_range.1 ha; omega)
          rw [this]
          simp
        rw [List.range_succ, List.flatMap_append]
        by_cases e : i = m
        · subst e
          rw [List.getElem?_append_right (by omega), hlen]
          simpa [Nat.add_sub_cancel_left] using hj
        · have h1 : i * sz + j < m * sz := by
            have : (i + 1) * sz ≤ m * sz := Nat.mul_le_mul_right _ (by omega)
            rw [Nat.add_mul, Nat.one_mul] at this
            omega
          rw [List.getElem?_append_left (by omega)]
          exact ih (fun i hi => hl i (by omega)) i (by omega) j v hjs hj
    have := key m hl i hi j v hjl hj
    rw [← htk] at this
    have hlt : i * sz + j < m * sz := by
      have h2 : (i + 1) * sz ≤ m * sz := Nat.mul_le_mul_right _ hi
      rw [Nat.add_mul, Nat.one_mul] at h2
      omega
    rw [List.getElem?_take, if_pos hlt] at this
    rw [← this]
    simp
end

/-- 'make([]T, n)', T of whatever size. -/
theorem wpList_mkn {ops : Array Oper} {rest : List Oper} {o : Oper} {a : Act} {Q : Exit → Act → World → Prop} {w : World} (hg : o.guard = none) (l c : Operand) (t : TypeId) (hop : o.op = Op.makeSlice t l c)
    (e : TypeId) (i : TypeInfo) (z : Value) (sz bytes : Nat) (ht : P.underlying t = some (.slice e)) (hi : P.info? e = some i) (hz : i.zero = some z) (hsize : i.size = sz) (hby : i.bytes = bytes)
    (C : Int) (n : Nat) (hl : a.eval l = .int .i64 C) (hc : a.eval c = .int .i64 C) (hC : C = (n : Int)) (hb : bytes * n ≤ 281474976710656) (h63 : n ≤ 9223372036854775807)
    (h : ∀ g w', Hid (g = w.heap.size ∧ w'.heap.size = w.heap.size + 1) → (∀ f, Rw w' g e sz 0 n f) → Below w.heap.size w w' → wpList P ops Q rest (a.put o.dst (.slice (some ⟨g, 0, none⟩) n n)) w') : wpList P ops Q (o :: rest) a w := by
  subst hC
  subst hsize
  have hb' : (i.bytes : Int) * (n : Int) ≤ 281474976710656 := by
    have h : ((i.bytes * n : Nat) : Int) ≤ 281474976710656 := by rw [hby]; omega
    rwa [Int.natCast_mul] at h
  have hr := run_make (P := P) w t e i z ht hi hz .i64 .i64 n n (by omega) (Int.le_refl _) hb' (by omega)
  simp only [Int.toNat_natCast] at hr
  refine wpList_plain hg fun K hK' => ?_
  unfold Oper.wp
  simp [execOp, hop, hl, hc, hr, Result.andThen]
  refine hK' _ _ (h _ _ ⟨rfl, by simp⟩ (fun f => ⟨⟨_, heap_alloc_new w _, by rw [size_madeCells]; exact Nat.le_refl _⟩, Nat.zero_le _, fun i hi => by omega, fun i hi => by omega⟩) ((Below.refl _ _).alloc (Nat.le_refl _) _))
end

end Go.Proofs.Qxb6002372a
