import Derived.Test.Qxb6601980aModsE1
namespace Go.Proofs.Qxb6601980aMods
open Go.RowKit

theorem Trym.size53 : (Trym.prog.info? 53).map (·.size) = some 33 := by kernel_rfl
theorem Trym.size68 : (Trym.prog.info? 68).map (·.size) = some 33 := by kernel_rfl
theorem Trym.size50 : (Trym.prog.info? 50).map (·.size) = some 32 := by kernel_rfl

/-- The entry that holds nothing. -/
def Ent.zero : Ent := ⟨List.replicate 32 0, by simp, none, 0, 0, fun _ => ⟨rfl, rfl⟩⟩
theorem Trym.info53 : (Trym.prog.info? 53).map (fun i => (i.zero, i.size, i.bytes)) = some (some (.agg (entCells Ent.zero).toArray), 33, 56) := by kernel_rfl
theorem Trym.info68 : (Trym.prog.info? 68).map (fun i => (i.zero, i.size, i.bytes)) = some (some (.agg (entCells Ent.zero).toArray), 33, 56) := by kernel_rfl
theorem Trym.info50 : (Trym.prog.info? 50).map (fun i => (i.zero, i.size, i.bytes)) = some (some (.agg (keyCells (List.replicate 32 0)).toArray), 32, 32) := by kernel_rfl

/-! ### What lies in a block behind a store of many cells -/
def putRow (C : Array Value) (o : Nat) : List Value → Array Value
  | [] => C
  | v :: r => putRow (C.setIfInBounds o v) (o + 1) r

theorem size_putRow (vs : List Value) : ∀ (C : Array Value) (o : Nat), (putRow C o vs).size = C.size := by
  induction vs with
  | nil => intro C o; rfl
  | cons v r ih => intro C o; rw [putRow, ih]; simp

theorem toList_putRow (vs : List Value) : ∀ (C : Array Value) (o : Nat), o + vs.length ≤ C.size → (putRow C o vs).toList = C.toList.take o ++ vs ++ C.toList.drop (o + vs.length) := by
  induction vs with
  | nil => intro C o h; simp [putRow]
  | cons v r ih =>
    intro C o h
    simp only [List.length_cons] at h
    rw [putRow, ih _ _ (by simp; omega)]
    simp only [Array.toList_setIfInBounds, List.length_cons]
    have ho : o < C.toList.length := by simpa using (by omega : o < C.size)
    rw [List.take_set, List.drop_set, if_pos (by omega), List.take_add_one]
    rw [List.getElem?_eq_getElem ho]
    have e1 : (C.toList.take o ++ (some C.toList[o]).toList).set o v = C.toList.take o ++ [v] := by
      rw [List.set_append_right _ _ (by simp; omega)]
      have : o - (C.toList.take o).length = 0 := by simp; omega
      rw [this]
      rfl
    rw [e1]
    simp only [List.append_assoc, List.cons_append, List.nil_append]
    rw [show o + 1 + r.length = o + (r.length + 1) by omega]

theorem heap_setCells_same (b : Nat) (t : TypeId) (vs : List Value) : ∀ (o : Nat) (w : World) (C : Array Value), w.heap[b]? = some (.cells C t (0, 0)) → (w.setCells b o vs).heap[b]? = some (.cells (putRow C o vs) t (0, 0)) := by
  induction vs with
  | nil => intro o w C h; exact h
  | cons v r ih => intro o w C h; rw [World.setCells, putRow]; exact ih _ _ _ (heap_setCell_same w b o C t v h)

theorem heap_setCells_other (b : Nat) (vs : List Value) : ∀ (o : Nat) (w : World) (k : Nat), k ≠ b → (w.setCells b o vs).heap[k]? = w.heap[k]? := by
  induction vs with
  | nil => intro o w k h; rfl
  | cons v r ih => intro o w k h; rw [World.setCells, ih _ _ _ h]; exact heap_setCell_other w _ k v h

theorem setCells_size (b : Nat) (vs : List Value) : ∀ (o : Nat) (w : World), (w.setCells b o vs).heap.size = w.heap.size := by
  induction vs with
  | nil => intro o w; rfl
  | cons v r ih => intro o w; rw [World.setCells, ih]; simp

theorem setCells_alloc (w0 : World) (t : TypeId) (vs : List Value) : ∀ (o : Nat) (C : Array Value), (w0.alloc (.cells C t)).setCells w0.heap.size o vs = w0.alloc (.cells (putRow C o vs) t) := by
  induction vs with
  | nil => intro o C; rfl
  | cons v r ih => intro o C; rw [World.setCells, World.setCell_alloc_at _ _ _ _ _ rfl, putRow]; exact ih _ _

theorem putRow_whole (C : Array Value) (vs : List Value) (h : C.size = vs.length) : putRow C 0 vs = vs.toArray := by
  apply Array.ext'
  rw [toList_putRow vs C 0 (by omega)]
  simp [h]

section
variable {P : Program} {ops : Array Oper} {rest : List Oper} {op : Oper} {a : Act} {w : World} {Q : Exit → Act → World → Prop}

/-- 'var x T': a new block of zero cells. -/
theorem wpList_alloc_row (hgd : op.guard = none) (ty : TypeId) (ho : op.op = .alloc ty) (z : Array Value) (size bytes : Nat) (hinfo : (P.info? ty).map (fun i => (i.zero, i.size, i.bytes)) = some (some (.agg z), size, bytes))
    (h : wpList P ops Q rest (a.put op.dst (.pointer (some ⟨w.heap.size, 0, none⟩))) (w.alloc (.cells z ty))) : wpList P ops Q (op :: rest) a w := by
  obtain ⟨i, hi, hz, -, -⟩ := info_parts hinfo
  refine wpList_plain hgd fun K hK => ?_
  unfold Oper.wp execOp
  simp only [ho]
  have hrun : (Instr.alloc ty true (.tuple #[])).run P w = .ok (.pointer (some ⟨w.heap.size, 0, none⟩)) (w.alloc (.cells z ty)) := by
    simp [Instr.alloc, zeroValue, typeInfo, hi, hz, newVar, newRow, Value.cells]
  simp only [Sem.run_bind, hrun, Result.andThen_ok, Sem.run_pure]
  exact hK _ _ h

/-- The store of a whole variable into the block that was laid last. -/
theorem wpList_store_new {w0 : World} {C0 : Array Value} (hgd : op.guard = none) (ty : TypeId) (x y : Operand) (ho : op.op = .store ty x y)
    (hx : a.eval x = .pointer (some ⟨w0.heap.size, 0, none⟩)) (cs : List Value) (hy : a.eval y = .agg cs.toArray) (hw : w = w0.alloc (.cells C0 ty)) (hC : C0.size = cs.length)
    (hi : (P.info? ty).map (·.size) = some cs.length) (h1 : ∀ v ∈ cs, v.oneCell' = true)
    (h : wpList P ops Q rest (a.put op.dst undef) (w0.alloc (.cells cs.toArray ty))) : wpList P ops Q (op :: rest) a w := by
  subst hw
  have hblk : (w0.alloc (.cells C0 ty)).heap[w0.heap.size]? = some (.cells C0 ty (0, 0)) := heap_alloc_new _ _
  have hth : (w0.alloc (.cells C0 ty)).there w0.heap.size 0 cs.toArray.size := by
    intro j hj
    rw [Nat.zero_add, cell_of_row _ _ _ _ _ _ hblk, frozen_of_row _ _ _ _ _ hblk]
    have hj' : j < C0.size := by rw [hC]; simpa using hj
    exact ⟨by rw [Array.getElem?_eq_getElem hj']; rfl, rfl⟩
  refine wpList_store_mid hgd ty x y ho w0.heap.size 0 cs.toArray hx hy hth (by simpa using hi) (all_oneCell_toArray h1) ?_
  have e : (w0.alloc (.cells C0 ty)).setCells w0.heap.size 0 cs = w0.alloc (.cells cs.toArray ty) := by
    rw [setCells_alloc, putRow_whole C0 cs hC]
  simpa [e] using h
end

end Go.Proofs.Qxb6601980aMods
