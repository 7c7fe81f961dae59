import Derived.Test.Qxb6601980aModsE4
namespace Go.Proofs.Qxb6601980aMods
open Go.RowKit

/-! ### A row of entries, laid flat -/
def flat (es : List Ent) : List Value := es.flatMap entCells

theorem flat_nil : flat [] = [] := rfl
theorem flat_cons (e : Ent) (es : List Ent) : flat (e :: es) = entCells e ++ flat es := rfl
theorem flat_append (l m : List Ent) : flat (l ++ m) = flat l ++ flat m := by simp [flat]
theorem flat_length (es : List Ent) : (flat es).length = es.length * 33 := by
  induction es with
  | nil => rfl
  | cons e es ih => rw [flat_cons, List.length_append, ih, entCells_length, List.length_cons]; omega
theorem flat_take (es : List Ent) (k : Nat) : (flat es).take (k * 33) = flat (es.take k) := by
  induction es generalizing k with
  | nil => simp [flat]
  | cons e es ih =>
    cases k with
    | zero => simp [flat]
    | succ k =>
      rw [List.take_succ_cons, flat_cons, flat_cons, show (k + 1) * 33 = 33 + k * 33 by omega, List.take_append, entCells_length, List.take_of_length_le (by rw [entCells_length]; omega)]
      rw [show 33 + k * 33 - 33 = k * 33 by omega, ih]
theorem flat_drop (es : List Ent) (k : Nat) : (flat es).drop (k * 33) = flat (es.drop k) := by
  induction es generalizing k with
  | nil => simp [flat]
  | cons e es ih =>
    cases k with
    | zero => simp [flat]
    | succ k =>
      rw [List.drop_succ_cons, flat_cons, show (k + 1) * 33 = 33 + k * 33 by omega, List.drop_append, entCells_length, List.drop_of_length_le (by rw [entCells_length]; omega), List.nil_append]
      rw [show 33 + k * 33 - 33 = k * 33 by omega, ih]
theorem flat_get {es : List Ent} {i : Nat} {e : Ent} (h : es[i]? = some e) {j : Nat} (hj : j < 33) : (flat es)[i * 33 + j]? = (entCells e)[j]? := by
  have h1 : (flat es)[i * 33 + j]? = ((flat es).drop (i * 33))[j]? := by rw [List.getElem?_drop]
  rw [h1, flat_drop]
  have h2 : es.drop i = e :: es.drop (i + 1) := by
    have hi : i < es.length := (List.getElem?_eq_some_iff.1 h).1
    rw [List.drop_eq_getElem_cons hi]
    rw [List.getElem?_eq_getElem hi] at h
    rw [Option.some.inj h]
  rw [h2, flat_cons, List.getElem?_append_left (by rw [entCells_length]; exact hj)]

/-- The block g holds the entries es (of type T). -/
def RowIs (w : World) (g : Nat) (T : TypeId) (es : List Ent) : Prop := w.heap[g]? = some (.cells (flat es).toArray T (0, 0))

theorem RowIs.range {w : World} {g : Nat} {T : TypeId} {es : List Ent} (h : RowIs w g T es) {i : Nat} {e : Ent} (he : es[i]? = some e) : w.rangeAt g (i * 33) (entCells e) := by
  intro j v hv
  have hj : j < 33 := by have := (List.getElem?_eq_some_iff.1 hv).1; rwa [entCells_length] at this
  rw [cell_of_row _ _ _ _ _ _ h]
  simpa [flat_get he hj] using hv
theorem RowIs.there {w : World} {g : Nat} {T : TypeId} {es : List Ent} (h : RowIs w g T es) {i : Nat} (hi : i < es.length) : w.there g (i * 33) 33 := by
  intro j hj
  rw [frozen_of_row _ _ _ _ _ h, cell_of_row _ _ _ _ _ _ h]
  have hlt : i * 33 + j < (flat es).toArray.size := by simp [flat_length]; omega
  exact ⟨by rw [Array.getElem?_eq_getElem hlt]; rfl, rfl⟩
theorem RowIs.ents {w : World} {g : Nat} {T : TypeId} {es : List Ent} (h : RowIs w g T es) : EntsAt w (some ⟨g, 0, none⟩) es :=
  fun i e he => ⟨g, 0, rfl, by rw [Nat.zero_add]; exact h.range he⟩
theorem RowIs.later {w w' : World} {g : Nat} {T : TypeId} {es : List Ent} (h : RowIs w g T es) (hb : Below w.heap.size w w') : RowIs w' g T es := later_block hb h

theorem putRow_flat {es : List Ent} {k : Nat} (hk : k < es.length) (e : Ent) : putRow (flat es).toArray (k * 33) (entCells e) = (flat (es.set k e)).toArray := by
  apply Array.ext'
  rw [toList_putRow _ _ _ (by simp [flat_length, entCells_length]; omega), entCells_length]
  simp only
  rw [flat_take, show k * 33 + 33 = (k + 1) * 33 by omega, flat_drop, List.set_eq_take_append_cons_drop, if_pos hk, flat_append, flat_cons, List.append_assoc]

theorem RowIs.stored {w : World} {g : Nat} {T : TypeId} {es : List Ent} (h : RowIs w g T es) {k : Nat} (hk : k < es.length) (e : Ent) : RowIs (w.setCells g (k * 33) (entCells e)) g T (es.set k e) := by
  unfold RowIs
  rw [heap_setCells_same g T (entCells e) (k * 33) w _ h, putRow_flat hk]

theorem madeCells_flat (n : Nat) : madeCells (entCells Ent.zero).toArray (n * 33) = (flat (List.replicate n Ent.zero)).toArray := by
  apply Array.ext'
  apply List.ext_getElem?
  intro j
  by_cases hj : j < n * 33
  · have h1 : (flat (List.replicate n Ent.zero))[j]? = (entCells Ent.zero)[j % 33]? := by
      have h2 : (List.replicate n Ent.zero)[j / 33]? = some Ent.zero := by
        rw [List.getElem?_replicate, if_pos (by omega)]
      have h3 := flat_get h2 (j := j % 33) (Nat.mod_lt _ (by omega))
      rwa [show j / 33 * 33 + j % 33 = j by omega] at h3
    rw [h1]
    have hm : j % 33 < 33 := Nat.mod_lt _ (by omega)
    simp only [madeCells, List.size_toArray, entCells_length]
    simp [hj, entCells_length, hm]
  · rw [List.getElem?_eq_none (by simp [madeCells]; omega), List.getElem?_eq_none (by simp [flat_length]; omega)]

/-- 'make([]T, n)' of entries. -/
theorem make_ents {t e : TypeId} (ht : Trym.prog.underlying t = some (.slice e)) (hinfo : (Trym.prog.info? e).map (fun i => (i.zero, i.size, i.bytes)) = some (some (.agg (entCells Ent.zero).toArray), 33, 56))
    (n : Nat) (hn : n ≤ 1048576) (w : World) :
    (Instr.makeSlice t (.int .i64 n) (.int .i64 n)).run Trym.prog w = .ok (.slice (some ⟨w.heap.size, 0, none⟩) n n) (w.alloc (.cells (flat (List.replicate n Ent.zero)).toArray e)) := by
  obtain ⟨i, hi, hz, hs, hby⟩ := info_parts hinfo
  have h2 : (i.bytes : Int) * (n : Int) ≤ 281474976710656 := by rw [hby]; omega
  have hr := run_make (P := Trym.prog) w t e i _ ht hi hz .i64 .i64 n n (by omega) (Int.le_refl _) h2 (by omega)
  simpa only [Int.toNat_natCast, hs, Value.cells, madeCells_flat] using hr

/-! ### Loads and stores of whole entries, and the laying of one, kept shut for the walk -/
def ld53 (a : Addr) : Sem Value := loadVar 53 a
def st53 (a : Addr) (v : Value) : Sem Unit := storeVar 53 a v
def bd53 (ps : Array (Nat × Value)) : Sem Value := Instr.build 53 ps
def ld68 (a : Addr) : Sem Value := loadVar 68 a
def st68 (a : Addr) (v : Value) : Sem Unit := storeVar 68 a v
def bd68 (ps : Array (Nat × Value)) : Sem Value := Instr.build 68 ps
theorem ld53_eq (a : Addr) : loadVar 53 a = ld53 a := rfl
theorem st53_eq (a : Addr) (v : Value) : storeVar 53 a v = st53 a v := rfl
theorem bd53_eq (ps : Array (Nat × Value)) : Instr.build 53 ps = bd53 ps := rfl
theorem ld68_eq (a : Addr) : loadVar 68 a = ld68 a := rfl
theorem st68_eq (a : Addr) (v : Value) : storeVar 68 a v = st68 a v := rfl
theorem bd68_eq (ps : Array (Nat × Value)) : Instr.build 68 ps = bd68 ps := rfl

/-- 33 cells, each one. -/
def Cells33 (cs : List Value) : Prop := cs.length = 33 ∧ ∀ v ∈ cs, v.oneCell' = true
theorem cells33_ent (e : Ent) : Cells33 (entCells e) := ⟨entCells_length e, entCells_one e⟩
theorem cells33_mk {k : List Int} (hk : k.length = 32) (a : Option Addr) (n c : Nat) : Cells33 (keyCells k ++ [.slice a n c]) :=
  ⟨by simp [keyCells_length, hk], fun v hv => by
    rcases List.mem_append.1 hv with h | h
    · exact keyCells_one _ v h
    · rw [List.mem_singleton.1 h]; rfl⟩

theorem run_st53 {w : World} {b o : Nat} (ht : w.there b o 33) {cs : List Value} (hc : Cells33 cs) : (st53 ⟨b, o, none⟩ (.agg cs.toArray)).run Trym.prog w = .ok () (w.setCells b o cs) := by
  have := run_storeVar_mid (P := Trym.prog) w b o 53 cs.toArray (by simpa [hc.1] using ht) (by rw [Trym.size53]; simp [hc.1]) (all_oneCell_toArray hc.2)
  exact this
theorem run_st68 {w : World} {b o : Nat} (ht : w.there b o 33) {cs : List Value} (hc : Cells33 cs) : (st68 ⟨b, o, none⟩ (.agg cs.toArray)).run Trym.prog w = .ok () (w.setCells b o cs) := by
  have := run_storeVar_mid (P := Trym.prog) w b o 68 cs.toArray (by simpa [hc.1] using ht) (by rw [Trym.size68]; simp [hc.1]) (all_oneCell_toArray hc.2)
  exact this
theorem run_ld53 {w : World} {b o : Nat} {e : Ent} (hr : w.rangeAt b o (entCells e)) : (ld53 ⟨b, o, none⟩).run Trym.prog w = .ok (.agg (entCells e).toArray) w :=
  run_loadVar_mid w b o 53 (entCells e) _ hr Trym.underlying53 rfl (by rw [Trym.size53, entCells_length])
theorem run_ld68 {w : World} {b o : Nat} {e : Ent} (hr : w.rangeAt b o (entCells e)) : (ld68 ⟨b, o, none⟩).run Trym.prog w = .ok (.agg (entCells e).toArray) w :=
  run_loadVar_mid w b o 68 (entCells e) _ hr Trym.underlying68 rfl (by rw [Trym.size68, entCells_length])

theorem foldl_set_all (vs : List Value) (C : Array Value) (off : Nat) : (vs.zipIdx 0).foldl (fun (cs : Array Value) (p : Value × Nat) => cs.setIfInBounds (off + p.2) p.1) C = putRow C off vs := by
  have key : ∀ (vs : List Value) (i : Nat) (C : Array Value), (vs.zipIdx i).foldl (fun (cs : Array Value) (p : Value × Nat) => cs.setIfInBounds (off + p.2) p.1) C = putRow C (off + i) vs := by
    intro vs
    induction vs with
    | nil => intro i C; rfl
    | cons v vs ih =>
      intro i C
      rw [List.zipIdx_cons, List.foldl_cons, ih, putRow]
      rfl
  exact key vs 0 C

theorem fill_ent {place : Nat → Option (Nat × Nat)} (h0 : place 0 = some (0, 32)) (h1 : place 1 = some (32, 1)) {Z : Array Value} (hZ : Z.size = 33) {k : List Int} (hk : k.length = 32) (a : Option Addr) (n c : Nat) :
    Instr.fill place Z [(0, .agg (keyCells k).toArray), (1, .slice a n c)] = some (keyCells k ++ [Value.slice a n c]).toArray := by
  have hl : (keyCells k).length = 32 := by rw [keyCells_length, hk]
  have e1 : (Value.agg (keyCells k).toArray).cells.size = 32 := by simp [Value.cells, hl]
  have e2 : (Value.slice a n c).cells.size = 1 := rfl
  have f1 : Array.foldl (fun (cs : Array Value) (p : Value × Nat) => cs.setIfInBounds (0 + p.2) p.1) Z ((Value.agg (keyCells k).toArray).cells.zipIdx) = putRow Z 0 (keyCells k) := by
    rw [← foldl_set_all (keyCells k) Z 0, ← Array.foldl_toList]
    simp [Value.cells]
  have f2 : ∀ C : Array Value, Array.foldl (fun (cs : Array Value) (p : Value × Nat) => cs.setIfInBounds (32 + p.2) p.1) C ((Value.slice a n c).cells.zipIdx) = putRow C 32 [.slice a n c] := by
    intro C
    rw [← foldl_set_all [.slice a n c] C 32, ← Array.foldl_toList]
    simp [Value.cells]
  simp only [Instr.fill, h0, h1, e1, e2]
  rw [if_neg (by simp; omega)]
  have s1 : (putRow Z 0 (keyCells k)).size = 33 := by rw [size_putRow, hZ]
  have t1 : (putRow Z 0 (keyCells k)).toList = keyCells k ++ Z.toList.drop 32 := by
    rw [toList_putRow _ _ _ (by omega), hl]; simp
  have t2 : putRow (putRow Z 0 (keyCells k)) 32 [Value.slice a n c] = (keyCells k ++ [Value.slice a n c]).toArray := by
    apply Array.ext'
    rw [toList_putRow _ _ _ (by simp [s1]), t1]
    simp [hl, hZ]
  rw [f1, if_neg (by simp [s1]), f2, t2]

theorem run_bd53 {k : List Int} (hk : k.length = 32) (a : Option Addr) (n c : Nat) (w : World) : (bd53 #[(0, .agg (keyCells k).toArray), (1, .slice a n c)]).run Trym.prog w = .ok (.agg (keyCells k ++ [Value.slice a n c]).toArray) w := by
  obtain ⟨i, hi, hz, -, -⟩ := info_parts Trym.info53
  obtain ⟨i50, hi50, -, hs50, -⟩ := info_parts Trym.info50
  obtain ⟨i47, hi47, -, hs47, -⟩ := info_parts Trym.info47
  have hf := fill_ent (place := fun x => [(0, 32), (32, 1)][x]?) rfl rfl (Z := (entCells Ent.zero).toArray) (by simp [entCells_length]) hk a n c
  simp [bd53, Instr.build, zeroValue, typeInfo, hi, hz, run_underlying Trym.underlying53, sizeOf, hi50, hs50, hi47, hs47, Value.cells, hf]

theorem run_bd68 {k : List Int} (hk : k.length = 32) (a : Option Addr) (n c : Nat) (w : World) : (bd68 #[(0, .agg (keyCells k).toArray), (1, .slice a n c)]).run Trym.prog w = .ok (.agg (keyCells k ++ [Value.slice a n c]).toArray) w := by
  obtain ⟨i, hi, hz, -, -⟩ := info_parts Trym.info68
  obtain ⟨i50, hi50, -, hs50, -⟩ := info_parts Trym.info50
  obtain ⟨i47, hi47, -, hs47, -⟩ := info_parts Trym.info47
  have hf := fill_ent (place := fun x => [(0, 32), (32, 1)][x]?) rfl rfl (Z := (entCells Ent.zero).toArray) (by simp [entCells_length]) hk a n c
  simp [bd68, Instr.build, zeroValue, typeInfo, hi, hz, run_underlying Trym.underlying68, sizeOf, hi50, hs50, hi47, hs47, Value.cells, hf]

end Go.Proofs.Qxb6601980aMods
