import Derived.Test.Qxb6601980aModsE7
import Derived.Deep.DeepCutAuto
namespace Go.Proofs.Qxb6601980aMods
open Go.RowKit
attribute [local go_sem] Trym.eqNil47 Trym.neNil47
attribute [local go_sem ↓] ld53_eq st53_eq bd53_eq ld68_eq st68_eq bd68_eq

/-! ### packModel: the plain side -/
def packEnd (batch : Int) (es : List Ent) : Nat := if es.length ≤ 2 * liveN es then winEnd batch es else es.length
def packed (k : Nat) (es : List Ent) : List Ent := (es.take k).filter Ent.live ++ es.drop k

theorem winFrom_all (batch : Int) (es : List Ent) : ∀ c : Nat, (batch ≤ c ∨ (c : Int) + liveN es < batch) → winFrom batch c es = es.length := by
  induction es with
  | nil => intro c _; rfl
  | cons e es ih =>
    intro c h
    have hl : liveN (e :: es) = liveN es + if e.live then 1 else 0 := by
      unfold liveN
      by_cases hh : e.live <;> simp [hh]
    simp only [winFrom, List.length_cons]
    by_cases hh : e.live
    · rw [hl, if_pos hh] at h
      rw [if_pos hh, if_neg (by omega), ih (c + 1) (by omega)]
      omega
    · rw [hl, if_neg hh] at h
      rw [if_neg hh, ih c (by omega)]
      omega
theorem winEnd_all {batch : Int} {es : List Ent} (h : batch ≤ 0 ∨ (liveN es : Int) < batch) : winEnd batch es = es.length := winFrom_all batch es 0 (by omega)
theorem packEnd_le (batch : Int) (es : List Ent) : packEnd batch es ≤ es.length := by
  unfold packEnd
  split
  · exact winFrom_le _ _ _
  · exact Nat.le_refl _

/-- 'append(out, e)': the element in a block of its own, kept shut for the walk. -/
def bs28 (ps : Array (Nat × Value)) : Sem Value := Instr.buildSlice 28 1 ps
theorem bs28_eq (ps : Array (Nat × Value)) : Instr.buildSlice 28 1 ps = bs28 ps := rfl
theorem run_bs28 (e : Ent) (w : World) : (bs28 #[(0, .agg (entCells e).toArray)]).run Trym.prog w = .ok (.slice (some ⟨w.heap.size, 0, none⟩) 1 1) (w.alloc (.cells (entCells e).toArray 53)) := by
  obtain ⟨i, hi, hz, hs, -⟩ := info_parts Trym.info53
  have hf : ∀ Z : Array Value, Z.size = 33 → Instr.fill (fun i => some (i * 33, 33)) Z [(0, .agg (entCells e).toArray)] = some (entCells e).toArray := by
    intro Z hZ
    have e1 : (Value.agg (entCells e).toArray).cells.size = 33 := by simp [Value.cells, entCells_length]
    simp only [Instr.fill, e1]
    rw [if_neg (by simp [hZ])]
    have f1 : Array.foldl (fun (cs : Array Value) (p : Value × Nat) => cs.setIfInBounds (0 * 33 + p.2) p.1) Z ((Value.agg (entCells e).toArray).cells.zipIdx) = putRow Z 0 (entCells e) := by
      rw [← foldl_set_all (entCells e) Z 0, ← Array.foldl_toList]
      simp [Value.cells]
    rw [f1, putRow_whole _ _ (by rw [hZ, entCells_length])]
  simp [bs28, Instr.buildSlice, run_underlying Trym.underlying28, sizeOf, typeInfo, hi, hs, zeroValue, hz, Value.cells, entCells_length, newRow]
  rw [hf _ (by simp)]
  simp [newObj, Sem.run]

end Go.Proofs.Qxb6601980aMods
