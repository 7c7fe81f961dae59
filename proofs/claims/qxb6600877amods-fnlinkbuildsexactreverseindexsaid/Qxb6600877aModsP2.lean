import Derived.Test.Qxb6600877aModsP1
namespace Go.Proofs.Qxb6600877aMods
open Go.RowKit

theorem Trym.info4 : (Trym.prog.info? 4).map (fun i => (i.zero, i.size, i.bytes)) = some (some (.bool false), 1, 1) := by kernel_rfl
/-- A []bool's block. -/
def BRow (w : World) (g : Nat) (l : List Bool) : Prop := w.heap[g]? = some (.cells (l.map Value.bool).toArray 4 (0, 0))
theorem BRow.get {w : World} {g : Nat} {l : List Bool} (h : BRow w g l) {i : Nat} {b : Bool} (hb : l[i]? = some b) : w.cell? ⟨g, i, none⟩ = some (.bool b) := by
  rw [cell_of_row _ _ _ _ _ _ h]; simp [hb]
theorem BRow.set {w : World} {g : Nat} {l : List Bool} (h : BRow w g l) (i : Nat) (b : Bool) : BRow (w.setCell ⟨g, i, none⟩ (.bool b)) g (l.set i b) := by
  unfold BRow
  rw [heap_setCell_same _ _ _ _ _ _ h]
  simp
theorem BRow.other {w : World} {g g' : Nat} {l : List Bool} (h : BRow w g l) (hne : g ≠ g') (i : Nat) (v : Value) : BRow (w.setCell ⟨g', i, none⟩ v) g l := by
  unfold BRow
  rw [heap_setCell_other _ _ _ _ hne]; exact h
theorem make_bools (n : Nat) (hn : n ≤ 1048576) (w : World) :
    (Instr.makeSlice 41 (.int .i64 n) (.int .i64 n)).run Trym.prog w = .ok (.slice (some ⟨w.heap.size, 0, none⟩) n n) (w.alloc (.cells ((List.replicate n false).map Value.bool).toArray 4)) := by
  rw [make_any Trym.underlying41 Trym.info4 n hn (by decide) w]
  have : madeCells (Value.bool false).cells (n * 1) = ((List.replicate n false).map Value.bool).toArray := by
    apply Array.ext'
    apply List.ext_getElem?
    intro i
    by_cases hi : i < n
    · simp [madeCells, Value.cells, hi, Nat.mod_one]
    · rw [List.getElem?_eq_none (by simp [madeCells]; omega), List.getElem?_eq_none (by simp; omega)]
  rw [this]

/-- Is reference i the first of its target; of its triple? -/
def ftB (ns fs ts : List ByteArray) (os : List Int) (i : Nat) : Bool := match gT ns fs ts os i with
  | none => false
  | some t => !hasB t (firsts (gT ns fs ts os) i)
def fxB (ns fs ts : List ByteArray) (os : List Int) (i : Nat) : Bool := match vt ns fs ts os i with
  | none => false
  | some y => !hasB y (firsts (vt ns fs ts os) i)
/-- A row of answers, filled below i. -/
def upto (f : Nat → Bool) (n i : Nat) : List Bool := (List.range i).map f ++ List.replicate (n - i) false
theorem upto_length {f : Nat → Bool} {n i : Nat} (h : i ≤ n) : (upto f n i).length = n := by simp [upto]; omega
theorem upto_get {f : Nat → Bool} {n i j : Nat} (hj : j < i) : (upto f n i)[j]? = some (f j) := by
  unfold upto
  rw [List.getElem?_append_left (by simp; exact hj)]
  simp [hj]
theorem upto_step {f : Nat → Bool} {n i : Nat} (h : i < n) : (upto f n i).set i (f i) = upto f n (i + 1) := by
  unfold upto
  rw [List.set_append_right _ _ (by simp), List.range_succ, List.map_append, List.append_assoc]
  congr 1
  have e : n - i = (n - (i + 1)) + 1 := by omega
  rw [e, List.replicate_succ]
  simp
theorem upto_skip {f : Nat → Bool} {n i : Nat} (h : i < n) (hf : f i = false) : upto f n i = upto f n (i + 1) := by
  rw [← upto_step h, hf]
  unfold upto
  rw [List.set_append_right _ _ (by simp)]
  congr 1
  have e : n - i = (n - (i + 1)) + 1 := by omega
  rw [e, List.replicate_succ]
  simp

theorem hasB_next {α : Type} [DecidableEq α] (g : Nat → Option α) (j : Nat) (t : α) : hasB t (firsts g (j + 1)) = (hasB t (firsts g j) || decide (g j = some t)) := by
  rw [Bool.eq_iff_iff, Bool.or_eq_true, hasB_iff, hasB_iff, decide_eq_true_iff, mem_firsts, mem_firsts]
  constructor
  · rintro ⟨i, hi, h⟩
    by_cases e : i = j
    · subst e; exact Or.inr h
    · exact Or.inl ⟨i, by omega, h⟩
  · rintro (⟨i, hi, h⟩ | h)
    · exact ⟨i, by omega, h⟩
    · exact ⟨j, by omega, h⟩
theorem vt_some {ns fs ts : List ByteArray} {os : List Int} {i k : Nat} {nm f : ByteArray} (ho : ownO os ns.length i = some k) (hn : ns[k]? = some nm) (hf : fs[i]? = some f) : vt ns fs ts os i = some (tgt ts i, (nm, f)) := by
  unfold vt; rw [ho, Option.map_some, hn, hf]; rfl
theorem vt_none {ns fs ts : List ByteArray} {os : List Int} {i : Nat} (ho : ownO os ns.length i = none) : vt ns fs ts os i = none := by
  unfold vt; rw [ho]; rfl
theorem gT_some {ns fs ts : List ByteArray} {os : List Int} {i : Nat} {y : ByteArray × RefP} (h : vt ns fs ts os i = some y) : gT ns fs ts os i = some y.1 := by unfold gT; rw [h]; rfl
theorem gT_none {ns fs ts : List ByteArray} {os : List Int} {i : Nat} (h : vt ns fs ts os i = none) : gT ns fs ts os i = none := by unfold gT; rw [h]; rfl

end Go.Proofs.Qxb6600877aMods
