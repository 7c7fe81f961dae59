import Derived.Test.Qxb6600877aModsA1
namespace Go.Proofs.Qxb6600877aMods
open Go.RowKit

theorem Trym.info32 : (Trym.prog.info? 32).map (fun i => (i.zero, i.size, i.bytes)) = some (some (.agg #[.string ⟨#[]⟩, .string ⟨#[]⟩]), 2, 32) := by kernel_rfl

/-! ### []Ref -/
abbrev RefP := ByteArray × ByteArray
def refCells (r : RefP) : List Value := [.string r.1, .string r.2]
def flatR (rs : List RefP) : List Value := rs.flatMap refCells
theorem flatR_length (rs : List RefP) : (flatR rs).length = rs.length * 2 := by
  induction rs with
  | nil => rfl
  | cons e es ih => simp only [flatR, List.flatMap_cons, List.length_append, List.length_cons] at *; rw [ih]; simp [refCells]; omega
theorem flatR_get {rs : List RefP} {i : Nat} {r : RefP} (h : rs[i]? = some r) : (flatR rs)[i * 2]? = some (.string r.1) ∧ (flatR rs)[i * 2 + 1]? = some (.string r.2) := by
  induction rs generalizing i with
  | nil => simp at h
  | cons e es ih =>
    cases i with
    | zero =>
      simp only [List.getElem?_cons_zero, Option.some.injEq] at h
      subst h
      simp [flatR, refCells]
    | succ i =>
      simp only [List.getElem?_cons_succ] at h
      have := ih h
      rw [show (i + 1) * 2 = (i * 2) + 1 + 1 by omega]
      simpa [flatR, refCells] using this
theorem flatR_set {rs : List RefP} {i : Nat} (r : RefP) (h : i < rs.length) : ((flatR rs).set (i * 2) (.string r.1)).set (i * 2 + 1) (.string r.2) = flatR (rs.set i r) := by
  induction rs generalizing i with
  | nil => simp at h
  | cons e es ih =>
    cases i with
    | zero => simp [flatR, refCells]
    | succ i =>
      have := ih (i := i) (by simpa using h)
      rw [show (i + 1) * 2 = (i * 2) + 1 + 1 by omega]
      simpa [flatR, refCells] using this

/-- The block g holds the references rs. -/
def RefRow (w : World) (g : Nat) (rs : List RefP) : Prop := w.heap[g]? = some (.cells (flatR rs).toArray 32 (0, 0))
/-- The references of a []Ref. -/
def RefsAt (w : World) (a : Option Addr) (rs : List RefP) : Prop := ∀ i r, rs[i]? = some r → ∃ b off, a = some ⟨b, off, none⟩ ∧ w.cell? ⟨b, off + i * 2, none⟩ = some (.string r.1) ∧ w.cell? ⟨b, off + i * 2 + 1, none⟩ = some (.string r.2)
theorem RefRow.get {w : World} {g : Nat} {rs : List RefP} (h : RefRow w g rs) {i : Nat} {r : RefP} (hr : rs[i]? = some r) : w.cell? ⟨g, i * 2, none⟩ = some (.string r.1) ∧ w.cell? ⟨g, i * 2 + 1, none⟩ = some (.string r.2) := by
  have h1 := flatR_get hr
  rw [cell_of_row _ _ _ _ _ _ h, cell_of_row _ _ _ _ _ _ h]
  simpa using h1
theorem RefRow.refs {w : World} {g : Nat} {rs : List RefP} (h : RefRow w g rs) : RefsAt w (some ⟨g, 0, none⟩) rs := by
  intro i r hr
  obtain ⟨h1, h2⟩ := h.get hr
  exact ⟨g, 0, rfl, by rw [Nat.zero_add]; exact h1, by rw [Nat.zero_add]; exact h2⟩
theorem RefsAt.later {w w' : World} {a : Option Addr} {rs : List RefP} (h : RefsAt w a rs) (hb : Below w.heap.size w w') : RefsAt w' a rs := by
  intro i r hr
  obtain ⟨b, off, ha, h1, h2⟩ := h i r hr
  exact ⟨b, off, ha, (hb.cell (block_lt_of_cell h1)).trans h1, (hb.cell (block_lt_of_cell h2)).trans h2⟩
theorem later_block {w w' : World} (hb : Below w.heap.size w w') {g : Nat} {o : Obj} (h : w.heap[g]? = some o) : w'.heap[g]? = some o :=
  (hb.block g (lt_of_block h)).trans h
theorem RefRow.later {w w' : World} {g : Nat} {rs : List RefP} (h : RefRow w g rs) (hb : Below w.heap.size w w') : RefRow w' g rs := later_block hb h
theorem RefsAt.take {w : World} {a : Option Addr} {rs : List RefP} (h : RefsAt w a rs) (k : Nat) : RefsAt w a (rs.take k) := by
  intro i r hr
  rw [List.getElem?_take] at hr
  split at hr
  · exact h i r hr
  · cases hr
theorem RefsAt.nil {w : World} {a : Option Addr} : RefsAt w a [] := fun i r h => by simp at h
theorem RefRow.set {w : World} {g : Nat} {rs : List RefP} (h : RefRow w g rs) {i : Nat} (hi : i < rs.length) (r : RefP) : RefRow ((w.setCell ⟨g, i * 2, none⟩ (.string r.1)).setCell ⟨g, i * 2 + 1, none⟩ (.string r.2)) g (rs.set i r) := by
  unfold RefRow
  rw [heap_setCell_same _ _ _ _ _ _ (heap_setCell_same _ _ _ _ _ _ h), ← flatR_set r hi]
  simp

/-- refsOf. -/
def refsL (fs ts : List ByteArray) : List RefP := fs.mapIdx fun i f => (f, (ts[i]?).getD ⟨#[]⟩)
theorem refsL_length (fs ts : List ByteArray) : (refsL fs ts).length = fs.length := by simp [refsL]
theorem refsL_get {fs ts : List ByteArray} {i : Nat} {f : ByteArray} (h : fs[i]? = some f) : (refsL fs ts)[i]? = some (f, (ts[i]?).getD ⟨#[]⟩) := by simp [refsL, h]

/-- 'make([]T, n)'. -/
theorem make_any {t e : TypeId} {z : Value} {size bytes : Nat} (ht : Trym.prog.underlying t = some (.slice e)) (hinfo : (Trym.prog.info? e).map (fun i => (i.zero, i.size, i.bytes)) = some (some z, size, bytes))
    (n : Nat) (hn : n ≤ 1048576) (hb : bytes ≤ 4096) (w : World) :
    (Instr.makeSlice t (.int .i64 n) (.int .i64 n)).run Trym.prog w = .ok (.slice (some ⟨w.heap.size, 0, none⟩) n n) (w.alloc (.cells (madeCells z.cells (n * size)) e)) := by
  obtain ⟨i, hi, hz, hs, hby⟩ := info_parts hinfo
  have h1 : bytes * n ≤ 4096 * 1048576 := Nat.mul_le_mul hb hn
  have h2 : (i.bytes : Int) * (n : Int) ≤ 281474976710656 := by
    have h : ((i.bytes * n : Nat) : Int) ≤ 281474976710656 := by rw [hby]; omega
    rwa [Int.natCast_mul] at h
  have hr := run_make (P := Trym.prog) w t e i z ht hi hz .i64 .i64 n n (by omega) (Int.le_refl _) h2 (by omega)
  simpa only [Int.toNat_natCast, hs] using hr

theorem made_refs (n : Nat) : madeCells (Value.agg #[.string ⟨#[]⟩, .string ⟨#[]⟩]).cells (n * 2) = (flatR (List.replicate n (⟨#[]⟩, ⟨#[]⟩))).toArray := by
  apply Array.ext'
  apply List.ext_getElem?
  intro j
  by_cases hj : j < n * 2
  · have h2 : (List.replicate n ((⟨#[]⟩, ⟨#[]⟩) : RefP))[j / 2]? = some (⟨#[]⟩, ⟨#[]⟩) := by
      rw [List.getElem?_replicate, if_pos (by omega)]
    obtain ⟨e1, e2⟩ := flatR_get h2
    have hm : j % 2 = 0 ∨ j % 2 = 1 := by omega
    rcases hm with hm | hm
    · rw [show j / 2 * 2 = j by omega] at e1
      simp [madeCells, Value.cells, hj, hm, e1]
    · rw [show j / 2 * 2 + 1 = j by omega] at e2
      simp [madeCells, Value.cells, hj, hm, e2]
  · rw [List.getElem?_eq_none (by simp [madeCells]; omega), List.getElem?_eq_none (by simp [flatR_length]; omega)]

theorem make_refs (n : Nat) (hn : n ≤ 1048576) (w : World) :
    (Instr.makeSlice 25 (.int .i64 n) (.int .i64 n)).run Trym.prog w = .ok (.slice (some ⟨w.heap.size, 0, none⟩) n n) (w.alloc (.cells (flatR (List.replicate n (⟨#[]⟩, ⟨#[]⟩))).toArray 32)) := by
  rw [make_any Trym.underlying25 Trym.info32 n hn (by decide) w, made_refs]

theorem take_set_next {α : Type} {l m : List α} {k : Nat} {y : α} (hk : k < l.length) (h : l.take k = m.take k) (hy : m[k]? = some y) : (l.set k y).take (k + 1) = m.take (k + 1) := by
  rw [List.take_add_one, List.take_add_one, List.take_set_of_le (Nat.le_refl _), h, hy]
  simp [hk]

/-- What refsOf leaves. -/
structure RefsPost (w : World) (rs : List RefP) (e : Ending) (w' : World) : Prop where
  form : e = .returned (.slice (some ⟨w.heap.size, 0, none⟩) rs.length rs.length)
  row : RefRow w' w.heap.size rs
  below : Below w.heap.size w w'

set_option maxRecDepth 100000 in
set_option maxHeartbeats 1600000 in
theorem refsOf_any (a : Option Addr) (c : Nat) (fs : List ByteArray) (b : Option Addr) (d : Nat) (ts : List ByteArray) (w : World) (hrow : Hid (StrsAt w a fs)) (hrow2 : Hid (StrsAt w b ts)) (hn : fs.length ≤ 1048576) :
    Calls Trym.prog 9 #[.slice a fs.length c, .slice b ts.length d] w (RefsPost w (refsL fs ts)) := by
  have hmk := make_refs fs.length hn
  go_enter Trym.func9, Trym.ntmps9
  go_wp2
  go_loopw [6] (fun i wr => ∃ k : Nat, k ≤ fs.length ∧ i = .int .i64 k ∧ Below w.heap.size w wr ∧ ∃ l : List RefP, l.length = fs.length ∧ RefRow wr w.heap.size l ∧ l.take k = (refsL fs ts).take k) (fun i _ => fs.length - (intOf i).toNat)
  case atStart => exact ⟨0, Nat.zero_le _, rfl, (Below.refl _ _).alloc (Nat.le_refl _) _, _, List.length_replicate, heap_alloc_new _ _, by simp⟩
  case round =>
    obtain ⟨k, hk, rfl, hbel, l, hll, hblk, htake⟩ := hrel
    by_cases hlt : k < fs.length
    · obtain ⟨f, hf⟩ : ∃ s, fs[k]? = some s := ⟨_, List.getElem?_eq_getElem hlt⟩
      obtain ⟨b1, off, rfl, hc⟩ := hrow.out k f hf
      have hc1 := (hbel.cell (block_lt_of_cell hc)).trans hc
      have hfz0 : wr.frozen? ⟨w.heap.size, k * 2, none⟩ = false := frozen_of_row _ _ _ _ _ hblk
      have hfz1 : wr.frozen? ⟨w.heap.size, k * 2 + 1, none⟩ = false := frozen_of_row _ _ _ _ _ hblk
      obtain ⟨o, ho⟩ : ∃ o, l[k]? = some o := ⟨_, List.getElem?_eq_getElem (by omega)⟩
      obtain ⟨g0, g1⟩ := hblk.get ho
      have HB := hide hbel
      have HK := hide hblk
      have HL := hide hll
      have HT := hide htake
      have HF := hide hf
      clear hbel hblk hll htake hf ho hc hmk
      by_cases h2 : k < ts.length
      · obtain ⟨t, ht⟩ : ∃ s, ts[k]? = some s := ⟨_, List.getElem?_eq_getElem h2⟩
        obtain ⟨b2, off2, rfl, hd⟩ := hrow2.out k t ht
        have hd1 := (HB.out.cell (block_lt_of_cell hd)).trans hd
        have HTT := hide ht
        clear hd ht
        go_wp2
        go_roundw
        case rel =>
          refine ⟨k + 1, by omega, by go_num, ?_, l.set k (f, t), by simpa using HL.out, ?_, ?_⟩
          · exact (HB.out.setCell (Nat.le_refl _) _).setCell (Nat.le_refl _) _
          · exact HK.out.set (by rw [HL.out]; exact hlt) (f, t)
          · refine take_set_next (by rw [HL.out]; exact hlt) HT.out ?_
            rw [refsL_get HF.out, HTT.out]; rfl
        case measure => simp [intOf]; omega
      · have hts : Hid (ts[k]? = none) := List.getElem?_eq_none (by omega)
        go_wp2
        go_roundw
        case rel =>
          refine ⟨k + 1, by omega, by go_num, ?_, l.set k (f, ⟨#[]⟩), by simpa using HL.out, ?_, ?_⟩
          · exact (HB.out.setCell (Nat.le_refl _) _).setCell (Nat.le_refl _) _
          · exact HK.out.set (by rw [HL.out]; exact hlt) (f, ⟨#[]⟩)
          · refine take_set_next (by rw [HL.out]; exact hlt) HT.out ?_
            rw [refsL_get HF.out, hts.out]; rfl
        case measure => simp [intOf]; omega
    · obtain rfl : k = fs.length := by omega
      have hle : l = refsL fs ts := by
        rw [List.take_of_length_le (by omega), List.take_of_length_le (by rw [refsL_length]; exact Nat.le_refl _)] at htake
        exact htake
      subst hle
      have HB := hide hbel
      have HK := hide hblk
      clear hbel hblk htake hmk
      go_wp2
      go_ret
      rw [refsL_length] at *
      exact ⟨by rw [refsL_length]; rfl, HK.out, HB.out⟩

end Go.Proofs.Qxb6600877aMods
