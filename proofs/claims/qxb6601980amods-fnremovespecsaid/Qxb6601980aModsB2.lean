import Derived.Test.Qxb6601980aModsB1
namespace Go.Proofs.Qxb6601980aMods
open Go.RowKit

theorem Trym.info5 : (Trym.prog.info? 5).map (fun i => (i.zero, i.size, i.bytes)) = some (some (.int .u8 0), 1, 1) := by kernel_rfl
theorem Trym.info47 : (Trym.prog.info? 47).map (fun i => (i.zero, i.size, i.bytes)) = some (some (.slice none 0 0), 1, 24) := by kernel_rfl

/-- 'make([]T, n)' of one-cell elements: the run's equation, in the walk's form. -/
theorem make_one {P : Program} {t e : TypeId} {z : Value} {bytes : Nat} (ht : P.underlying t = some (.slice e)) (hinfo : (P.info? e).map (fun i => (i.zero, i.size, i.bytes)) = some (some z, 1, bytes))
    (n : Nat) (hn : n ≤ 1048576) (hb : bytes ≤ 4096) (w : World) :
    (Instr.makeSlice t (.int .i64 n) (.int .i64 n)).run P w = .ok (.slice (some ⟨w.heap.size, 0, none⟩) n n) (w.alloc (.cells (madeCells z.cells n) e)) := by
  obtain ⟨i, hi, hz, hs, hby⟩ := info_parts hinfo
  have h1 : bytes * n ≤ 4096 * 1048576 := Nat.mul_le_mul hb hn
  have h2 : (i.bytes : Int) * (n : Int) ≤ 281474976710656 := by
    have h : ((i.bytes * n : Nat) : Int) ≤ 281474976710656 := by rw [hby]; omega
    rwa [Int.natCast_mul] at h
  have hr := run_make (P := P) w t e i z ht hi hz .i64 .i64 n n (by omega) (Int.le_refl _) h2 (by omega)
  simpa only [Int.toNat_natCast, hs, Nat.mul_one] using hr

theorem Trym.eqNil47 (w : World) (a : Option Addr) (n c n' c' : Nat) : (binOp .eql 47 (.slice a n c) (.slice none n' c')).run Trym.prog w = .ok (.bool a.isNone) w :=
  Lib.run_eql_slice_nil w 47 5 a n c n' c' Trym.underlying47
theorem Trym.eqNil22 (w : World) (a : Option Addr) (n c n' c' : Nat) : (binOp .eql 22 (.slice a n c) (.slice none n' c')).run Trym.prog w = .ok (.bool a.isNone) w :=
  Lib.run_eql_slice_nil w 22 47 a n c n' c' Trym.underlying22
attribute [local go_sem] Trym.eqNil47 Trym.eqNil22

/-- A row that is filled from its head on: one cell more. -/
theorem set_upto {cs : Array Value} {F : Nat → Value} {k : Nat} {v : Value} (h : ∀ j, j < k → cs[j]? = some (F j)) (hk : k < cs.size) (hv : v = F k) : ∀ j, j < k + 1 → (cs.setIfInBounds k v)[j]? = some (F j) := by
  intro j hj
  rw [Array.getElem?_setIfInBounds]
  by_cases e : k = j
  · subst e; simp [hk, hv]
  · rw [if_neg e]; exact h j (by omega)

set_option maxHeartbeats 400000 in
theorem cloneBytes_nil (w : World) :
    Calls Trym.prog 34 #[.slice none 0 0] w fun e w' => e = .returned (.slice none 0 0) ∧ w' = w := by
  go_enter Trym.func34, Trym.ntmps34
  go_wp2
  go_ret
  exact ⟨rfl, rfl⟩

set_option maxHeartbeats 400000 in
theorem cloneBytes_some (ad : Addr) (n c : Nat) (Z : Nat → Int) (w : World)
    (hrow : Hid (∀ i, i < n → ∃ b off, ad = ⟨b, off, none⟩ ∧ w.cell? ⟨b, off + i, none⟩ = some (.int .u8 (Z i)))) (hn : n ≤ 1048576) :
    Calls Trym.prog 34 #[.slice (some ad) n c] w fun e w' => e = .returned (.slice (some ⟨w.heap.size, 0, none⟩) n n) ∧ Below w.heap.size w w' ∧
      ∃ cs, w'.heap[w.heap.size]? = some (.cells cs 5 (0, 0)) ∧ cs.size = n ∧ ∀ j, j < n → cs[j]? = some (.int .u8 (Z j)) := by
  have hmk := make_one Trym.underlying47 Trym.info5 n hn (by decide)
  go_enter Trym.func34, Trym.ntmps34
  go_wp2
  go_loopw [12] (fun i wr => ∃ k : Nat, k ≤ n ∧ i = .int .i64 k ∧ Below w.heap.size w wr ∧ ∃ cs, wr.heap[w.heap.size]? = some (.cells cs 5 (0, 0)) ∧ cs.size = n ∧ ∀ j, j < k → cs[j]? = some (.int .u8 (Z j))) (fun i _ => n - (intOf i).toNat)
  case atStart => exact ⟨0, Nat.zero_le _, rfl, (Below.refl _ _).alloc (Nat.le_refl _) _, _, heap_alloc_new _ _, size_madeCells _ _, fun j hj => absurd hj (by omega)⟩
  case round =>
    obtain ⟨k, hk, rfl, hbel, cs, hblk, hcs, hdone⟩ := hrel
    by_cases hlt : k < n
    · obtain ⟨b, off, rfl, hcell⟩ := hrow.out k hlt
      have hsrc : wr.cell? ⟨b, off + k, none⟩ = some (.int .u8 (Z k)) := (hbel.cell (block_lt_of_cell hcell)).trans hcell
      have hfz : wr.frozen? ⟨w.heap.size, k, none⟩ = false := frozen_of_row _ _ _ _ _ hblk
      obtain ⟨old, hold⟩ : ∃ old, wr.cell? ⟨w.heap.size, k, none⟩ = some old := by
        rw [cell_of_row _ _ _ _ _ _ hblk]; exact ⟨_, Array.getElem?_eq_getElem (by omega)⟩
      have HB : Hid (Below w.heap.size w wr) := hbel
      have HK : Hid (wr.heap[w.heap.size]? = some (.cells cs 5 (0, 0))) := hblk
      have HC : Hid (cs.size = n) := hcs
      have HD : Hid (∀ j, j < k → cs[j]? = some (.int .u8 (Z j))) := hdone
      clear hcell hbel hblk hcs hdone
      go_wp2
      go_roundw
      case rel => exact ⟨k + 1, by omega, by go_num, HB.out.setCell (Nat.le_refl _) _, _, heap_setCell_same _ _ _ _ _ _ HK.out, by simpa using HC.out, set_upto HD.out (by rw [HC.out]; exact hlt) rfl⟩
      case measure => simp [intOf]; omega
    · go_wp2
      go_ret
      obtain rfl : k = n := by omega
      exact ⟨rfl, hbel, cs, hblk, hcs, hdone⟩

end Go.Proofs.Qxb6601980aMods
