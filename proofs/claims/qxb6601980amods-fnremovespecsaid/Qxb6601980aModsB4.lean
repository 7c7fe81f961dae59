import Derived.Test.Qxb6601980aModsB3
namespace Go.Proofs.Qxb6601980aMods
open Go.RowKit
attribute [local go_sem] Trym.eqNil47 Trym.eqNil22

/-- A []byte's bytes can be read: each lies in a cell of its own. -/
def BytesAt (w : World) (a : Option Addr) (n : Nat) : Prop := ∃ Z : Nat → Int, ∀ j, j < n → ∃ b off, a = some ⟨b, off, none⟩ ∧ w.cell? ⟨b, off + j, none⟩ = some (.int .u8 (Z j))

theorem BytesAt.later {w w' : World} {a : Option Addr} {n : Nat} (h : BytesAt w a n) (hb : Below w.heap.size w w') : BytesAt w' a n := by
  obtain ⟨Z, hZ⟩ := h
  refine ⟨Z, fun j hj => ?_⟩
  obtain ⟨b, off, ha, hc⟩ := hZ j hj
  exact ⟨b, off, ha, (hb.cell (block_lt_of_cell hc)).trans hc⟩

/-- What cloneBytes leaves: a []byte of the same length, nil where the first was; nothing old has turned. -/
structure Cloned (w : World) (a : Option Addr) (n : Nat) (e : Ending) (w' : World) : Prop where
  form : ∃ a', e = .returned (.slice a' n n) ∧ a'.isNone = a.isNone ∧ BytesAt w' a' n
  below : Below w.heap.size w w'

theorem cloneBytes_any (a : Option Addr) (n c : Nat) (w : World) (hnil : a = none → n = 0 ∧ c = 0) (hrow : BytesAt w a n) (hn : n ≤ 1048576) :
    Calls Trym.prog 34 #[.slice a n c] w (Cloned w a n) := by
  cases a with
  | none =>
    obtain ⟨rfl, rfl⟩ := hnil rfl
    refine (cloneBytes_nil w).mono ?_
    rintro e w' ⟨rfl, rfl⟩
    exact ⟨⟨none, rfl, rfl, hrow⟩, Below.refl _ _⟩
  | some ad =>
    obtain ⟨Z, hZ⟩ := hrow
    refine (cloneBytes_some ad n c Z w (fun i hi => ?_) hn).mono ?_
    · obtain ⟨b, off, h1, h2⟩ := hZ i hi
      exact ⟨b, off, Option.some.inj h1, h2⟩
    · rintro e w' ⟨rfl, hb, cs, hblk, hcs, hc⟩
      exact ⟨⟨_, rfl, rfl, Z, fun j hj => ⟨_, _, rfl, by rw [cell_of_row _ _ _ _ _ _ hblk, Nat.zero_add]; exact hc j hj⟩⟩, hb⟩

/-- What cloneTxs leaves, as far as lengths go. -/
structure ClonedTxs (w : World) (n : Nat) (N : Nat → Nat) (e : Ending) (w' : World) : Prop where
  form : ∃ a' c', e = .returned (.slice a' n c') ∧ (a' = none → n = 0 ∧ c' = 0) ∧ ∀ i, i < n → ∃ b off x y, a' = some ⟨b, off, none⟩ ∧ w'.cell? ⟨b, off + i, none⟩ = some (.slice x (N i) y)
  below : Below w.heap.size w w'

/-- The elements of a [][]byte, each readable. -/
def TxsAt (w : World) (a : Option Addr) (n : Nat) (N : Nat → Nat) : Prop :=
  ∀ i, i < n → ∃ b off x y, a = some ⟨b, off, none⟩ ∧ w.cell? ⟨b, off + i, none⟩ = some (.slice x (N i) y) ∧ (x = none → N i = 0 ∧ y = 0) ∧ BytesAt w x (N i)

set_option maxHeartbeats 400000 in
theorem cloneTxs_nil (N : Nat → Nat) (w : World) :
    Calls Trym.prog 11 #[.slice none 0 0] w (ClonedTxs w 0 N) := by
  go_enter Trym.func11, Trym.ntmps11
  go_wp2
  go_ret
  exact ⟨⟨_, _, rfl, fun _ => ⟨rfl, rfl⟩, fun i hi => absurd hi (by omega)⟩, Below.refl _ _⟩

theorem later_block {w w' : World} (hb : Below w.heap.size w w') {g : Nat} {o : Obj} (h : w.heap[g]? = some o) : w'.heap[g]? = some o :=
  (hb.block g (lt_of_block h)).trans h

set_option maxHeartbeats 800000 in
theorem cloneTxs_some (ad : Addr) (n c : Nat) (N : Nat → Nat) (w : World) (hrow : Hid (TxsAt w (some ad) n N)) (hn : n ≤ 1048576) (hN : Hid (∀ i, i < n → N i ≤ 1048576)) :
    Calls Trym.prog 11 #[.slice (some ad) n c] w (ClonedTxs w n N) := by
  have hmk := make_one Trym.underlying22 Trym.info47 n hn (by decide)
  go_enter Trym.func11, Trym.ntmps11
  go_wp2
  go_loopw [12] (fun i wr => ∃ k : Nat, k ≤ n ∧ i = .int .i64 k ∧ Below w.heap.size w wr ∧ ∃ cs, wr.heap[w.heap.size]? = some (.cells cs 47 (0, 0)) ∧ cs.size = n ∧ ∀ j, j < k → ∃ x y, cs[j]? = some (.slice x (N j) y)) (fun i _ => n - (intOf i).toNat)
  case atStart => exact ⟨0, Nat.zero_le _, rfl, (Below.refl _ _).alloc (Nat.le_refl _) _, _, heap_alloc_new _ _, size_madeCells _ _, fun j hj => absurd hj (by omega)⟩
  case round =>
    obtain ⟨k, hk, rfl, hbel, cs, hblk, hcs, hdone⟩ := hrel
    by_cases hlt : k < n
    · obtain ⟨b, off, x, y, hb, hcell, hxn, hbytes⟩ := hrow.out k hlt
      obtain rfl := Option.some.inj hb
      have hNk := hN.out k hlt
      have hsrc : wr.cell? ⟨b, off + k, none⟩ = some (.slice x (N k) y) := (hbel.cell (block_lt_of_cell hcell)).trans hcell
      have HY : Hid (BytesAt wr x (N k)) := hbytes.later hbel
      have HX : Hid (x = none → N k = 0 ∧ y = 0) := hxn
      have HB : Hid (Below w.heap.size w wr) := hbel
      have HK : Hid (wr.heap[w.heap.size]? = some (.cells cs 47 (0, 0))) := hblk
      have HC : Hid (cs.size = n) := hcs
      have HD : Hid (∀ j, j < k → ∃ x y, cs[j]? = some (.slice x (N j) y)) := hdone
      clear hcell hbel hblk hcs hdone hb hxn hbytes
      go_wp2_with fail
      refine (cloneBytes_any x (N k) y wr HX.out HY.out hNk).mono ?_
      rintro e w1 ⟨⟨x', rfl, -, -⟩, hb1⟩
      have hblk1 := later_block hb1 HK.out
      have hfz : w1.frozen? ⟨w.heap.size, k, none⟩ = false := frozen_of_row _ _ _ _ _ hblk1
      obtain ⟨old, hold⟩ : ∃ old, w1.cell? ⟨w.heap.size, k, none⟩ = some old := by
        rw [cell_of_row _ _ _ _ _ _ hblk1]; exact ⟨_, Array.getElem?_eq_getElem (by rw [HC.out]; exact hlt)⟩
      have HB1 : Hid (Below wr.heap.size wr w1) := hb1
      have HK1 : Hid (w1.heap[w.heap.size]? = some (.cells cs 47 (0, 0))) := hblk1
      clear hblk1 hb1
      go_wp2
      go_roundw
      case rel =>
        refine ⟨k + 1, by omega, by go_num, (HB.out.trans (HB1.out.mono HB.out.size)).setCell (Nat.le_refl _) _, _, heap_setCell_same _ _ _ _ _ _ HK1.out, by simpa using HC.out, ?_⟩
        intro j hj
        rw [Array.getElem?_setIfInBounds]
        by_cases e : k = j
        · subst e; exact ⟨x', N k, by simp [HC.out, hlt]⟩
        · rw [if_neg e]; exact HD.out j (by omega)
      case measure => simp [intOf]; omega
    · obtain rfl : k = n := by omega
      go_wp2
      go_ret
      refine ⟨⟨_, _, rfl, fun h => (by cases h), fun i hi => ?_⟩, hbel⟩
      obtain ⟨x, y, h⟩ := hdone i hi
      exact ⟨_, _, x, y, rfl, by rw [cell_of_row _ _ _ _ _ _ hblk, Nat.zero_add]; exact h⟩

end Go.Proofs.Qxb6601980aMods
