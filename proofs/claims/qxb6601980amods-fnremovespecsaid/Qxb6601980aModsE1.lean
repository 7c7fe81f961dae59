import Derived.Test.Qxb6601980aModsB4
import Derived.Deep.RegionHeld3
import Derived.Deep.MidRow
import Derived.Deep.QuietTactic
import Derived.BigQuiet
namespace Go.Proofs.Qxb6601980aMods
open Go.RowKit

/-! ### ENTRIES (QEntry, txEntry: 33 cells: a key of 32 bytes and a []byte) -/
/-- An entry: its key's 32 numbers; its []byte's header. -/
structure Ent where
  key : List Int
  len : key.length = 32
  a : Option Addr
  n : Nat
  c : Nat
  wf : a = none → n = 0 ∧ c = 0

/-- The cells of a key. -/
def keyCells (k : List Int) : List Value := k.map (Value.int .u8)
/-- The entry's []byte. -/
def Ent.tx (e : Ent) : Value := .slice e.a e.n e.c
/-- The cells of an entry. -/
def entCells (e : Ent) : List Value := keyCells e.key ++ [.slice e.a e.n e.c]

theorem keyCells_length (k : List Int) : (keyCells k).length = k.length := by simp [keyCells]
theorem entCells_length (e : Ent) : (entCells e).length = 33 := by simp [entCells, keyCells_length, e.len]
theorem keyCells_one (k : List Int) : ∀ v ∈ keyCells k, v.oneCell' = true := by
  intro v hv
  obtain ⟨x, -, rfl⟩ := List.mem_map.1 hv
  rfl
theorem entCells_one (e : Ent) : ∀ v ∈ entCells e, v.oneCell' = true := by
  intro v hv
  rcases List.mem_append.1 hv with h | h
  · exact keyCells_one _ v h
  · rw [List.mem_singleton.1 h]; rfl
theorem entCells_tx (e : Ent) : (entCells e)[32]? = some (.slice e.a e.n e.c) := by
  rw [entCells, List.getElem?_append_right (by rw [keyCells_length, e.len]; exact Nat.le_refl _), keyCells_length, e.len]
  rfl
theorem entCells_key (e : Ent) : (entCells e).take 32 = keyCells e.key := by
  rw [entCells, List.take_append_of_le_length (by rw [keyCells_length, e.len]; exact Nat.le_refl _), List.take_of_length_le (by rw [keyCells_length, e.len]; exact Nat.le_refl _)]

theorem rangeAt_key {w : World} {b o : Nat} {e : Ent} (h : w.rangeAt b o (entCells e)) : w.rangeAt b o (keyCells e.key) := by
  intro j v hv
  refine h j v ?_
  rw [← entCells_key, List.getElem?_take] at hv
  split at hv
  · exact hv
  · cases hv
theorem rangeAt_tx {w : World} {b o : Nat} {e : Ent} (h : w.rangeAt b o (entCells e)) : w.cell? ⟨b, o + 32, none⟩ = some (.slice e.a e.n e.c) := h 32 _ (entCells_tx e)

theorem rangeAt_later {w w' : World} (hb : Below w.heap.size w w') {b o : Nat} {cs : List Value} (h : w.rangeAt b o cs) : w'.rangeAt b o cs :=
  fun j v hv => (hb.cell (block_lt_of_cell (h j v hv))).trans (h j v hv)

/-- The entries of a []QEntry (or []txEntry). -/
def EntsAt (w : World) (a : Option Addr) (es : List Ent) : Prop := ∀ i e, es[i]? = some e → ∃ b off, a = some ⟨b, off, none⟩ ∧ w.rangeAt b (off + i * 33) (entCells e)

theorem EntsAt.later {w w' : World} {a : Option Addr} {es : List Ent} (h : EntsAt w a es) (hb : Below w.heap.size w w') : EntsAt w' a es := by
  intro i e he
  obtain ⟨b, off, ha, hr⟩ := h i e he
  exact ⟨b, off, ha, rangeAt_later hb hr⟩

/-- The lengths of the entries' []byte's. -/
def lensOf (es : List Ent) : List Nat := es.map (·.n)
def sumL : List Nat → Nat
  | [] => 0
  | x :: l => x + sumL l
theorem sumL_append (l m : List Nat) : sumL (l ++ m) = sumL l + sumL m := by
  induction l with
  | nil => simp [sumL]
  | cons x l ih => simp only [List.cons_append, sumL, ih]; omega
theorem sumL_take_succ {es : List Ent} {k : Nat} {e : Ent} (h : es[k]? = some e) : sumL (lensOf (es.take (k + 1))) = sumL (lensOf (es.take k)) + e.n := by
  rw [List.take_add_one, h]
  simp [lensOf, sumL_append, sumL]

/-- A guard on a total length: where it says yes, T is at most 2^20. -/
def Bounded' (T : Nat) (e : Ending) : Prop := ∃ ok : Bool, e = .returned (.bool ok) ∧ (ok = true → T ≤ 1048576)
theorem Bounded'.no {T : Nat} : Bounded' T (.returned (.bool false)) := ⟨_, rfl, fun h => by cases h⟩
theorem Bounded'.yes {T : Nat} (hT : T ≤ 1048576) : Bounded' T (.returned (.bool true)) := ⟨_, rfl, fun _ => hT⟩

set_option maxHeartbeats 800000 in
theorem zzPack_any (x0 x2 x3 x4 : Value) (a : Option Addr) (c : Nat) (es : List Ent) (w : World) (hrow : Hid (EntsAt w a es)) :
    Calls Trym.prog 13 #[x0, .slice a es.length c, x2, x3, x4] w fun e w' => Bounded' (es.length + 32 * es.length + sumL (lensOf es)) e ∧ w' = w := by
  by_cases hbig : (1048576 : Int) < (es.length : Int)
  · go_enter Trym.func13, Trym.ntmps13
    go_wp2
    go_ret
    exact ⟨Bounded'.no, rfl⟩
  go_enter Trym.func13, Trym.ntmps13
  go_wp2
  go_loop [11, 12] (fun s i => ∃ k : Nat, k ≤ es.length ∧ i = .int .i64 k ∧ s = .int .i64 (es.length + 32 * k + sumL (lensOf (es.take k))) ∧ es.length + 32 * k + sumL (lensOf (es.take k)) ≤ 1048576) (fun _ i => es.length - (intOf i).toNat)
  case atStart => exact ⟨0, Nat.zero_le _, rfl, by simp [lensOf, sumL], by simp [lensOf, sumL]; omega⟩
  case round =>
    obtain ⟨k, hk, rfl, rfl, hle⟩ := hrel
    by_cases hlt : k < es.length
    · obtain ⟨e, he⟩ : ∃ e, es[k]? = some e := ⟨_, List.getElem?_eq_getElem hlt⟩
      obtain ⟨b, off, rfl, hr⟩ := hrow.out k e he
      have hcell := rangeAt_tx hr
      have HS := hide (sumL_take_succ he)
      clear hr he
      by_cases hfit0 : (1048576 : Int) < es.length + 32 * k + sumL (lensOf (es.take k)) + 32
      · go_wp2
        go_ret
        exact ⟨Bounded'.no, rfl⟩
      by_cases hfit : (1048576 : Int) < e.n
      · go_wp2
        go_ret
        exact ⟨Bounded'.no, rfl⟩
      by_cases hfit2 : (1048576 : Int) < es.length + 32 * k + sumL (lensOf (es.take k)) + 32 + e.n
      · go_wp2
        go_ret
        exact ⟨Bounded'.no, rfl⟩
      · go_wp2
        go_round
        case rel => exact ⟨k + 1, by omega, by go_num, by rw [HS.out]; go_num, by rw [HS.out]; omega⟩
        case measure => simp [intOf]; omega
    obtain rfl : k = es.length := by omega
    go_wp2
    go_ret
    exact ⟨Bounded'.yes (by simpa using hle), rfl⟩

end Go.Proofs.Qxb6601980aMods
