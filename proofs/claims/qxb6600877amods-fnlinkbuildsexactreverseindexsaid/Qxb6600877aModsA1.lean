import Derived.Test.Qxb6600877aModsRows
import Derived.WalkKit
import Derived.WalkSpells
import Derived.WalkLawsBesides
import Derived.Deep.RegionHeld3
import Derived.Deep.QuietTactic
import Derived.BigQuiet
namespace Go.Proofs.Qxb6600877aMods
open Go.RowKit

/-- A fact kept from the walk (which takes every hypothesis for a rule); '.out' gives it back. -/
theorem hide {p : Prop} (h : p) : Hid p := h
theorem ret_int {k : IntKind} {a b : Int} (h : a = b) : Ending.returned (.int k a) = .returned (.int k b) := by rw [h]
theorem ret_true {b : Bool} (h : b = true) : Ending.returned (.bool b) = .returned (.bool true) := by rw [h]

/-! ### []string -/
/-- The strings of a []string. -/
def StrsAt (w : World) (a : Option Addr) (ss : List ByteArray) : Prop := ∀ i s, ss[i]? = some s → ∃ b off, a = some ⟨b, off, none⟩ ∧ w.cell? ⟨b, off + i, none⟩ = some (.string s)
theorem StrsAt.later {w w' : World} {a : Option Addr} {ss : List ByteArray} (h : StrsAt w a ss) (hb : Below w.heap.size w w') : StrsAt w' a ss := by
  intro i s hs
  obtain ⟨b, off, ha, hc⟩ := h i s hs
  exact ⟨b, off, ha, (hb.cell (block_lt_of_cell hc)).trans hc⟩

/-- Their bytes. -/
def sumS : List ByteArray → Nat
  | [] => 0
  | s :: l => s.size + sumS l
theorem sumS_append (l m : List ByteArray) : sumS (l ++ m) = sumS l + sumS m := by
  induction l with
  | nil => simp [sumS]
  | cons x l ih => simp only [List.cons_append, sumS, ih]; omega
theorem sumS_take_succ {l : List ByteArray} {k : Nat} {s : ByteArray} (h : l[k]? = some s) : sumS (l.take (k + 1)) = sumS (l.take k) + s.size := by
  rw [List.take_add_one, h]
  simp [sumS_append, sumS]
theorem sumS_mem {l : List ByteArray} {s : ByteArray} (h : s ∈ l) : s.size ≤ sumS l := by
  induction l with
  | nil => cases h
  | cons y l ih =>
    simp only [sumS]
    rcases List.mem_cons.1 h with rfl | h
    · omega
    · have := ih h; omega

/-- A guard on a total length: where it says yes, T is at most 2^20. -/
def Bounded (T : Nat) (e : Ending) : Prop := ∃ ok : Bool, e = .returned (.bool ok) ∧ (ok = true → T ≤ 1048576)
theorem Bounded.no {T : Nat} : Bounded T (.returned (.bool false)) := ⟨_, rfl, fun h => by cases h⟩
theorem Bounded.yes {T : Nat} (hT : T ≤ 1048576) : Bounded T (.returned (.bool true)) := ⟨_, rfl, fun _ => hT⟩

/-- An int at least 0. -/
def Counts (e : Ending) : Prop := ∃ v : Int, e = .returned (.int .i64 v) ∧ 0 ≤ v ∧ v ≤ 1048577
theorem Counts.big : Counts (.returned (.int .i64 1048577)) := ⟨_, rfl, by decide, by decide⟩

set_option maxHeartbeats 1600000 in
theorem bytesOfString_any (t : Int) (s : ByteArray) (w : World) (h0 : 0 ≤ t) (_h1 : t ≤ 1048577) (hs : s.size ≤ 1048576) :
    Calls Trym.prog 13 #[.int .i64 t, .string s] w fun e w' => Counts e ∧ w' = w := by
  have hn0 : ¬ t < 0 := by omega
  by_cases hb : (1048576 : Int) < t
  · go_enter Trym.func13, Trym.ntmps13
    go_wp2
    go_ret
    exact ⟨Counts.big, rfl⟩
  by_cases hf : 1048576 - t < (s.size : Int)
  · go_enter Trym.func13, Trym.ntmps13
    go_wp2
    go_ret
    exact ⟨Counts.big, rfl⟩
  go_enter Trym.func13, Trym.ntmps13
  go_wp2
  go_ret
  exact ⟨⟨_, rfl, by omega, by omega⟩, rfl⟩

set_option maxHeartbeats 1600000 in
theorem bytesOfStrings_any (t : Int) (a : Option Addr) (c : Nat) (ss : List ByteArray) (w : World) (h0 : 0 ≤ t) (_h1 : t ≤ 1048577) (hrow : Hid (StrsAt w a ss)) (hn : ss.length ≤ 1048576) (hS : Hid (∀ s ∈ ss, s.size ≤ 1048576)) :
    Calls Trym.prog 8 #[.int .i64 t, .slice a ss.length c] w fun e w' => Counts e ∧ w' = w := by
  have hn0 : ¬ t < 0 := by omega
  by_cases hb : (1048576 : Int) < t
  · go_enter Trym.func8, Trym.ntmps8
    go_wp2
    go_ret
    exact ⟨Counts.big, rfl⟩
  have hq : (1048576 - t).tdiv 16 = (1048576 - t) / 16 := Int.tdiv_eq_ediv_of_nonneg (by omega)
  by_cases hf : (1048576 - t) / 16 < (ss.length : Int)
  · go_enter Trym.func8, Trym.ntmps8
    go_wp2
    go_ret
    exact ⟨Counts.big, rfl⟩
  go_enter Trym.func8, Trym.ntmps8
  go_wp2
  go_loop [0, 5] (fun s i => ∃ (k : Nat) (v : Int), k ≤ ss.length ∧ i = .int .i64 k ∧ s = .int .i64 v ∧ 0 ≤ v ∧ v ≤ 1048576) (fun _ i => ss.length - (intOf i).toNat)
  case atStart => exact ⟨0, _, Nat.zero_le _, rfl, rfl, by omega, by omega⟩
  case round =>
    obtain ⟨k, v, hk, rfl, rfl, hv0, hv1⟩ := hrel
    by_cases hlt : k < ss.length
    · obtain ⟨s, hs⟩ : ∃ s, ss[k]? = some s := ⟨_, List.getElem?_eq_getElem hlt⟩
      obtain ⟨b, off, rfl, hc⟩ := hrow.out k s hs
      have hsz := hS.out s (List.mem_of_getElem? hs)
      clear hs hq hf hb hn0
      by_cases hfit : 1048576 - v < (s.size : Int)
      · go_wp2
        go_ret
        exact ⟨Counts.big, rfl⟩
      · go_wp2
        go_round
        case rel => exact ⟨k + 1, _, by omega, by go_num, rfl, by omega, by omega⟩
        case measure => simp [intOf]; omega
    · go_wp2
      go_ret
      exact ⟨⟨_, rfl, by omega, by omega⟩, rfl⟩

set_option maxHeartbeats 1600000 in
theorem zzReflexive_any (x2 : Value) (a : Option Addr) (c : Nat) (fs : List ByteArray) (b : Option Addr) (d : Nat) (ts : List ByteArray) (nt nf : ByteArray) (w : World) (hrow : Hid (StrsAt w a fs)) (hrow2 : Hid (StrsAt w b ts)) :
    Calls Trym.prog 12 #[.slice a fs.length c, .slice b ts.length d, x2, .string nt, .string nf] w fun e w' => Bounded (fs.length + sumS fs + ts.length + sumS ts + nt.size + nf.size) e ∧ w' = w := by
  by_cases hbig : (1048576 : Int) < (fs.length : Int)
  · go_enter Trym.func12, Trym.ntmps12
    go_wp2
    go_ret
    exact ⟨Bounded.no, rfl⟩
  go_enter Trym.func12, Trym.ntmps12
  go_wp2
  go_loop [11, 12] (fun s i => ∃ k : Nat, k ≤ fs.length ∧ i = .int .i64 k ∧ s = .int .i64 (fs.length + sumS (fs.take k)) ∧ fs.length + sumS (fs.take k) ≤ 1048576) (fun _ i => fs.length - (intOf i).toNat)
  case atStart => exact ⟨0, Nat.zero_le _, rfl, by simp [sumS], by simp [sumS]; omega⟩
  case round =>
    obtain ⟨k, hk, rfl, rfl, hle⟩ := hrel
    by_cases hlt : k < fs.length
    · obtain ⟨s, hs⟩ : ∃ s, fs[k]? = some s := ⟨_, List.getElem?_eq_getElem hlt⟩
      obtain ⟨b1, off, rfl, hcell⟩ := hrow.out k s hs
      have HS := hide (sumS_take_succ hs)
      clear hs
      by_cases hfit : (1048576 : Int) < s.size
      · go_wp2
        go_ret
        exact ⟨Bounded.no, rfl⟩
      by_cases hfit2 : (1048576 : Int) < fs.length + sumS (fs.take k) + s.size
      · go_wp2
        go_ret
        exact ⟨Bounded.no, rfl⟩
      · go_wp2
        go_round
        case rel => exact ⟨k + 1, by omega, by go_num, by rw [HS.out]; go_num, by rw [HS.out]; omega⟩
        case measure => simp [intOf]; omega
    obtain rfl : k = fs.length := by omega
    rw [List.take_length] at hle ⊢
    generalize hT : fs.length + sumS fs = T at hle ⊢
    rw [show (fs.length : Int) + (sumS fs : Int) = (T : Int) by omega]
    by_cases h5 : (1048576 : Int) < (ts.length : Int)
    · go_wp2
      go_ret
      exact ⟨Bounded.no, rfl⟩
    by_cases h6 : (1048576 : Int) < (T : Int) + (ts.length : Int)
    · go_wp2
      go_ret
      exact ⟨Bounded.no, rfl⟩
    go_wp2
    go_loop [11, 13] (fun s i => ∃ k : Nat, k ≤ ts.length ∧ i = .int .i64 k ∧ s = .int .i64 ((T : Int) + ts.length + sumS (ts.take k)) ∧ T + ts.length + sumS (ts.take k) ≤ 1048576) (fun _ i => ts.length - (intOf i).toNat)
    case atStart => exact ⟨0, Nat.zero_le _, rfl, by simp [sumS], by simp [sumS]; omega⟩
    case round =>
      obtain ⟨k, hk, rfl, rfl, hle2⟩ := hrel
      by_cases hlt : k < ts.length
      · obtain ⟨s, hs⟩ : ∃ s, ts[k]? = some s := ⟨_, List.getElem?_eq_getElem hlt⟩
        obtain ⟨b1, off, rfl, hcell⟩ := hrow2.out k s hs
        have HS := hide (sumS_take_succ hs)
        clear hs
        by_cases hfit : (1048576 : Int) < s.size
        · go_wp2
          go_ret
          exact ⟨Bounded.no, rfl⟩
        by_cases hfit2 : (1048576 : Int) < (T : Int) + ts.length + sumS (ts.take k) + s.size
        · go_wp2
          go_ret
          exact ⟨Bounded.no, rfl⟩
        · go_wp2
          go_round
          case rel => exact ⟨k + 1, by omega, by go_num, by rw [HS.out]; go_num, by rw [HS.out]; omega⟩
          case measure => simp [intOf]; omega
      obtain rfl : k = ts.length := by omega
      rw [List.take_length] at hle2 ⊢
      generalize hU : T + ts.length + sumS ts = U at hle2 ⊢
      rw [show (T : Int) + (ts.length : Int) + (sumS ts : Int) = (U : Int) by omega]
      by_cases h7 : (1048576 : Int) < (nt.size : Int)
      · go_wp2
        go_ret
        exact ⟨Bounded.no, rfl⟩
      by_cases h8 : (1048576 : Int) < (U : Int) + (nt.size : Int)
      · go_wp2
        go_ret
        exact ⟨Bounded.no, rfl⟩
      by_cases h9 : (1048576 : Int) < (nf.size : Int)
      · go_wp2
        go_ret
        exact ⟨Bounded.no, rfl⟩
      by_cases h10 : (1048576 : Int) < (U : Int) + (nt.size : Int) + (nf.size : Int)
      · go_wp2
        go_ret
        exact ⟨Bounded.no, rfl⟩
      go_wp2
      go_ret
      exact ⟨Bounded.yes (by omega), rfl⟩

end Go.Proofs.Qxb6600877aMods
