import Derived.Test.Qxb6601980aModsRows
import Derived.WalkKit
import Derived.WalkSpells
import Derived.WalkLawsBesides
namespace Go.Proofs.Qxb6601980aMods
open Go.RowKit

/-- A fact kept from the walk (which takes every hypothesis for a rule); '.out' gives it back. -/
theorem hide {p : Prop} (h : p) : Hid p := h

/-- The sum of the first k values of a function. -/
def sumN (f : Nat → Nat) : Nat → Nat
  | 0 => 0
  | k + 1 => sumN f k + f k

theorem sumN_mono (f : Nat → Nat) {j k : Nat} (h : j ≤ k) : sumN f j ≤ sumN f k := by
  induction h with
  | refl => exact Nat.le_refl _
  | step _ ih => exact Nat.le_trans ih (Nat.le_add_right _ _)

theorem sumN_add (f g : Nat → Nat) (k : Nat) : sumN (fun i => f i + g i) k = sumN f k + sumN g k := by
  induction k with
  | zero => rfl
  | succ k ih => simp only [sumN, ih]; omega

theorem sumN_const (c k : Nat) : sumN (fun _ => c) k = c * k := by
  induction k with
  | zero => rfl
  | succ k ih => simp only [sumN, ih]; rw [Nat.mul_succ]

theorem ret_int {k : IntKind} {a b : Int} (h : a = b) : Ending.returned (.int k a) = .returned (.int k b) := by rw [h]

set_option maxHeartbeats 400000 in
theorem encodedSize_any (a : Option Addr) (n c : Nat) (w : World) (hn : n ≤ 1048576) :
    Calls Trym.prog 41 #[.slice a n c] w fun e w' => e = .returned (.int .i64 (4 + n)) ∧ w' = w := by
  go_enter Trym.func41, Trym.ntmps41
  go_wp2
  go_ret
  exact ⟨rfl, rfl⟩

set_option maxHeartbeats 400000 in
theorem batchSize_any (a : Option Addr) (n c : Nat) (N : Nat → Nat) (w : World)
    (hrow : Hid (∀ i, i < n → ∃ b off a' c', a = some ⟨b, off, none⟩ ∧ w.cell? ⟨b, off + i, none⟩ = some (.slice a' (N i) c')))
    (hn : n ≤ 1048576) (hsum : sumN N n ≤ 1048576) :
    Calls Trym.prog 35 #[.slice a n c] w fun e w' => e = .returned (.int .i64 (4 + 4 * n + sumN N n)) ∧ w' = w := by
  go_enter Trym.func35, Trym.ntmps35
  go_wp2
  go_loop [3, 8] (fun s i => ∃ k : Nat, k ≤ n ∧ i = .int .i64 k ∧ s = .int .i64 (4 + 4 * k + sumN N k)) (fun _ i => n - (intOf i).toNat)
  case atStart => exact ⟨0, Nat.zero_le _, rfl, rfl⟩
  case round =>
    obtain ⟨k, hk, rfl, rfl⟩ := hrel
    by_cases hlt : k < n
    · obtain ⟨b, off, a', c', rfl, hcell⟩ := hrow.out k hlt
      have hs : sumN N (k + 1) ≤ sumN N n := sumN_mono N hlt
      have hs1 : sumN N (k + 1) = sumN N k + N k := rfl
      have hNk : N k ≤ 1048576 := by omega
      have hsk : sumN N k ≤ 1048576 := by omega
      clear hs1 hs
      go_wp2_with (go_at_call 41; refine (encodedSize_any _ _ _ _ hNk).mono ?_; rintro e w' ⟨rfl, rfl⟩)
      go_round
      case rel => exact ⟨k + 1, by omega, by go_num, by simp only [sumN]; go_num⟩
      case measure => simp [intOf]; omega
    · go_wp2
      go_ret
      obtain rfl : k = n := by omega
      exact ⟨rfl, rfl⟩

set_option maxHeartbeats 400000 in
theorem zzBatchSize_any (a : Option Addr) (n c : Nat) (N : Nat → Nat) (w : World)
    (hrow : Hid (∀ i, i < n → ∃ b off a' c', a = some ⟨b, off, none⟩ ∧ w.cell? ⟨b, off + i, none⟩ = some (.slice a' (N i) c')))
    (hn : n ≤ 1048576) (hsum : sumN N n ≤ 1048576) :
    Calls Trym.prog 12 #[.slice a n c] w fun e w' => e = .returned (.int .i64 (4 + 4 * n + sumN N n)) ∧ w' = w := by
  go_enter Trym.func12, Trym.ntmps12
  go_wp2_with (go_at_call 35; refine (batchSize_any _ _ _ N _ hrow hn hsum).mono ?_; rintro e w' ⟨rfl, rfl⟩)
  go_ret
  exact ⟨rfl, rfl⟩

/-- txsBytes, entsBytes: where it says yes, its number is T, at most 2^20. -/
def Counted (T : Nat) (e : Ending) : Prop := ∃ (t : Int) (ok : Bool), e = .returned (.tuple #[.int .i64 t, .bool ok]) ∧ (ok = true → t = T ∧ T ≤ 1048576)

theorem Counted.no {T : Nat} {t : Int} : Counted T (.returned (.tuple #[.int .i64 t, .bool false])) := ⟨_, _, rfl, fun h => by cases h⟩
theorem Counted.yes {T : Nat} {t : Int} (h : t = T) (hT : T ≤ 1048576) : Counted T (.returned (.tuple #[.int .i64 t, .bool true])) := ⟨_, _, rfl, fun _ => ⟨h, hT⟩⟩

set_option maxHeartbeats 400000 in
theorem txsBytes_any (a : Option Addr) (n c : Nat) (N : Nat → Nat) (w : World)
    (hrow : Hid (∀ i, i < n → ∃ b off a' c', a = some ⟨b, off, none⟩ ∧ w.cell? ⟨b, off + i, none⟩ = some (.slice a' (N i) c'))) :
    Calls Trym.prog 10 #[.slice a n c] w fun e w' => Counted (24 * n + sumN N n) e ∧ w' = w := by
  by_cases hbig : (1048576 : Int) < (n : Int)
  · go_enter Trym.func10, Trym.ntmps10
    go_wp2
    go_ret2
    exact ⟨Counted.no, rfl⟩
  by_cases hbig2 : (1048576 : Int) < 24 * (n : Int)
  · go_enter Trym.func10, Trym.ntmps10
    go_wp2
    go_ret2
    exact ⟨Counted.no, rfl⟩
  go_enter Trym.func10, Trym.ntmps10
  go_wp2
  go_loop [4, 17] (fun s i => ∃ k : Nat, k ≤ n ∧ i = .int .i64 k ∧ s = .int .i64 (24 * n + sumN N k) ∧ 24 * n + sumN N k ≤ 1048576) (fun _ i => n - (intOf i).toNat)
  case atStart => exact ⟨0, Nat.zero_le _, rfl, rfl, by simp only [sumN]; omega⟩
  case round =>
    obtain ⟨k, hk, rfl, rfl, hle⟩ := hrel
    by_cases hlt : k < n
    · obtain ⟨b, off, a', c', rfl, hcell⟩ := hrow.out k hlt
      by_cases hfit : (1048576 : Int) - (24 * n + sumN N k) < N k
      · go_wp2
        go_ret2
        exact ⟨Counted.no, rfl⟩
      · go_wp2
        go_round
        case rel => exact ⟨k + 1, by omega, by go_num, by simp only [sumN]; go_num, by simp only [sumN]; omega⟩
        case measure => simp [intOf]; omega
    · go_wp2
      go_ret2
      obtain rfl : k = n := by omega
      exact ⟨Counted.yes (by simp) hle, rfl⟩

end Go.Proofs.Qxb6601980aMods
