import Derived.Test.Qxb6601980aModsB2
namespace Go.Proofs.Qxb6601980aMods
open Go.RowKit
attribute [local go_sem] Trym.eqNil47 Trym.eqNil22

/-- A guard on a total length: where it says yes, T is at most 2^20. -/
def Bounded (T : Nat) (e : Ending) : Prop := ∃ ok : Bool, e = .returned (.bool ok) ∧ (ok = true → T ≤ 1048576)
theorem Bounded.no {T : Nat} : Bounded T (.returned (.bool false)) := ⟨_, rfl, fun h => by cases h⟩
theorem Bounded.yes {T : Nat} (hT : T ≤ 1048576) : Bounded T (.returned (.bool true)) := ⟨_, rfl, fun _ => hT⟩

set_option maxHeartbeats 800000 in
theorem zzBatch_any (a : Option Addr) (n c : Nat) (N : Nat → Nat) (b : Option Addr) (m d : Nat) (M : Nat → Nat) (w : World)
    (hrow : Hid (∀ i, i < n → ∃ b off a' c', a = some ⟨b, off, none⟩ ∧ w.cell? ⟨b, off + i, none⟩ = some (.slice a' (N i) c')))
    (hrow2 : Hid (∀ i, i < m → ∃ b' off a' c', b = some ⟨b', off, none⟩ ∧ w.cell? ⟨b', off + i, none⟩ = some (.slice a' (M i) c'))) :
    Calls Trym.prog 9 #[.slice a n c, .slice b m d] w fun e w' => Bounded (n + sumN N n + m + sumN M m) e ∧ w' = w := by
  by_cases hbig : (1048576 : Int) < (n : Int)
  · go_enter Trym.func9, Trym.ntmps9
    go_wp2
    go_ret
    exact ⟨Bounded.no, rfl⟩
  go_enter Trym.func9, Trym.ntmps9
  go_wp2
  go_loop [5, 6] (fun s i => ∃ k : Nat, k ≤ n ∧ i = .int .i64 k ∧ s = .int .i64 (n + sumN N k) ∧ n + sumN N k ≤ 1048576) (fun _ i => n - (intOf i).toNat)
  case atStart => exact ⟨0, Nat.zero_le _, rfl, by simp [sumN], by simp only [sumN]; omega⟩
  case round =>
    obtain ⟨k, hk, rfl, rfl, hle⟩ := hrel
    by_cases hlt : k < n
    · obtain ⟨b, off, a', c', rfl, hcell⟩ := hrow.out k hlt
      by_cases hfit : (1048576 : Int) < N k
      · go_wp2
        go_ret
        exact ⟨Bounded.no, rfl⟩
      by_cases hfit2 : (1048576 : Int) < n + sumN N k + N k
      · go_wp2
        go_ret
        exact ⟨Bounded.no, rfl⟩
      · go_wp2
        go_round
        case rel => exact ⟨k + 1, by omega, by go_num, by simp only [sumN]; go_num, by simp only [sumN]; omega⟩
        case measure => simp [intOf]; omega
    obtain rfl : k = n := by omega
    by_cases hbig2 : (1048576 : Int) < (m : Int)
    · go_wp2
      go_ret
      exact ⟨Bounded.no, rfl⟩
    by_cases hbig3 : (1048576 : Int) < k + sumN N k + (m : Int)
    · go_wp2
      go_ret
      exact ⟨Bounded.no, rfl⟩
    go_wp2
    go_loop [5, 7] (fun s i => ∃ j : Nat, j ≤ m ∧ i = .int .i64 j ∧ s = .int .i64 (k + sumN N k + m + sumN M j) ∧ k + sumN N k + m + sumN M j ≤ 1048576) (fun _ i => m - (intOf i).toNat)
    case atStart => exact ⟨0, Nat.zero_le _, rfl, by simp [sumN], by simp only [sumN]; omega⟩
    case round =>
      obtain ⟨j, hj, rfl, rfl, hle2⟩ := hrel
      by_cases hlt2 : j < m
      · obtain ⟨b, off, a', c', rfl, hcell⟩ := hrow2.out j hlt2
        by_cases hfit : (1048576 : Int) < M j
        · go_wp2
          go_ret
          exact ⟨Bounded.no, rfl⟩
        by_cases hfit2 : (1048576 : Int) < k + sumN N k + m + sumN M j + M j
        · go_wp2
          go_ret
          exact ⟨Bounded.no, rfl⟩
        · go_wp2
          go_round
          case rel => exact ⟨j + 1, by omega, by go_num, by simp only [sumN]; go_num, by simp only [sumN]; omega⟩
          case measure => simp [intOf]; omega
      · obtain rfl : j = m := by omega
        go_wp2
        go_ret
        exact ⟨Bounded.yes hle2, rfl⟩

end Go.Proofs.Qxb6601980aMods
