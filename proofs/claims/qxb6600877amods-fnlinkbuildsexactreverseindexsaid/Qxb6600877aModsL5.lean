import Derived.Test.Qxb6600877aModsL2
import Derived.Test.Qxb6600877aModsA5
namespace Go.Proofs.Qxb6600877aMods
open Go.ChangeShapes Go.WideShapes Go.ChangeAt Go.RowKit

theorem Trym.cells3 : Trym.prog.cellsOf 3 = 1 := by kernel_rfl

section
variable {H : Type} {enc : TypeId × Value → H} {w : World} {base : Nat} {spare : Nat → Bool} {held : Bool}
/-- A []int, opened. -/
theorem open_intl {fuel : Nat} {cs : List Value} {x : DataW H × List MemPlace} (h : DataW.trod enc Trym.prog w base spare held fuel 33 cs = some x) :
    ∃ a c os, cs = [.slice a os.length c] ∧ IntsAt w a os := by
  rcases open_ints Trym.underlying33 Trym.underlying3 Trym.cells3 h with ⟨rfl, -⟩ | ⟨a, len, cap, zs, rfl, -, hl, hm, hz, -, hcell, -⟩
  · exact ⟨none, 0, [], rfl, fun i s h => by simp at h⟩
  · have hle : len ≤ zs.length := by rw [hz]; split <;> omega
    refine ⟨some a, cap, zs.take len, by rw [List.length_take, Nat.min_eq_left hle], fun i s hs => ?_⟩
    rw [List.getElem?_take] at hs
    split at hs
    · rename_i hi
      have hil : i < zs.length := by omega
      obtain ⟨b, off, rfl, hadd⟩ := cell_add (fun i hi => ⟨_, hcell i hi⟩) hil
      refine ⟨b, off, rfl, ?_⟩
      rw [← hadd, hcell i hil]
      simp [List.getD, hs]
    · cases hs
end

end Go.Proofs.Qxb6600877aMods
