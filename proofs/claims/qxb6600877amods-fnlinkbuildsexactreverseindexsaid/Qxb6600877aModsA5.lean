import Derived.Test.Qxb6600877aModsA1
import Derived.ProofKit
import Derived.OpenShut
import Derived.ChangeOld
import Derived.Deep.Slices
import Derived.SliceStrings
import Derived.ChangeMaps5
namespace Go.Proofs.Qxb6600877aMods
open Go.ChangeShapes Go.WideShapes Go.ChangeAt Go.RowKit

theorem Trym.own : ownKnob Trym.prog.godebug = none := by kernel_rfl
theorem Trym.laidOut : laidOutB Trym.prog = true := by kernel_rfl
theorem Trym.cells9 : Trym.prog.cellsOf 9 = 1 := by kernel_rfl

section
variable {H : Type} {enc : TypeId × Value → H} {w : World} {base : Nat} {spare : Nat → Bool} {held : Bool}

theorem cell_add {w : World} {a : Addr} {i n : Nat} (h0 : ∀ i, i < n → ∃ v, w.cell? (a.add i) = some v) (hi : i < n) : ∃ b off, a = ⟨b, off, none⟩ ∧ a.add i = ⟨b, off + i, none⟩ := by
  obtain ⟨v, hv⟩ := h0 0 (by omega)
  obtain ⟨b, off, spot⟩ := a
  have : spot = none := by
    have := World.cell?_spot hv
    simpa [Addr.add] using this
  subst this
  exact ⟨b, off, rfl, by rw [Addr.add_lit]⟩

/-- A []string, opened. -/
theorem open_strs {fuel : Nat} {cs : List Value} {x : DataW H × List MemPlace} (h : DataW.trod enc Trym.prog w base spare held fuel 22 cs = some x) :
    ∃ a c ss, cs = [.slice a ss.length c] ∧ StrsAt w a ss := by
  rcases open_strings Trym.underlying22 Trym.underlying9 Trym.cells9 h with ⟨rfl, -⟩ | ⟨a, len, cap, ss, rfl, -, hl, -, hz, -, hcell, -⟩
  · exact ⟨none, 0, [], rfl, fun i s h => by simp at h⟩
  · have hle : len ≤ ss.length := by rw [hz]; split <;> omega
    refine ⟨some a, cap, ss.take len, by rw [List.length_take, Nat.min_eq_left hle], fun i s hs => ?_⟩
    rw [List.getElem?_take] at hs
    split at hs
    · rename_i hi
      have hil : i < ss.length := by omega
      obtain ⟨b, off, rfl, hadd⟩ := cell_add (fun i hi => ⟨_, hcell i hi⟩) hil
      refine ⟨b, off, rfl, ?_⟩
      rw [← hadd, hcell i hil]
      simp [List.getD, hs]
    · cases hs
end

end Go.Proofs.Qxb6600877aMods
