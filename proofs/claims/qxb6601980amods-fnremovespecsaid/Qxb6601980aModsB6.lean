import Derived.Test.Qxb6601980aModsB5
import Derived.ProofKit
import Derived.OpenShut
import Derived.ChangeOld
import Derived.Deep.Slices
namespace Go.Proofs.Qxb6601980aMods
open Go.ChangeShapes Go.WideShapes Go.ChangeAt Go.RowKit

theorem Trym.own : ownKnob Trym.prog.godebug = none := by kernel_rfl
theorem Trym.laidOut : laidOutB Trym.prog = true := by kernel_rfl
theorem Trym.cells5 : Trym.prog.cellsOf 5 = 1 := by kernel_rfl
theorem Trym.cells47 : Trym.prog.cellsOf 47 = 1 := by kernel_rfl

section
variable {H : Type} {enc : TypeId × Value → H} {w : World} {base : Nat} {spare : Nat → Bool} {held : Bool}

/-- The cell at 'a' plus i, where something lies. -/
theorem cell_add {w : World} {a : Addr} {i n : Nat} (h0 : ∀ i, i < n → ∃ v, w.cell? (a.add i) = some v) (hi : i < n) : ∃ b off, a = ⟨b, off, none⟩ ∧ a.add i = ⟨b, off + i, none⟩ := by
  obtain ⟨v, hv⟩ := h0 0 (by omega)
  obtain ⟨b, off, spot⟩ := a
  have hspot : spot = none := by simpa [Addr.add] using World.cell?_spot hv
  subst hspot
  exact ⟨b, off, rfl, Addr.add_lit _ _ _⟩

/-- A []byte, opened. -/
theorem open_bytes {fuel : Nat} {cs : List Value} {x : DataW H × List MemPlace} (h : DataW.trod enc Trym.prog w base spare held fuel 47 cs = some x) :
    ∃ a n c, cs = [.slice a n c] ∧ (a = none → n = 0 ∧ c = 0) ∧ BytesAt w a n ∧ n ≤ maxLen := by
  rcases open_ints Trym.underlying47 Trym.underlying5 Trym.cells5 h with ⟨rfl, -⟩ | ⟨a, len, cap, zs, rfl, -, hl, hm, hz, -, hcell, -⟩
  · exact ⟨none, 0, 0, rfl, fun _ => ⟨rfl, rfl⟩, ⟨fun _ => 0, fun j hj => absurd hj (by omega)⟩, by simp [maxLen]⟩
  · refine ⟨some a, len, cap, rfl, (fun h => by cases h), ⟨fun j => zs.getD j 0, fun j hj => ?_⟩, by omega⟩
    have hlz : len ≤ zs.length := by rw [hz]; split <;> omega
    obtain ⟨b, off, rfl, hadd⟩ := cell_add (fun i hi => ⟨_, hcell i hi⟩) (i := j) (n := zs.length) (by omega)
    refine ⟨b, off, rfl, ?_⟩
    rw [← hadd]
    exact hcell j (by omega)

/-- A [][]byte, opened. -/
theorem open_txs {fuel : Nat} {cs : List Value} {x : DataW H × List MemPlace} (h : DataW.trod enc Trym.prog w base spare held fuel 22 cs = some x) :
    ∃ a n c N, cs = [.slice a n c] ∧ (a = none → n = 0 ∧ c = 0) ∧ TxsAt w a n N := by
  rcases Deep.open_slice1 Trym.underlying22 Trym.cells47 h with ⟨rfl, -⟩ | ⟨a, len, cap, m, k, V, D, Pl, rfl, -, hl, hm, hmm, -, hx⟩
  · exact ⟨none, 0, 0, fun _ => 0, rfl, fun _ => ⟨rfl, rfl⟩, fun i hi => absurd hi (by omega)⟩
  · have hle : len ≤ m := by rw [hmm]; split <;> omega
    obtain ⟨N, hN⟩ := Deep.choose_lt (n := len) (p := fun i n => ∃ x y, V i = .slice x n y ∧ (x = none → n = 0 ∧ y = 0) ∧ BytesAt w x n) (fun i hi => by
      obtain ⟨x, n, y, hv, hnil, hb, -⟩ := open_bytes (hx i (by omega)).2
      exact ⟨n, x, y, by simpa using hv, hnil, hb⟩)
    refine ⟨some a, len, cap, N, rfl, (fun h => by cases h), fun i hi => ?_⟩
    obtain ⟨x, y, hv, hnil, hb⟩ := hN i hi
    obtain ⟨b, off, rfl, hadd⟩ := cell_add (fun i hi => ⟨_, (hx i hi).1⟩) (i := i) (n := m) (by omega)
    refine ⟨b, off, x, y, rfl, ?_, hnil, hb⟩
    rw [← hadd, ← hv]
    exact (hx i (by omega)).1
end

set_option maxRecDepth 100000 in
theorem batch_lifted (os : Os) (started : os.Started) (H : Type) (enc : TypeId × Value → H) :
    ReturnsInHanded {} Trym.checked os 3 .any (Rows.fnBatchSizeConcatSpec.pre6 enc Trym.prog Trym.f3 Rows.fnBatchSizeConcatRow.domain false) (Rows.fnBatchSizeConcatSpec.post enc Trym.prog Trym.f3 false true false false) := by
  refine returnsInHanded_of_change (C := Trym.checked) Trym.own started (by kernel_rfl) Trym.func3
    (ChangeSpec.witness6 (enc := enc) (C := Trym.checked) false ⟨#[], #[.slice none 0 0, .slice none 0 0], []⟩ 8 (by kernel_rfl) (by kernel_rfl) (by kernel_rfl) (by kernel_rfl)) ?_
  intro W base args ds gs before hval0 hW hcnd _
  have hval : ∀ (j : Nat) t v, Trym.f3.params[j]? = some t → args[j]? = some v → Value.okWide Trym.prog W .any base t v := hval0
  have hW' := hW
  obtain ⟨p, q, hA0, hV, rfl, hfz, hnd⟩ := hW
  have hA : DataW.TrodAll enc Trym.prog W 0 (fun _ => true) true Trym.f3.params.toList args.toList ds p := hA0
  rw [Trym.params3] at hA hval
  obtain ⟨v0, vs0, d0, ds0, p0, q0, hargs, rfl, rfl, h0, r0⟩ := trodAll_cons hA
  obtain ⟨v1, vs1, d1, ds1, p1, q1, rfl, rfl, rfl, h1, r1⟩ := trodAll_cons r0
  obtain ⟨rfl, rfl, rfl⟩ := trodAll_nil r1
  obtain rfl : args = #[v0, v1] := by cases args; simp_all
  obtain ⟨rfl, rfl⟩ := trodVars_none hV
  obtain ⟨a0, len0, cap0, rfl⟩ := okWide_slice Trym.underlying22 (hval 0 22 v0 rfl rfl)
  obtain ⟨a1, len1, cap1, rfl⟩ := okWide_slice Trym.underlying22 (hval 1 22 v1 rfl rfl)
  have k0 := h0
  have k1 := h1
  have lt0 : ∀ x ∈ p0, x.block < W.heap.size := by obtain ⟨m, hm⟩ := k0; exact DataW.trod_lt m _ _ _ hm
  have lt1 : ∀ x ∈ p1, x.block < W.heap.size := by obtain ⟨m, hm⟩ := k1; exact DataW.trod_lt m _ _ _ hm
  obtain ⟨N0, nil0, at0⟩ : ∃ N, (a0 = none → len0 = 0 ∧ cap0 = 0) ∧ TxsAt W a0 len0 N := by
    obtain ⟨fuel, hf⟩ := h0
    obtain ⟨a, n, c, N, hcs, hnil, hat⟩ := open_txs hf
    simp [Value.cells] at hcs
    obtain ⟨rfl, rfl, rfl⟩ := hcs
    exact ⟨N, hnil, hat⟩
  obtain ⟨N1, nil1, at1⟩ : ∃ N, (a1 = none → len1 = 0 ∧ cap1 = 0) ∧ TxsAt W a1 len1 N := by
    obtain ⟨fuel, hf⟩ := h1
    obtain ⟨a, n, c, N, hcs, hnil, hat⟩ := open_txs hf
    simp [Value.cells] at hcs
    obtain ⟨rfl, rfl, rfl⟩ := hcs
    exact ⟨N, hnil, hat⟩
  clear hA0 hval0
  refine (batch_walk a0 len0 cap0 N0 a1 len1 cap1 N1 W nil0 at0 nil1 at1).mono fun e W' ⟨he, bel⟩ => ?_
  subst he
  exact ⟨_, rfl, _, _, _, [], _, [], hW', trodAll_mk1 (shut_bool Trym.underlying4 _), (trodAll_cons_mk (Below.trod Trym.laidOut (by kernel_rfl) (of_decide_eq_true (by kernel_rfl)) k0 bel lt0) (trodAll_cons_mk (Below.trod Trym.laidOut (by kernel_rfl) (of_decide_eq_true (by kernel_rfl)) k1 bel lt1) trodAll_mk0)), rfl, bel.frame _, fun h => by cases h⟩

theorem batch_over : Rows.fnBatchSizeConcatRow.holds Trym.pinned (OpenSpec.ofChange Rows.fnBatchSizeConcatSpec) :=
  OpenClaim.holds_of_wide 3 Trym.f3 rfl rfl rfl rfl rfl rfl rfl ⟨rfl, rfl, rfl, rfl, rfl⟩ rfl rfl rfl rfl rfl (by kernel_rfl) Trym.func3 (by kernel_rfl)
    (of_decide_eq_true (by kernel_rfl)) (by unfold Func.isWrapper; first | (rw [if_pos (by decide +kernel)]; kernel_rfl) | (rw [if_neg (by decide +kernel)]; exact ⟨rfl, rfl⟩))
    (fun os started H enc _ => batch_lifted os started H enc)

/-- THE STATEMENT -/
theorem batchSizeConcat_proved : Rows.FnBatchSizeConcatSaid := batch_over
#print axioms batchSizeConcat_proved

end Go.Proofs.Qxb6601980aMods
