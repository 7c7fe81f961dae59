import Derived.Test.Qxb6601980aModsH4
import Derived.Test.Qxb6601980aModsG2
namespace Go.Proofs.Qxb6601980aMods
open Go.ChangeShapes Go.WideShapes Go.ChangeAt Go.RowKit

section
variable {H : Type} {enc : TypeId × Value → H} {w : World} {base : Nat} {spare : Nat → Bool} {held : Bool}
/-- A [][32]byte, opened. -/
theorem open_keys {fuel : Nat} {cs : List Value} {x : DataW H × List MemPlace} (h : DataW.trod enc Trym.prog w base spare held fuel 42 cs = some x) :
    ∃ a c ks, cs = [.slice a ks.length c] ∧ (a = none → ks = [] ∧ c = 0) ∧ KeysIn w a ks := by
  rcases Deep.open_slice Trym.underlying42 h with ⟨rfl, -⟩ | ⟨a, len, cap, m, k, D, Pl, rfl, -, hl, hm, hmm, -, hx⟩
  · exact ⟨none, 0, [], rfl, fun _ => ⟨rfl, rfl⟩, fun i e h => by simp at h⟩
  · have hle : len ≤ m := by rw [hmm]; split <;> omega
    rw [Trym.cells50] at hx
    obtain ⟨f, hf⟩ := Deep.choose_lt (α := List Int) (n := len) (p := fun i o => o.length = 32 ∧ w.cells? base (a.add (i * 32)) 32 = some (keyCells o)) (fun i hi => by
      obtain ⟨cs', h1, h2⟩ := hx i (by omega)
      obtain ⟨e, hel, rfl⟩ := open_key h2
      exact ⟨e, hel, h1⟩)
    refine ⟨some a, cap, (List.range len).map f, by simp, (fun h => by cases h), ?_⟩
    intro i e he
    have hi : i < len := by have := (List.getElem?_eq_some_iff.1 he).1; simpa using this
    have hee : e = f i := by simpa [hi] using he.symm
    subst hee
    obtain ⟨hel, hc⟩ := hf i hi
    obtain ⟨-, -, hcell⟩ := World.cells?_some hc
    have h00 : ∃ v, w.cell? a = some v := by
      obtain ⟨cs', h1, -⟩ := hx 0 (by omega)
      obtain ⟨-, hl1, hc1⟩ := World.cells?_some h1
      have := hc1 0 (by omega)
      rw [List.getElem?_eq_getElem (by omega)] at this
      exact ⟨_, by simpa [Addr.add] using this⟩
    obtain ⟨v0, hv0⟩ := h00
    obtain ⟨b, off, spot⟩ := a
    have hspot : spot = none := by simpa using World.cell?_spot hv0
    subst hspot
    refine ⟨hel, b, off, rfl, fun j v hv => ?_⟩
    have hj : j < 32 := by have := (List.getElem?_eq_some_iff.1 hv).1; rwa [keyCells_length, hel] at this
    have := hcell j hj
    rw [Addr.add_lit, Addr.add_lit] at this
    rw [this]
    exact hv
end

theorem wf_i64 {B : Int} (h : (Lit.int .i64 B).wf = true) : IntKind.i64.wrap B = B := by
  have hb := bounds_i64 h
  rw [IntKind.wrap_i64]
  omega

set_option maxRecDepth 100000 in
theorem remove_lifted (os : Os) (started : os.Started) (H : Type) (enc : TypeId × Value → H) :
    ReturnsInHanded {} Trym.checked os 7 .any (Rows.fnRemoveSpecSpec.pre6 enc Trym.prog Trym.f7 Rows.fnRemoveSpecRow.domain false) (Rows.fnRemoveSpecSpec.post enc Trym.prog Trym.f7 false true false false) := by
  refine returnsInHanded_of_change (C := Trym.checked) Trym.own started (by kernel_rfl) Trym.func7
    (ChangeSpec.witness6 (enc := enc) (C := Trym.checked) false ⟨#[], #[.int .i64 0, .slice none 0 0, .int .u64 0, .int .i64 0, .int .i64 0, .slice none 0 0], []⟩ 8 (by kernel_rfl) (by kernel_rfl) (by kernel_rfl) (by kernel_rfl)) ?_
  intro W base args ds gs before hval0 hW hcnd _
  have hval : ∀ (j : Nat) t v, Trym.f7.params[j]? = some t → args[j]? = some v → Value.okWide Trym.prog W .any base t v := hval0
  have hW' := hW
  obtain ⟨p, q, hA0, hV, rfl, hfz, hnd⟩ := hW
  have hA : DataW.TrodAll enc Trym.prog W 0 (fun _ => true) true Trym.f7.params.toList args.toList ds p := hA0
  rw [Trym.params7] at hA hval
  obtain ⟨v0, vs0, d0, ds0, p0, q0, hargs, rfl, rfl, h0, r0⟩ := trodAll_cons hA
  obtain ⟨v1, vs1, d1, ds1, p1, q1, rfl, rfl, rfl, h1, r1⟩ := trodAll_cons r0
  obtain ⟨v2, vs2, d2, ds2, p2, q2, rfl, rfl, rfl, h2, r2⟩ := trodAll_cons r1
  obtain ⟨v3, vs3, d3, ds3, p3, q3, rfl, rfl, rfl, h3, r3⟩ := trodAll_cons r2
  obtain ⟨v4, vs4, d4, ds4, p4, q4, rfl, rfl, rfl, h4, r4⟩ := trodAll_cons r3
  obtain ⟨v5, vs5, d5, ds5, p5, q5, rfl, rfl, rfl, h5, r5⟩ := trodAll_cons r4
  obtain ⟨rfl, rfl, rfl⟩ := trodAll_nil r5
  obtain rfl : args = #[v0, v1, v2, v3, v4, v5] := by cases args; simp_all
  obtain ⟨rfl, rfl⟩ := trodVars_none hV
  obtain ⟨x0, rfl, rfl, rfl, w0⟩ := open_int Trym.underlying3 (hval 0 3 v0 rfl rfl) h0
  obtain ⟨x2, rfl, rfl, rfl, w2⟩ := open_int Trym.underlying29 (hval 2 29 v2 rfl rfl) h2
  obtain ⟨x3, rfl, rfl, rfl, w3⟩ := open_int Trym.underlying3 (hval 3 3 v3 rfl rfl) h3
  obtain ⟨x4, rfl, rfl, rfl, w4⟩ := open_int Trym.underlying3 (hval 4 3 v4 rfl rfl) h4
  obtain ⟨a1, len1, cap1, rfl⟩ := okWide_slice Trym.underlying28 (hval 1 28 v1 rfl rfl)
  have k1 := h1
  have lt1 : ∀ x ∈ p1, x.block < W.heap.size := by obtain ⟨m, hm⟩ := k1; exact DataW.trod_lt m _ _ _ hm
  obtain ⟨es, hlen1, nil1, at1, by1⟩ : ∃ es : List Ent, len1 = es.length ∧ (a1 = none → es = [] ∧ cap1 = 0) ∧ EntsAt W a1 es ∧ ∀ x ∈ es, BytesAt W x.a x.n := by
    obtain ⟨fuel, hf⟩ := h1
    obtain ⟨a, c, es, hcs, hnil, hat, hby⟩ := open_ents hf
    simp [Value.cells] at hcs
    obtain ⟨rfl, rfl, rfl⟩ := hcs
    exact ⟨es, rfl, hnil, hat, hby⟩
  subst hlen1
  obtain ⟨a5, len5, cap5, rfl⟩ := okWide_slice Trym.underlying42 (hval 5 42 v5 rfl rfl)
  have k5 := h5
  have lt5 : ∀ x ∈ p5, x.block < W.heap.size := by obtain ⟨m, hm⟩ := k5; exact DataW.trod_lt m _ _ _ hm
  obtain ⟨ks, hlen5, nil5, at5⟩ : ∃ ks : List (List Int), len5 = ks.length ∧ (a5 = none → ks = [] ∧ cap5 = 0) ∧ KeysIn W a5 ks := by
    obtain ⟨fuel, hf⟩ := h5
    obtain ⟨a, c, ks, hcs, hnil, hat⟩ := open_keys hf
    simp [Value.cells] at hcs
    obtain ⟨rfl, rfl, rfl⟩ := hcs
    exact ⟨ks, rfl, hnil, hat⟩
  subst hlen5
  clear hA0 hval0
  refine (removeSpec_walk x0 x2 x3 x4 a1 cap1 es a5 cap5 ks W (wf_u64 w2) (wf_i64 w3) (wf_i64 w4) nil1 at1 by1 nil5 at5).mono fun e W' ⟨he, bel⟩ => ?_
  subst he
  exact ⟨_, rfl, _, _, _, [], _, [], hW', trodAll_mk1 (shut_bool Trym.underlying4 _), (trodAll_cons_mk (shut_int Trym.underlying3 w0) (trodAll_cons_mk (Below.trod Trym.laidOut (by kernel_rfl) (of_decide_eq_true (by kernel_rfl)) k1 bel lt1) (trodAll_cons_mk (shut_int Trym.underlying29 w2) (trodAll_cons_mk (shut_int Trym.underlying3 w3) (trodAll_cons_mk (shut_int Trym.underlying3 w4) (trodAll_cons_mk (Below.trod Trym.laidOut (by kernel_rfl) (of_decide_eq_true (by kernel_rfl)) k5 bel lt5) trodAll_mk0)))))), rfl, bel.frame _, fun h => by cases h⟩

theorem remove_over : Rows.fnRemoveSpecRow.holds Trym.pinned (OpenSpec.ofChange Rows.fnRemoveSpecSpec) :=
  OpenClaim.holds_of_wide 7 Trym.f7 rfl rfl rfl rfl rfl rfl rfl ⟨rfl, rfl, rfl, rfl, rfl⟩ rfl rfl rfl rfl rfl (by kernel_rfl) Trym.func7 (by kernel_rfl)
    (of_decide_eq_true (by kernel_rfl)) (by unfold Func.isWrapper; first | (rw [if_pos (by decide +kernel)]; kernel_rfl) | (rw [if_neg (by decide +kernel)]; exact ⟨rfl, rfl⟩))
    (fun os started H enc _ => remove_lifted os started H enc)

/-- THE STATEMENT -/
theorem removeSpec_proved : Rows.FnRemoveSpecSaid := remove_over
#print axioms removeSpec_proved

end Go.Proofs.Qxb6601980aMods
