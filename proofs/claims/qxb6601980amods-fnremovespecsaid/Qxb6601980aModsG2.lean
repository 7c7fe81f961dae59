import Derived.Test.Qxb6601980aModsG1
import Derived.ProofKit
import Derived.OpenShut
import Derived.ChangeOld
import Derived.Deep.Slices
import Derived.Test.Qxb6601980aModsB6
namespace Go.Proofs.Qxb6601980aMods
open Go.ChangeShapes Go.WideShapes Go.ChangeAt Go.RowKit

theorem Trym.cells50 : Trym.prog.cellsOf 50 = 32 := by kernel_rfl
theorem Trym.cells53 : Trym.prog.cellsOf 53 = 33 := by kernel_rfl

section
variable {H : Type} {enc : TypeId × Value → H} {w : World} {base : Nat} {spare : Nat → Bool} {held : Bool}

/-- A [32]byte, opened. -/
theorem open_key {fuel : Nat} {cs : List Value} {x : DataW H × List MemPlace} (h : DataW.trod enc Trym.prog w base spare held fuel 50 cs = some x) : ∃ k : List Int, k.length = 32 ∧ cs = keyCells k := by
  obtain ⟨xs, m, -, -, hl, hxl, hx⟩ := DataW.trod_array Trym.underlying50 h
  rw [Trym.cells50] at hl
  obtain ⟨f, hf⟩ := Deep.choose_lt (α := Int) (n := 32) (p := fun i n => cs[i]? = some (.int .u8 n)) (fun i hi => by
    have h1 := hx i hi
    rw [Trym.cells5, Nat.mul_one, List.getElem?_eq_getElem (by omega)] at h1
    obtain ⟨n, hn, -, -⟩ := DataW.trod_int Trym.underlying5 h1
    refine ⟨n, ?_⟩
    have h2 := congrArg (fun l => l[0]?) hn
    simpa [List.getElem?_take, List.getElem?_drop] using h2)
  refine ⟨(List.range 32).map f, by simp, ?_⟩
  apply List.ext_getElem?
  intro i
  by_cases hi : i < 32
  · rw [hf i hi]
    simp [keyCells, hi]
  · rw [List.getElem?_eq_none (by omega), List.getElem?_eq_none (by simp [keyCells]; omega)]

/-- A QEntry, opened. -/
theorem open_ent {fuel : Nat} {cs : List Value} {x : DataW H × List MemPlace} (h : DataW.trod enc Trym.prog w base spare held fuel 53 cs = some x) : ∃ e : Ent, cs = entCells e ∧ BytesAt w e.a e.n := by
  obtain ⟨y0, y1, n, -, hl, h0, h1⟩ := trod_struct2 Trym.underlying53 h
  rw [Trym.cells53] at hl
  simp only [Trym.cells50, Trym.cells47, List.drop_zero] at h0 h1
  obtain ⟨k, hk, hck⟩ := open_key h0
  obtain ⟨a, m, c, hs, hnil, hb, -⟩ := open_bytes h1
  refine ⟨⟨k, hk, a, m, c, hnil⟩, ?_, hb⟩
  rw [entCells, ← hck, ← hs]
  have : (cs.drop 32).take 1 = cs.drop 32 := List.take_of_length_le (by simp; omega)
  rw [this, List.take_append_drop]

/-- A []QEntry, opened. -/
theorem open_ents {fuel : Nat} {cs : List Value} {x : DataW H × List MemPlace} (h : DataW.trod enc Trym.prog w base spare held fuel 28 cs = some x) :
    ∃ a c es, cs = [.slice a es.length c] ∧ (a = none → es = [] ∧ c = 0) ∧ EntsAt w a es ∧ ∀ x ∈ es, BytesAt w x.a x.n := by
  rcases Deep.open_slice Trym.underlying28 h with ⟨rfl, -⟩ | ⟨a, len, cap, m, k, D, Pl, rfl, -, hl, hm, hmm, -, hx⟩
  · exact ⟨none, 0, [], rfl, fun _ => ⟨rfl, rfl⟩, fun i e h => by simp at h, fun x h => by cases h⟩
  · have hle : len ≤ m := by rw [hmm]; split <;> omega
    rw [Trym.cells53] at hx
    obtain ⟨f, hf⟩ := Deep.choose_lt (α := Option Ent) (n := len) (p := fun i o => ∃ e, o = some e ∧ w.cells? base (a.add (i * 33)) 33 = some (entCells e) ∧ BytesAt w e.a e.n) (fun i hi => by
      obtain ⟨cs', h1, h2⟩ := hx i (by omega)
      obtain ⟨e, rfl, hb⟩ := open_ent h2
      exact ⟨some e, e, rfl, h1, hb⟩)
    have hlen : ((List.range len).filterMap f).length = len := by
      have : ∀ n, n ≤ len → ((List.range n).filterMap f).length = n := by
        intro n
        induction n with
        | zero => intro _; rfl
        | succ n ih =>
          intro hn
          obtain ⟨e, he, -⟩ := hf n (by omega)
          rw [List.range_succ, List.filterMap_append, List.length_append, ih (by omega)]
          simp [he]
      exact this len (Nat.le_refl _)
    have hget : ∀ n, n ≤ len → ∀ i, i < n → ((List.range n).filterMap f)[i]? = f i := by
      intro n
      induction n with
      | zero => intro _ i hi; omega
      | succ n ih =>
        intro hn i hi
        have hln : ((List.range n).filterMap f).length = n := by
          have : ∀ n, n ≤ len → ((List.range n).filterMap f).length = n := by
            intro n
            induction n with
            | zero => intro _; rfl
            | succ n ih =>
              intro hn
              obtain ⟨e, he, -⟩ := hf n (by omega)
              rw [List.range_succ, List.filterMap_append, List.length_append, ih (by omega)]
              simp [he]
          exact this n (by omega)
        obtain ⟨e, he, -⟩ := hf n (by omega)
        rw [List.range_succ, List.filterMap_append]
        by_cases hin : i < n
        · rw [List.getElem?_append_left (by omega)]
          exact ih (by omega) i hin
        · have : i = n := by omega
          subst this
          rw [List.getElem?_append_right (by omega), hln]
          simp [he]
    refine ⟨some a, cap, (List.range len).filterMap f, by rw [hlen], (fun h => by cases h), ?_, ?_⟩
    · intro i e he
      have hi : i < len := by have := (List.getElem?_eq_some_iff.1 he).1; omega
      rw [hget len (Nat.le_refl _) i hi] at he
      obtain ⟨e', he', hc, -⟩ := hf i hi
      rw [he] at he'
      obtain rfl := Option.some.inj he'
      obtain ⟨-, -, hcell⟩ := World.cells?_some hc
      have h00 : ∃ v, w.cell? a = some v := by
        obtain ⟨cs', h1, -⟩ := hx 0 (by omega)
        obtain ⟨-, hl1, hc1⟩ := World.cells?_some h1
        have := hc1 0 (by omega)
        rw [List.getElem?_eq_getElem (by omega)] at this
        exact ⟨_, by simpa [Addr.add] using this⟩
      obtain ⟨v0, hv0⟩ := h00
      obtain ⟨b, off, spot⟩ := a
      have hspot : spot = none := by simpa using World.cell?_spot hv0
      subst hspot
      refine ⟨b, off, rfl, fun j v hv => ?_⟩
      have hj : j < 33 := by have := (List.getElem?_eq_some_iff.1 hv).1; rwa [entCells_length] at this
      have := hcell j hj
      rw [Addr.add_lit, Addr.add_lit] at this
      rw [this]
      exact hv
    · intro x hx2
      obtain ⟨i, hi, hfi⟩ := List.mem_filterMap.1 hx2
      obtain ⟨e', he', -, hb⟩ := hf i (by simpa using hi)
      rw [hfi] at he'
      obtain rfl := Option.some.inj he'
      exact hb
end

theorem wf_u64 {B : Int} (h : (Lit.int .u64 B).wf = true) : IntKind.u64.wrap B = B := by
  have hb := bounds_u64 h
  exact wrap_u64_of hb.1 hb.2

set_option maxRecDepth 100000 in
theorem packSpec_lifted (os : Os) (started : os.Started) (H : Type) (enc : TypeId × Value → H) :
    ReturnsInHanded {} Trym.checked os 4 .any (Rows.fnPackSpecSpec.pre6 enc Trym.prog Trym.f4 Rows.fnPackSpecRow.domain false) (Rows.fnPackSpecSpec.post enc Trym.prog Trym.f4 false true false false) := by
  refine returnsInHanded_of_change (C := Trym.checked) Trym.own started (by kernel_rfl) Trym.func4
    (ChangeSpec.witness6 (enc := enc) (C := Trym.checked) false ⟨#[], #[.int .i64 0, .slice none 0 0, .int .u64 0, .int .i64 0, .int .i64 0], []⟩ 8 (by kernel_rfl) (by kernel_rfl) (by kernel_rfl) (by kernel_rfl)) ?_
  intro W base args ds gs before hval0 hW hcnd _
  have hval : ∀ (j : Nat) t v, Trym.f4.params[j]? = some t → args[j]? = some v → Value.okWide Trym.prog W .any base t v := hval0
  have hW' := hW
  obtain ⟨p, q, hA0, hV, rfl, hfz, hnd⟩ := hW
  have hA : DataW.TrodAll enc Trym.prog W 0 (fun _ => true) true Trym.f4.params.toList args.toList ds p := hA0
  rw [Trym.params4] at hA hval
  obtain ⟨v0, vs0, d0, ds0, p0, q0, hargs, rfl, rfl, h0, r0⟩ := trodAll_cons hA
  obtain ⟨v1, vs1, d1, ds1, p1, q1, rfl, rfl, rfl, h1, r1⟩ := trodAll_cons r0
  obtain ⟨v2, vs2, d2, ds2, p2, q2, rfl, rfl, rfl, h2, r2⟩ := trodAll_cons r1
  obtain ⟨v3, vs3, d3, ds3, p3, q3, rfl, rfl, rfl, h3, r3⟩ := trodAll_cons r2
  obtain ⟨v4, vs4, d4, ds4, p4, q4, rfl, rfl, rfl, h4, r4⟩ := trodAll_cons r3
  obtain ⟨rfl, rfl, rfl⟩ := trodAll_nil r4
  obtain rfl : args = #[v0, v1, v2, v3, v4] := by cases args; simp_all
  obtain ⟨rfl, rfl⟩ := trodVars_none hV
  obtain ⟨x0, rfl, rfl, rfl, w0⟩ := open_int Trym.underlying3 (hval 0 3 v0 rfl rfl) h0
  obtain ⟨x2, rfl, rfl, rfl, w2⟩ := open_int Trym.underlying29 (hval 2 29 v2 rfl rfl) h2
  obtain ⟨x3, rfl, rfl, rfl, w3⟩ := open_int Trym.underlying3 (hval 3 3 v3 rfl rfl) h3
  obtain ⟨x4, rfl, rfl, rfl, w4⟩ := open_int Trym.underlying3 (hval 4 3 v4 rfl rfl) h4
  obtain ⟨a1, len1, cap1, rfl⟩ := okWide_slice Trym.underlying28 (hval 1 28 v1 rfl rfl)
  have k1 := h1
  have lt1 : ∀ x ∈ p1, x.block < W.heap.size := by obtain ⟨m, hm⟩ := k1; exact DataW.trod_lt m _ _ _ hm
  obtain ⟨es, hlen1, nil1, at1, by1⟩ : ∃ es : List Ent, len1 = es.length ∧ (a1 = none → es = [] ∧ cap1 = 0) ∧ EntsAt W a1 es ∧ ∀ x ∈ es, BytesAt W x.a x.n := by
    obtain ⟨fuel, hf⟩ := h1
    obtain ⟨a, c, es, hcs, hnil, hat, hby⟩ := open_ents hf
    simp [Value.cells] at hcs
    obtain ⟨rfl, rfl, rfl⟩ := hcs
    exact ⟨es, rfl, hnil, hat, hby⟩
  subst hlen1
  clear hA0 hval0
  refine (packSpec_walk x0 x2 x3 x4 a1 cap1 es W (wf_u64 w2) nil1 at1 by1).mono fun e W' ⟨he, bel⟩ => ?_
  subst he
  exact ⟨_, rfl, _, _, _, [], _, [], hW', trodAll_mk1 (shut_bool Trym.underlying4 _), (trodAll_cons_mk (shut_int Trym.underlying3 w0) (trodAll_cons_mk (Below.trod Trym.laidOut (by kernel_rfl) (of_decide_eq_true (by kernel_rfl)) k1 bel lt1) (trodAll_cons_mk (shut_int Trym.underlying29 w2) (trodAll_cons_mk (shut_int Trym.underlying3 w3) (trodAll_cons_mk (shut_int Trym.underlying3 w4) trodAll_mk0))))), rfl, bel.frame _, fun h => by cases h⟩

theorem packSpec_over : Rows.fnPackSpecRow.holds Trym.pinned (OpenSpec.ofChange Rows.fnPackSpecSpec) :=
  OpenClaim.holds_of_wide 4 Trym.f4 rfl rfl rfl rfl rfl rfl rfl ⟨rfl, rfl, rfl, rfl, rfl⟩ rfl rfl rfl rfl rfl (by kernel_rfl) Trym.func4 (by kernel_rfl)
    (of_decide_eq_true (by kernel_rfl)) (by unfold Func.isWrapper; first | (rw [if_pos (by decide +kernel)]; kernel_rfl) | (rw [if_neg (by decide +kernel)]; exact ⟨rfl, rfl⟩))
    (fun os started H enc _ => packSpec_lifted os started H enc)

/-- THE STATEMENT -/
theorem packSpec_proved : Rows.FnPackSpecSaid := packSpec_over
#print axioms packSpec_proved

end Go.Proofs.Qxb6601980aMods
