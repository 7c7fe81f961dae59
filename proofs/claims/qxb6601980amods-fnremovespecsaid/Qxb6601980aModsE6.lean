import Derived.Test.Qxb6601980aModsE5
namespace Go.Proofs.Qxb6601980aMods
open Go.RowKit
attribute [local go_sem] Trym.eqNil47
attribute [local go_sem ↓] ld53_eq st53_eq bd53_eq ld68_eq st68_eq bd68_eq

theorem Trym.eqNil28 (w : World) (a : Option Addr) (n c n' c' : Nat) : (binOp .eql 28 (.slice a n c) (.slice none n' c')).run Trym.prog w = .ok (.bool a.isNone) w :=
  Lib.run_eql_slice_nil w 28 53 a n c n' c' Trym.underlying28
attribute [local go_sem] Trym.eqNil28

/-- What cloning keeps of an entry. -/
def sig (e : Ent) : List Int × Bool × Nat := (e.key, e.live, e.n)

theorem there_later {w w' : World} (hb : Below w.heap.size w w') {b o n : Nat} (h : w.there b o n) : w'.there b o n := by
  intro j hj
  obtain ⟨h1, h2⟩ := h j hj
  obtain ⟨u, hu⟩ := Option.isSome_iff_exists.1 h1
  have hlt := block_lt_of_cell hu
  exact ⟨by rw [hb.cell hlt]; exact h1, by rw [hb.frozen hlt]; exact h2⟩

theorem below_setCells {B : Nat} {a w : World} (h : Below B a w) {g : Nat} (hg : B ≤ g) (cs : List Value) (o : Nat) : Below B a (w.setCells g o cs) := by
  induction cs generalizing o w with
  | nil => exact h
  | cons v r ih => exact ih (h.setCell (p := ⟨g, o, none⟩) hg v) _

/-- A []byte's bytes can be read, and lie from block 'lo' on. -/
def ByF (w : World) (lo : Nat) (a : Option Addr) (n : Nat) : Prop := ∃ Z : Nat → Int, ∀ j, j < n → ∃ b off, lo ≤ b ∧ a = some ⟨b, off, none⟩ ∧ w.cell? ⟨b, off + j, none⟩ = some (.int .u8 (Z j))
theorem ByF.bytes {w : World} {lo : Nat} {a : Option Addr} {n : Nat} (h : ByF w lo a n) : BytesAt w a n := by
  obtain ⟨Z, hZ⟩ := h
  refine ⟨Z, fun j hj => ?_⟩
  obtain ⟨b, off, -, h1, h2⟩ := hZ j hj
  exact ⟨b, off, h1, h2⟩
theorem ByF.later {w w' : World} {lo : Nat} {a : Option Addr} {n : Nat} (h : ByF w lo a n) (hb : Below w.heap.size w w') : ByF w' lo a n := by
  obtain ⟨Z, hZ⟩ := h
  refine ⟨Z, fun j hj => ?_⟩
  obtain ⟨b, off, hl, ha, hc⟩ := hZ j hj
  exact ⟨b, off, hl, ha, (hb.cell (block_lt_of_cell hc)).trans hc⟩
theorem ByF.setCells {w : World} {lo : Nat} {a : Option Addr} {n : Nat} (h : ByF w lo a n) {g : Nat} (hg : g < lo) (o : Nat) (cs : List Value) : ByF (w.setCells g o cs) lo a n := by
  obtain ⟨Z, hZ⟩ := h
  refine ⟨Z, fun j hj => ?_⟩
  obtain ⟨b, off, hl, ha, hc⟩ := hZ j hj
  refine ⟨b, off, hl, ha, ?_⟩
  rw [World.cell?_of_block (w := w) (heap_setCells_other g cs o w b (by omega))]
  exact hc

/-- cloneBytes once more, and where the copy lies. -/
structure ClonedF (w : World) (a : Option Addr) (n : Nat) (e : Ending) (w' : World) : Prop where
  form : ∃ a', e = .returned (.slice a' n n) ∧ a'.isNone = a.isNone ∧ ByF w' w.heap.size a' n
  below : Below w.heap.size w w'
theorem cloneBytes_from (a : Option Addr) (n c : Nat) (w : World) (hnil : a = none → n = 0 ∧ c = 0) (hrow : BytesAt w a n) (hn : n ≤ 1048576) :
    Calls Trym.prog 34 #[.slice a n c] w (ClonedF w a n) := by
  cases a with
  | none =>
    obtain ⟨rfl, rfl⟩ := hnil rfl
    refine (cloneBytes_nil w).mono ?_
    rintro e w' ⟨rfl, rfl⟩
    exact ⟨⟨none, rfl, rfl, fun _ => 0, fun j hj => absurd hj (by omega)⟩, Below.refl _ _⟩
  | some ad =>
    obtain ⟨Z, hZ⟩ := hrow
    refine (cloneBytes_some ad n c Z w (fun i hi => ?_) hn).mono ?_
    · obtain ⟨b, off, h1, h2⟩ := hZ i hi
      exact ⟨b, off, Option.some.inj h1, h2⟩
    · rintro e w' ⟨rfl, hb, cs, hblk, hcs, hc⟩
      exact ⟨⟨_, rfl, rfl, Z, fun j hj => ⟨_, _, Nat.le_refl _, rfl, by rw [cell_of_row _ _ _ _ _ _ hblk, Nat.zero_add]; exact hc j hj⟩⟩, hb⟩

/-- What cloneEnts leaves. -/
structure ClonedEnts (w : World) (es : List Ent) (e : Ending) (w' : World) : Prop where
  form : ∃ a' es', e = .returned (.slice a' es.length es.length) ∧ (a' = none → es = []) ∧ EntsAt w' a' es' ∧ es'.map sig = es.map sig ∧ ∀ x ∈ es', BytesAt w' x.a x.n
  below : Below w.heap.size w w'

theorem mk7 {w : World} {b o g d : Nat} {e : Ent} (hr : w.rangeAt b o (entCells e)) (ht : w.there g d 33) :
    w.rangeAt b o (keyCells e.key) ∧ w.cell? ⟨b, o + 32, none⟩ = some (.slice e.a e.n e.c) ∧ ∀ cs, Cells33 cs → (st53 ⟨g, d, none⟩ (.agg cs.toArray)).run Trym.prog w = .ok () (w.setCells g d cs) :=
  ⟨rangeAt_key hr, rangeAt_tx hr, fun _ hc => run_st53 ht hc⟩

set_option maxHeartbeats 400000 in
theorem cloneEnts_nil (w : World) : Calls Trym.prog 16 #[.slice none 0 0] w (ClonedEnts w []) := by
  go_enter Trym.func16, Trym.ntmps16
  go_wp2
  go_ret
  exact ⟨⟨none, [], rfl, fun _ => rfl, fun i e h => by simp at h, rfl, fun x h => by cases h⟩, Below.refl _ _⟩

set_option maxHeartbeats 1600000 in
theorem cloneEnts_some (ad : Addr) (c : Nat) (es : List Ent) (w : World) (hrow : Hid (EntsAt w (some ad) es)) (hby : Hid (∀ x ∈ es, BytesAt w x.a x.n)) (hn : es.length ≤ 1048576) (hN : Hid (∀ x ∈ es, x.n ≤ 1048576)) :
    Calls Trym.prog 16 #[.slice (some ad) es.length c] w (ClonedEnts w es) := by
  have hmk := make_ents Trym.underlying28 Trym.info53 es.length hn
  have hu50 := Trym.underlying50
  go_enter Trym.func16, Trym.ntmps16
  go_wp2
  go_loopw [12] (fun i wr => ∃ k : Nat, k ≤ es.length ∧ i = .int .i64 k ∧ Below w.heap.size w wr ∧ ∃ l : List Ent, l.length = es.length ∧ RowIs wr w.heap.size 53 l ∧ (l.take k).map sig = (es.take k).map sig ∧ ∀ x ∈ l.take k, ByF wr (w.heap.size + 1) x.a x.n) (fun i _ => es.length - (intOf i).toNat)
  case atStart => exact ⟨0, Nat.zero_le _, rfl, (Below.refl _ _).alloc (Nat.le_refl _) _, _, List.length_replicate, heap_alloc_new _ _, by simp, by simp⟩
  case round =>
    obtain ⟨k, hk, rfl, hbel, l, hll, hblk, hsig, hbytes⟩ := hrel
    by_cases hlt : k < es.length
    · obtain ⟨e, b, off, he, hb, hr⟩ := hrow.out.at hlt
      obtain rfl := Option.some.inj hb
      have hem : e ∈ es := List.mem_of_getElem? he
      have hNk := hN.out e hem
      have hi0 : (0 : Int) ≤ (k : Int) := Int.natCast_nonneg _
      have hi1 : (k : Int) < (es.length : Int) := by omega
      have hbne : b ≠ w.heap.size := Nat.ne_of_lt (block_lt_of_cell (rangeAt_tx hr))
      have HR := hide (rangeAt_later hbel hr)
      have HT := hide (hblk.there (i := k) (by omega))
      have HY : Hid (BytesAt wr.drew e.a e.n) := hide ((hby.out e hem).later ⟨hbel.os, hbel.tape, hbel.output, hbel.size, hbel.block⟩)
      have hi50 : (Trym.prog.info? 50).map (·.size) = some (keyCells e.key).length := by rw [Trym.size50, keyCells_length, e.len]
      have hbd := run_bd53 e.len
      have hc33 := cells33_mk e.len
      have HB := hide hbel
      have HK := hide hblk
      have HC := hide hll
      have HS := hide hsig
      have HBy := hide hbytes
      have HE := hide he
      have HNE := hide hbne
      clear hr hbel hblk hll hsig hbytes he hb hem hmk hbne
      go_wp2_with fail
      go_region_held3 (fun w' => w'.rangeAt b (off + k * 33) (keyCells e.key) ∧ w'.cell? ⟨b, off + k * 33 + 32, none⟩ = some (.slice e.a e.n e.c) ∧ ∀ cs, Cells33 cs → (st53 ⟨w.heap.size, k * 33, none⟩ (.agg cs.toArray)).run Trym.prog w' = .ok () (w'.setCells w.heap.size (k * 33) cs))
        (first | exact mk7 (w := wr.drew) (by simpa using HR.out) (by simpa using HT.out) | exact mk7 (rangeAt_later hb1 (by simpa using HR.out)) (there_later hb1 (by simpa using HT.out)) | exact mk7 (World.rangeAt_setCells_apart (rangeAt_later hb1 (by simpa using HR.out)) _ _ _ (Or.inl HNE.out)) (World.there_setCells (there_later hb1 (by simpa using HT.out)) _ _ _))
        (first | (go_at_call 34; refine (cloneBytes_from e.a e.n e.c _ e.wf HY.out hNk).mono ?_; rintro e1 w1 ⟨⟨x', rfl, hx', hby'⟩, hb1⟩))
      have hx0 : x' = none → e.n = 0 ∧ e.n = 0 := fun h => by
        rw [h] at hx'
        have : e.a = none := Option.isNone_iff_eq_none.1 hx'.symm
        exact ⟨(e.wf this).1, (e.wf this).1⟩
      obtain ⟨e', he'⟩ : ∃ e' : Ent, e' = ⟨e.key, e.len, x', e.n, e.n, hx0⟩ := ⟨_, rfl⟩
      have hcells : keyCells e.key ++ [Value.slice x' e.n e.n] = entCells e' := by rw [he']; rfl
      have HX := hide hx'
      have HBY : Hid (ByF w1 (w.heap.size + 1) x' e.n) := hide (by obtain ⟨Z, hZ⟩ := hby'; exact ⟨Z, fun j hj => by obtain ⟨b, off, h1, h2, h3⟩ := hZ j hj; exact ⟨b, off, Nat.le_trans (lt_of_block HK.out) h1, h2, h3⟩⟩)
      have HB1 := hide hb1
      have HE' := hide he'
      rw [hcells]
      clear hcells hx' hby' hb1 he'
      go_wp2
      go_roundw
      case rel =>
        have hsz : w.heap.size ≤ wr.heap.size := HB.out.size
        have hbw : Below wr.heap.size wr w1 := ⟨HB1.out.os, HB1.out.tape, HB1.out.output, HB1.out.size, HB1.out.block⟩
        have hrow1 : RowIs w1 w.heap.size 53 l := HK.out.later hbw
        have hkl : k < l.length := by rw [HC.out]; exact hlt
        have hel : e'.live = e.live ∧ e'.n = e.n ∧ e'.key = e.key ∧ e'.a = x' := by
          rw [HE'.out]
          refine ⟨?_, rfl, rfl, rfl⟩
          simp only [Ent.live]
          have := HX.out
          cases x' <;> cases hea : e.a <;> simp_all
        refine ⟨k + 1, by omega, by go_num, ?_, l.set k e', by simpa using HC.out, hrow1.stored hkl e', ?_, ?_⟩
        · exact below_setCells (HB.out.trans (hbw.mono hsz)) (Nat.le_refl _) _ _
        · rw [List.take_add_one, List.take_add_one, List.map_append, List.map_append, List.take_set_of_le (Nat.le_refl _), HS.out, HE.out]
          simp [hkl, sig, hel.1, hel.2.1, hel.2.2.1]
        · intro x hx
          rw [List.take_add_one, List.take_set_of_le (Nat.le_refl _)] at hx
          rcases List.mem_append.1 hx with hx | hx
          · exact ((HBy.out x hx).later hbw).setCells (Nat.lt_succ_self _) _ _
          · have : x = e' := by simpa [hkl] using hx
            subst this
            rw [hel.2.2.2, hel.2.1]
            exact HBY.out.setCells (Nat.lt_succ_self _) _ _
      case measure => simp [intOf]; omega
    · obtain rfl : k = es.length := by omega
      go_wp2
      go_ret
      refine ⟨⟨_, l, rfl, (fun h => by cases h), hblk.ents, ?_, ?_⟩, hbel⟩
      · rw [List.take_of_length_le (by omega), List.take_of_length_le (by omega)] at hsig
        exact hsig
      · rw [List.take_of_length_le (by omega)] at hbytes
        exact fun x hx => (hbytes x hx).bytes

theorem cloneEnts_any (a : Option Addr) (c : Nat) (es : List Ent) (w : World) (hnil : a = none → es = [] ∧ c = 0) (hrow : EntsAt w a es) (hby : ∀ x ∈ es, BytesAt w x.a x.n) (hn : es.length ≤ 1048576) (hN : ∀ x ∈ es, x.n ≤ 1048576) :
    Calls Trym.prog 16 #[.slice a es.length c] w (ClonedEnts w es) := by
  cases a with
  | none =>
    obtain ⟨rfl, rfl⟩ := hnil rfl
    exact cloneEnts_nil w
  | some ad => exact cloneEnts_some ad c es w hrow hby hn hN

end Go.Proofs.Qxb6601980aMods
