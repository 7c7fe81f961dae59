import Derived.Test.Qxb6601980aModsE9
namespace Go.Proofs.Qxb6601980aMods
open Go.RowKit
attribute [local go_sem] Trym.eqNil47 Trym.neNil47
attribute [local go_sem ↓] ld53_eq st53_eq bd53_eq ld68_eq st68_eq bd68_eq bs28_eq

/-- 'make([]T, n)'. -/
theorem make_any {t e : TypeId} {z : Value} {size bytes : Nat} (ht : Trym.prog.underlying t = some (.slice e)) (hinfo : (Trym.prog.info? e).map (fun i => (i.zero, i.size, i.bytes)) = some (some z, size, bytes))
    (n : Nat) (hn : n ≤ 1048576) (hb : bytes ≤ 4096) (w : World) :
    (Instr.makeSlice t (.int .i64 n) (.int .i64 n)).run Trym.prog w = .ok (.slice (some ⟨w.heap.size, 0, none⟩) n n) (w.alloc (.cells (madeCells z.cells (n * size)) e)) := by
  obtain ⟨i, hi, hz, hs, hby⟩ := info_parts hinfo
  have h1 : bytes * n ≤ 4096 * 1048576 := Nat.mul_le_mul hb hn
  have h2 : (i.bytes : Int) * (n : Int) ≤ 281474976710656 := by
    have h : ((i.bytes * n : Nat) : Int) ≤ 281474976710656 := by rw [hby]; omega
    rwa [Int.natCast_mul] at h
  have hr := run_make (P := Trym.prog) w t e i z ht hi hz .i64 .i64 n n (by omega) (Int.le_refl _) h2 (by omega)
  simpa only [Int.toNat_natCast, hs] using hr

/-- The keys of es lie in block g, one behind the other. -/
def KeysAt (w : World) (g : Nat) (es : List Ent) : Prop := ∀ i e, es[i]? = some e → w.rangeAt g (i * 32) (keyCells e.key)
/-- The []byte's of es lie in block g. -/
def TxsIn (w : World) (g : Nat) (es : List Ent) : Prop := ∀ i e, es[i]? = some e → w.cell? ⟨g, i, none⟩ = some (.slice e.a e.n e.c)

theorem KeysAt.later {w w' : World} {g : Nat} {es : List Ent} (h : KeysAt w g es) (hb : Below w.heap.size w w') : KeysAt w' g es := fun i e he => rangeAt_later hb (h i e he)
theorem TxsIn.later {w w' : World} {g : Nat} {es : List Ent} (h : TxsIn w g es) (hb : Below w.heap.size w w') : TxsIn w' g es := fun i e he => (hb.cell (block_lt_of_cell (h i e he))).trans (h i e he)

/-- A queue in memory: its struct in block q, its entries from place 'off' of block g on, its map in block r. -/
structure QueueAt (w : World) (q g off cap r : Nat) (batch : Int) (n : Nat) (B sz by_ : Int) : Prop where
  cells : w.heap[q]? = some (.cells #[.int .i64 batch, .slice (some ⟨g, off, none⟩) n cap, .map (some r), .int .u64 B, .int .i64 sz, .int .i64 by_] 66 (0, 0))

theorem mk5 {w : World} {gk gt g k : Nat} {e : Ent} (h1 : w.rangeAt gk (k * 32) (keyCells e.key)) (h2 : w.cell? ⟨gt, k, none⟩ = some (.slice e.a e.n e.c)) (h3 : w.there g (k * 33) 33) :
    w.rangeAt gk (k * 32) (keyCells e.key) ∧ w.cell? ⟨gt, k, none⟩ = some (.slice e.a e.n e.c) ∧ ∀ cs, Cells33 cs → (st68 ⟨g, k * 33, none⟩ (.agg cs.toArray)).run Trym.prog w = .ok () (w.setCells g (k * 33) cs) :=
  ⟨h1, h2, fun _ hc => run_st68 h3 hc⟩

/-- What ZZNewTxQueue leaves. -/
structure NewPost (w : World) (r : Nat) (batch B sz by_ : Int) (es : List Ent) (e : Ending) (w' : World) : Prop where
  form : ∃ q g, e = .returned (.pointer (some ⟨q, 0, none⟩)) ∧ w.heap.size ≤ q ∧ w.heap.size ≤ g ∧ q ≠ g ∧ QueueAt w' q g 0 es.length r batch es.length B sz by_ ∧ RowIs w' g 68 es
  below : Below w.heap.size w w'

set_option maxRecDepth 100000 in
set_option maxHeartbeats 1600000 in
theorem newTxQueue_any (gk gt r : Nat) (es : List Ent) (batch B sz by_ : Int) (w : World) (hkeys : Hid (KeysAt w gk es)) (htxs : Hid (TxsIn w gt es)) (hn : es.length ≤ 1048576) :
    Calls Trym.prog 37 #[.int .i64 batch, .slice (some ⟨gk, 0, none⟩) es.length es.length, .slice (some ⟨gt, 0, none⟩) es.length es.length, .map (some r), .int .u64 B, .int .i64 sz, .int .i64 by_] w (NewPost w r batch B sz by_ es) := by
  have hmk := make_ents Trym.underlying64 Trym.info68 es.length hn
  have hu50 := Trym.underlying50
  go_enter Trym.func37, Trym.ntmps37
  go_wp2
  go_loopw [22] (fun i wr => ∃ k : Nat, k ≤ es.length ∧ i = .int .i64 k ∧ Below w.heap.size w wr ∧ ∃ l : List Ent, l.length = es.length ∧ RowIs wr w.heap.size 68 l ∧ l.take k = es.take k) (fun i _ => es.length - (intOf i).toNat)
  case atStart => exact ⟨0, Nat.zero_le _, rfl, (Below.refl _ _).alloc (Nat.le_refl _) _, _, List.length_replicate, heap_alloc_new _ _, by simp⟩
  case round =>
    obtain ⟨k, hk, rfl, hbel, l, hll, hblk, htake⟩ := hrel
    by_cases hlt : k < es.length
    · obtain ⟨e, he⟩ : ∃ e, es[k]? = some e := ⟨_, List.getElem?_eq_getElem hlt⟩
      have hi0 : (0 : Int) ≤ (k : Int) := Int.natCast_nonneg _
      have hi1 : (k : Int) < (es.length : Int) := by omega
      have hk1 := hkeys.out k e he
      have ht1 := htxs.out k e he
      have HK1 := hide (rangeAt_later hbel hk1)
      have HT1 := hide ((hbel.cell (block_lt_of_cell ht1)).trans ht1)
      have hgt : gt ≠ w.heap.size := Nat.ne_of_lt (block_lt_of_cell ht1)
      have hgk : gk ≠ w.heap.size := Nat.ne_of_lt (block_lt_of_cell (a := ⟨gk, k * 32 + 0, none⟩) (hk1 0 (.int .u8 (e.key[0]'(by rw [e.len]; omega))) (by simp [keyCells, e.len])))
      have HTh := hide (hblk.there (i := k) (by omega))
      have hi50 : (Trym.prog.info? 50).map (·.size) = some (keyCells e.key).length := by rw [Trym.size50, keyCells_length, e.len]
      have hbd := run_bd68 e.len
      have hc33 := cells33_mk e.len
      have HB := hide hbel
      have HK := hide hblk
      have HC := hide hll
      have HS := hide htake
      have HE := hide he
      have HN1 := hide hgt
      have HN2 := hide hgk
      clear hbel hblk hll htake he hmk hk1 ht1 hgt hgk
      go_wp2_with fail
      go_region_held3 (fun w' => w'.rangeAt gk (k * 32) (keyCells e.key) ∧ w'.cell? ⟨gt, k, none⟩ = some (.slice e.a e.n e.c) ∧ ∀ cs, Cells33 cs → (st68 ⟨w.heap.size, k * 33, none⟩ (.agg cs.toArray)).run Trym.prog w' = .ok () (w'.setCells w.heap.size (k * 33) cs))
        (first | exact mk5 (w := wr.drew) (by simpa using HK1.out) (by simpa using HT1.out) (by simpa using HTh.out) | exact mk5 (World.rangeAt_setCells_apart (by simpa using HK1.out) _ _ _ (Or.inl HN2.out)) (by rw [World.cell?_of_block (heap_setCells_other _ _ _ _ _ HN1.out)]; exact HT1.out) (World.there_setCells (by simpa using HTh.out) _ _ _))
        (fail)
      have hcells : keyCells e.key ++ [Value.slice e.a e.n e.c] = entCells e := rfl
      rw [hcells]
      clear hcells
      go_wp2
      go_roundw
      case rel =>
        have hkl : k < l.length := by rw [HC.out]; exact hlt
        refine ⟨k + 1, by omega, by go_num, below_setCells (HB.out.drew) (Nat.le_refl _) _ _, l.set k e, by simpa using HC.out, RowIs.stored (w := wr.drew) HK.out hkl e, ?_⟩
        rw [List.take_add_one, List.take_add_one, List.take_set_of_le (Nat.le_refl _), HS.out, HE.out]
        simp [hkl]
      case measure => simp [intOf]; omega
    · obtain rfl : k = es.length := by omega
      have hle : l = es := by
        rw [List.take_of_length_le (by omega), List.take_length] at htake
        exact htake
      subst hle
      go_wp2
      go_ret
      have hlt2 := lt_of_block hblk
      exact ⟨⟨wr.heap.size, w.heap.size, rfl, Nat.le_of_lt hlt2, Nat.le_refl _, by omega, ⟨heap_alloc_new _ _⟩, hblk.later ((Below.refl _ _).alloc (Nat.le_refl _) _)⟩, hbel.alloc hbel.size _⟩

/-- What newQueue leaves. -/
structure QueuePost (w : World) (batch B sz by_ : Int) (es : List Ent) (e : Ending) (w' : World) : Prop where
  form : ∃ q g r, e = .returned (.pointer (some ⟨q, 0, none⟩)) ∧ w.heap.size ≤ q ∧ w.heap.size ≤ g ∧ w.heap.size ≤ r ∧ q ≠ g ∧ q ≠ r ∧ g ≠ r ∧ QueueAt w' q g 0 es.length r batch es.length B sz by_ ∧ RowIs w' g 68 es ∧ MapIs w' r okKey keyVal (placesFrom B 0 es)
  below : Below w.heap.size w w'

theorem QueueAt.ne_map {α : Type} {ok : α → Prop} {KV : α → Value} {M : List (α × Value)} {w : World} {q g off cap r r2 : Nat} {batch : Int} {n : Nat} {B sz by_ : Int} (h : QueueAt w q g off cap r batch n B sz by_) (hm : MapIs w r2 ok KV M) : q ≠ r2 := by
  rintro rfl
  obtain ⟨es, c, h1, -⟩ := hm
  have := h.cells
  rw [h1] at this
  cases this
theorem RowIs.ne_map {α : Type} {ok : α → Prop} {KV : α → Value} {M : List (α × Value)} {w : World} {g r : Nat} {T : TypeId} {es : List Ent} (h : RowIs w g T es) (hm : MapIs w r ok KV M) : g ≠ r := by
  rintro rfl
  obtain ⟨es, c, h1, -⟩ := hm
  have := h
  unfold RowIs at this
  rw [h1] at this
  cases this

set_option maxRecDepth 100000 in
set_option maxHeartbeats 1600000 in
theorem newQueue_any (a : Option Addr) (c : Nat) (es : List Ent) (batch B sz by_ : Int) (w : World) (hrow : Hid (EntsAt w a es)) (hn : es.length ≤ 1048576) (hnd : Hid (pkeys es).Nodup) :
    Calls Trym.prog 18 #[.int .i64 batch, .slice a es.length c, .int .u64 B, .int .i64 sz, .int .i64 by_] w (QueuePost w batch B sz by_ es) := by
  have hmk := make_any Trym.underlying42 Trym.info50 es.length hn (by decide)
  have hmk2 := make_any Trym.underlying22 Trym.info47 es.length hn (by decide)
  go_enter Trym.func18, Trym.ntmps18
  go_wp2
  go_loopw [24] (fun i wr => ∃ k : Nat, k ≤ es.length ∧ i = .int .i64 k ∧ Below w.heap.size w wr ∧ (∃ C, wr.heap[w.heap.size]? = some (.cells C 50 (0, 0)) ∧ C.size = es.length * 32) ∧ (∃ D, wr.heap[w.heap.size + 1]? = some (.cells D 47 (0, 0)) ∧ D.size = es.length) ∧ KeysAt wr w.heap.size (es.take k) ∧ TxsIn wr (w.heap.size + 1) (es.take k)) (fun i _ => es.length - (intOf i).toNat)
  case atStart =>
    refine ⟨0, Nat.zero_le _, rfl, ((Below.refl _ _).alloc (Nat.le_refl _) _).alloc (by simp) _, ⟨_, heap_alloc2_old _ _ _, size_madeCells _ _⟩, ⟨_, heap_alloc2_new _ _ _, by simp [size_madeCells]⟩, ?_, ?_⟩
    · intro i e h; simp at h
    · intro i e h; simp at h
  case round =>
    obtain ⟨k, hk, rfl, hbel, ⟨C, hC, hCs⟩, ⟨D, hD, hDs⟩, hkeys, htxs⟩ := hrel
    by_cases hlt : k < es.length
    · obtain ⟨e, b, off, he, rfl, hr⟩ := hrow.out.at hlt
      have hr1 := rangeAt_later hbel hr
      have hbne : b ≠ w.heap.size := Nat.ne_of_lt (block_lt_of_cell (rangeAt_tx hr))
      have HR := hide (rangeAt_key hr1)
      have hth : wr.there w.heap.size (k * 32) (keyCells e.key).toArray.size := by
        intro j hj
        have hj2 : j < 32 := by simpa [keyCells_length, e.len] using hj
        rw [cell_of_row _ _ _ _ _ _ hC, frozen_of_row _ _ _ _ _ hC]
        exact ⟨by rw [Array.getElem?_eq_getElem (by rw [hCs]; omega)]; rfl, rfl⟩
      have HTh := hide hth
      have htx : (wr.setCells w.heap.size (k * 32) (keyCells e.key)).cell? ⟨b, off + k * 33 + 32, none⟩ = some (.slice e.a e.n e.c) := by
        rw [World.cell?_of_block (heap_setCells_other _ _ _ _ _ hbne)]; exact rangeAt_tx hr1
      have hD2 : (wr.setCells w.heap.size (k * 32) (keyCells e.key)).heap[w.heap.size + 1]? = some (.cells D 47 (0, 0)) := by
        rw [heap_setCells_other _ _ _ _ _ (by omega)]; exact hD
      have hfz : (wr.setCells w.heap.size (k * 32) (keyCells e.key)).frozen? ⟨w.heap.size + 1, k, none⟩ = false := frozen_of_row _ _ _ _ _ hD2
      obtain ⟨old, hold⟩ : ∃ old, (wr.setCells w.heap.size (k * 32) (keyCells e.key)).cell? ⟨w.heap.size + 1, k, none⟩ = some old := by
        rw [cell_of_row _ _ _ _ _ _ hD2]; exact ⟨_, Array.getElem?_eq_getElem (by omega)⟩
      have HB := hide hbel
      have H1 := hide hC
      have H2 := hide hCs
      have H3 := hide hD2
      have H4 := hide hDs
      have H5 := hide hkeys
      have H6 := hide htxs
      have HE := hide he
      clear hr hr1 hbne hth hbel hC hCs hD hDs hkeys htxs he hmk hmk2 hD2
      go_wp2_with (first | (refine wpList_load_mid rfl 50 _ rfl _ _ rfl (keyCells e.key) _ HR.out Trym.underlying50 rfl (by rw [Trym.size50, keyCells_length, e.len]) ?_) | (refine wpList_store_mid rfl 50 _ _ rfl _ _ (keyCells e.key).toArray rfl rfl HTh.out (by rw [Trym.size50]; simp [keyCells_length, e.len]) (all_oneCell_toArray (keyCells_one _)) ?_))
      go_roundw
      case rel =>
        have hkk : (es.take k).length = k := by simp; omega
        have hsame : KeysAt (wr.setCells w.heap.size (k * 32) (keyCells e.key)) w.heap.size (es.take (k + 1)) := by
          intro i x hx
          rw [take_snoc_ent HE.out] at hx
          by_cases hik : i < k
          · rw [List.getElem?_append_left (by omega)] at hx
            refine World.rangeAt_setCells_apart (H5.out i x hx) _ _ _ (Or.inr (Or.inl ?_))
            rw [keyCells_length, x.len]; omega
          · rw [List.getElem?_append_right (by omega), hkk] at hx
            have hi2 : i = k := by
              have := (List.getElem?_eq_some_iff.1 hx).1
              simp at this; omega
            subst hi2
            have : x = e := by simpa using hx.symm
            subst this
            exact World.rangeAt_setCells_same _ _ _ _ (by simpa using HTh.out)
        have hcs := heap_setCells_same w.heap.size 50 (keyCells e.key) (k * 32) wr C H1.out
        refine ⟨k + 1, by omega, by go_num, (below_setCells HB.out (Nat.le_refl _) _ _).setCell (Nat.le_succ _) _, ⟨_, (heap_setCell_other _ _ _ _ (by simp)).trans hcs, by rw [size_putRow]; exact H2.out⟩, ⟨_, heap_setCell_same _ _ _ _ _ _ H3.out, by simpa using H4.out⟩, ?_, ?_⟩
        · intro i x hx j v hv
          rw [World.cell?_of_block (heap_setCell_other _ ⟨w.heap.size + 1, k, none⟩ w.heap.size _ (by simp))]
          exact hsame i x hx j v hv
        · intro i x hx
          rw [cell_of_row _ _ _ _ _ _ (heap_setCell_same _ _ _ _ _ _ H3.out), Array.getElem?_setIfInBounds]
          rw [take_snoc_ent HE.out] at hx
          by_cases hik : i < k
          · rw [List.getElem?_append_left (by omega)] at hx
            rw [if_neg (by omega), ← cell_of_row _ _ _ _ _ _ H3.out, World.cell?_of_block (heap_setCells_other _ _ _ _ _ (by simp))]
            exact H6.out i x hx
          · rw [List.getElem?_append_right (by omega), hkk] at hx
            have hi2 : i = k := by
              have := (List.getElem?_eq_some_iff.1 hx).1
              simp at this; omega
            subst hi2
            have : x = e := by simpa using hx.symm
            subst this
            rw [if_pos rfl, if_pos (by rw [H4.out]; exact hlt)]
      case measure => simp [intOf]; omega
    · obtain rfl : k = es.length := by omega
      rw [List.take_length] at hkeys htxs
      have HB := hide hbel
      have H5 := hide hkeys
      have H6 := hide htxs
      clear hbel hC hD hkeys htxs hmk hmk2 hCs hDs
      go_wp2_with fail
      refine (placesOf_any a c es B _ (hrow.out.later HB.out) hn).mono ?_
      rintro e1 w1 ⟨hform, hb1⟩
      rcases hform with ⟨-, hno⟩ | ⟨r, rfl, hr, hm, -⟩
      · exact absurd hnd.out hno
      have HB1 := hide hb1
      have HM := hide hm
      have HR := hide hr
      clear hb1 hm hr
      go_wp2_with fail
      refine (newTxQueue_any _ _ r es batch B sz by_ _ (H5.out.later HB1.out) (H6.out.later HB1.out) hn).mono ?_
      rintro e2 w2 ⟨⟨q, g, rfl, hq, hg, hqg, hQ, hRow⟩, hb2⟩
      have HB2 := hide hb2
      have HQ := hide hQ
      have HRow := hide hRow
      have HX := hide (And.intro hq (And.intro hg hqg))
      clear hb2 hQ hRow hq hg hqg
      go_wp2_with fail
      go_ret
      obtain ⟨hq, hg, hqg⟩ := HX.out
      have hm2 := HM.out.later HB2.out
      have h1 := HB.out.size
      have h2 := HB1.out.size
      exact ⟨⟨q, g, r, rfl, by omega, by omega, Nat.le_trans h1 HR.out, hqg, HQ.out.ne_map hm2, HRow.out.ne_map hm2, HQ.out, HRow.out, hm2⟩, (HB.out.trans (HB1.out.mono h1)).trans (HB2.out.mono (Nat.le_trans h1 h2))⟩

end Go.Proofs.Qxb6601980aMods
