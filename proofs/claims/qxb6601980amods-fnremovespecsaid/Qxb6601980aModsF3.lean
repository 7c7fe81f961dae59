import Derived.Test.Qxb6601980aModsF2
namespace Go.Proofs.Qxb6601980aMods
open Go.RowKit
attribute [local go_sem] Trym.eqNil47 Trym.neNil47
attribute [local go_sem ↓] ld53_eq st53_eq bd53_eq ld68_eq st68_eq bd68_eq bs28_eq

/-- All blocks but some are as they were. -/
structure Kept (ex : Nat → Prop) (w w' : World) : Prop where
  os : w'.os = w.os
  tape : w'.tape = w.tape
  output : w'.output = w.output
  size : w.heap.size ≤ w'.heap.size
  block : ∀ k, k < w.heap.size → ¬ ex k → w'.heap[k]? = w.heap[k]?

theorem Kept.refl (ex : Nat → Prop) (w : World) : Kept ex w w := ⟨rfl, rfl, rfl, Nat.le_refl _, fun _ _ _ => rfl⟩
theorem Kept.trans {ex : Nat → Prop} {a b c : World} (h : Kept ex a b) (k : Kept ex b c) : Kept ex a c :=
  ⟨k.os.trans h.os, k.tape.trans h.tape, k.output.trans h.output, Nat.le_trans h.size k.size, fun i hi hx => (k.block i (Nat.lt_of_lt_of_le hi h.size) hx).trans (h.block i hi hx)⟩
theorem Kept.of_below {ex : Nat → Prop} {w w' : World} (h : Below w.heap.size w w') : Kept ex w w' := ⟨h.os, h.tape, h.output, h.size, fun k hk _ => h.block k hk⟩
theorem Kept.of_turned {ex : Nat → Prop} {r : Nat} {w w' : World} (h : Turned r w w') (hr : ex r) : Kept ex w w' :=
  ⟨h.os, h.tape, h.output, Nat.le_of_eq h.size.symm, fun k _ hx => h.block k (fun e => hx (e ▸ hr))⟩
theorem Kept.setCell {ex : Nat → Prop} {a w : World} (h : Kept ex a w) {p : Addr} (hp : ex p.block) (u : Value) : Kept ex a (w.setCell p u) :=
  h.trans ⟨rfl, rfl, rfl, by simp [World.setCell], fun k _ hx => heap_setCell_other _ _ k _ (fun e => hx (by rw [e]; exact hp))⟩
theorem Kept.setCells {ex : Nat → Prop} {a w : World} (h : Kept ex a w) {g : Nat} (hg : ex g) (cs : List Value) (o : Nat) : Kept ex a (w.setCells g o cs) := by
  induction cs generalizing o w with
  | nil => exact h
  | cons v r ih => exact ih (h.setCell (p := ⟨g, o, none⟩) hg v) _
theorem Kept.alloc {ex : Nat → Prop} {a w : World} (h : Kept ex a w) (o : Obj) : Kept ex a (w.alloc o) :=
  h.trans ⟨rfl, rfl, rfl, by simp, fun k hk _ => heap_alloc_old _ _ hk⟩
theorem Kept.drew {ex : Nat → Prop} {a w : World} (h : Kept ex a w) : Kept ex a w.drew := ⟨h.os, h.tape, h.output, h.size, h.block⟩
theorem Kept.below {ex : Nat → Prop} {w w' : World} {B : Nat} (h : Kept ex w w') (hB : B ≤ w.heap.size) (hx : ∀ k, k < B → ¬ ex k) : Below B w w' :=
  ⟨h.os, h.tape, h.output, h.size, fun k hk => h.block k (by omega) (hx k hk)⟩
theorem Kept.cell {ex : Nat → Prop} {w w' : World} (h : Kept ex w w') {p : Addr} {v : Value} (hc : w.cell? p = some v) (hx : ¬ ex p.block) : w'.cell? p = some v :=
  (World.cell?_of_block (h.block p.block (block_lt_of_cell hc) hx)).trans hc

theorem QueueAt.of_block {w w' : World} {q g off cap r : Nat} {batch : Int} {n : Nat} {B sz by_ : Int} (h : QueueAt w q g off cap r batch n B sz by_) (hb : w'.heap[q]? = w.heap[q]?) : QueueAt w' q g off cap r batch n B sz by_ := ⟨hb.trans h.cells⟩
theorem QueueAt.lt {w : World} {q g off cap r : Nat} {batch : Int} {n : Nat} {B sz by_ : Int} (h : QueueAt w q g off cap r batch n B sz by_) : q < w.heap.size := lt_of_block h.cells
/-- The six cells of a queue's struct. -/
theorem QueueAt.get {w : World} {q g off cap r : Nat} {batch : Int} {n : Nat} {B sz by_ : Int} (h : QueueAt w q g off cap r batch n B sz by_) :
    w.cell? ⟨q, 0, none⟩ = some (.int .i64 batch) ∧ w.cell? ⟨q, 1, none⟩ = some (.slice (some ⟨g, off, none⟩) n cap) ∧ w.cell? ⟨q, 2, none⟩ = some (.map (some r)) ∧ w.cell? ⟨q, 3, none⟩ = some (.int .u64 B) ∧ w.cell? ⟨q, 4, none⟩ = some (.int .i64 sz) ∧ w.cell? ⟨q, 5, none⟩ = some (.int .i64 by_) := by
  refine ⟨?_, ?_, ?_, ?_, ?_, ?_⟩ <;> (rw [cell_of_row _ _ _ _ _ _ h.cells]; rfl)

theorem wrap_u64_of {n : Int} (h0 : 0 ≤ n) (h1 : n ≤ 18446744073709551615) : IntKind.u64.wrap n = n := by
  rw [IntKind.wrap_u64]; omega

/-- 'clear(entries[:t])' -/
theorem run_clear68 {w : World} {g : Nat} {l : List Ent} (hR : RowIs w g 68 l) {t : Nat} (ht : t ≤ l.length) (cap : Nat) :
    ∃ w', (∀ ty, (Builtin.clear_ #[64] ty #[.slice (some ⟨g, 0, none⟩) t cap]).run Trym.prog w = .ok (.tuple #[]) w') ∧ RowIs w' g 68 (List.replicate t Ent.zero ++ l.drop t) ∧ Kept (fun k => k = g) w w' := by
  cases t with
  | zero =>
    refine ⟨w, fun ty => ?_, by simpa using hR, Kept.refl _ _⟩
    simp [Builtin.clear_, run_underlying Trym.underlying64]
  | succ t =>
    obtain ⟨i, hi, hz, hs, -⟩ := info_parts Trym.info68
    have hzc : (Builtin.zeroCells (entCells Ent.zero).toArray (t + 1)).toList = flat (List.replicate (t + 1) Ent.zero) := by
      have := madeCells_flat (t + 1)
      have h2 : Builtin.zeroCells (entCells Ent.zero).toArray (t + 1) = madeCells (entCells Ent.zero).toArray ((t + 1) * 33) := by
        simp [Builtin.zeroCells, madeCells, entCells_length]
      rw [h2, this]
    have hst := run_storeCells_cells (P := Trym.prog) g 0 (flat (List.replicate (t + 1) Ent.zero)) 0 w
      (fun j hj => by
        rw [flat_length, List.length_replicate] at hj
        rw [cell_of_row _ _ _ _ _ _ hR, Array.getElem?_eq_getElem (by simp [flat_length]; omega)]; rfl)
      (fun j _ => frozen_of_row _ _ _ _ _ hR)
      (fun v hv => by
        obtain ⟨x, -, hx⟩ := List.mem_flatMap.1 hv
        exact entCells_one x v hx)
    refine ⟨w.setCells g 0 (flat (List.replicate (t + 1) Ent.zero)), fun ty => ?_, ?_, Kept.setCells (ex := fun k => k = g) (Kept.refl _ _) rfl _ _⟩
    · simp only [Nat.add_zero] at hst
      simp [Builtin.clear_, run_underlying Trym.underlying64, zeroValue, typeInfo, hi, hz, Value.cells, hzc, hst]
    · unfold RowIs
      rw [heap_setCells_same g 68 _ 0 w _ hR]
      have : putRow (flat l).toArray 0 (flat (List.replicate (t + 1) Ent.zero)) = (flat (List.replicate (t + 1) Ent.zero ++ l.drop (t + 1))).toArray := by
        apply Array.ext'
        rw [toList_putRow _ _ _ (by simp [flat_length]; omega), flat_append, flat_length, List.length_replicate, Nat.zero_add, ← flat_drop]
        simp
      rw [this]

theorem ents_drop {w : World} {g : Nat} {T : TypeId} {a b : List Ent} (h : RowIs w g T (a ++ b)) : EntsAt w (some ⟨g, a.length * 33, none⟩) b := by
  intro i e he
  refine ⟨g, _, rfl, ?_⟩
  rw [← Nat.add_mul]
  exact h.range (by rw [List.getElem?_append_right (by omega), Nat.add_sub_cancel_left]; exact he)

/-- What pack leaves. -/
structure PackPost (w : World) (q g r : Nat) (batch B sz by_ : Int) (es : List Ent) (e : Ending) (w' : World) : Prop where
  form : e = .returned (.tuple #[])
  queue : ∃ off, QueueAt w' q g off (packed (packEnd batch es) es).length r batch (packed (packEnd batch es) es).length (IntKind.u64.wrap (B + ((packEnd batch es - liveN (es.take (packEnd batch es)) : Nat) : Int))) sz by_ ∧ EntsAt w' (some ⟨g, off, none⟩) (packed (packEnd batch es) es)
  map : ∃ M, MapIs w' r okKey keyVal M ∧ M.length = liveN es ∧ ∀ t x, (packed (packEnd batch es) es)[t]? = some x → x.live = true → getM x.key M = some (placeVal B (packEnd batch es - liveN (es.take (packEnd batch es)) + t))
  kept : Kept (fun k => k = q ∨ k = g ∨ k = r) w w'

theorem pack_end {w w1 : World} {q g r off T E : Nat} {batch B sz by_ : Int} {es : List Ent} {M' : List (List Int × Value)} (hEq : E = packEnd batch es) (hT : T = toAt E es 0) (hE : E ≤ es.length) (hqg : q ≠ g) (hqr : q ≠ r)
    (hQ : QueueAt w1 q g 0 es.length r batch es.length B sz by_) (hR : RowIs w1 g 68 (List.replicate T Ent.zero ++ (arrAt E es 0).drop T)) (hM : MapIs w1 r okKey keyVal M') (hml : M'.length = liveN es) (hinv : PlacesInv B E es 0 M')
    (hk : Kept (fun k => k = q ∨ k = g ∨ k = r) w w1) (hoff : off = T * 33 ∨ es.length = T) :
    PackPost w q g r batch B sz by_ es (.returned (.tuple #[])) ((w1.setCell ⟨q, 1, none⟩ (.slice (some ⟨g, off, none⟩) (es.length - T) (es.length - T))).setCell ⟨q, 3, none⟩ (.int .u64 (IntKind.u64.wrap (B + (T : Int))))) := by
  have hTE : T ≤ E := by rw [hT]; exact toAt_le
  have hdrop : (arrAt E es 0).drop T = packed E es := by
    unfold arrAt
    rw [← hT, List.drop_append_of_le_length (by simp; omega), List.drop_of_length_le (by simp; omega), List.nil_append, rowR_end]
  have hpl : (packed E es).length = es.length - T := by
    rw [← hdrop, List.length_drop, arrAt_length hE]
  have hTd : T = E - liveN (es.take E) := by rw [hT, toAt_end]
  have hb1 : ∀ k, k ≠ q → ((w1.setCell ⟨q, 1, none⟩ (.slice (some ⟨g, off, none⟩) (es.length - T) (es.length - T))).setCell ⟨q, 3, none⟩ (.int .u64 (IntKind.u64.wrap (B + (T : Int))))).heap[k]? = w1.heap[k]? := fun k hkq => by
    rw [heap_setCell_other _ _ _ _ hkq, heap_setCell_other _ _ _ _ hkq]
  have hR2 : RowIs ((w1.setCell ⟨q, 1, none⟩ (.slice (some ⟨g, off, none⟩) (es.length - T) (es.length - T))).setCell ⟨q, 3, none⟩ (.int .u64 (IntKind.u64.wrap (B + (T : Int))))) g 68 (List.replicate T Ent.zero ++ packed E es) := by
    unfold RowIs
    rw [hb1 g (Ne.symm hqg), ← hdrop]
    exact hR
  refine ⟨rfl, ⟨off, ?_, ?_⟩, ⟨M', hM.of_block (hb1 r (Ne.symm hqr)), hml, ?_⟩, (hk.setCell (p := ⟨q, 1, none⟩) (Or.inl rfl) _).setCell (p := ⟨q, 3, none⟩) (Or.inl rfl) _⟩
  · rw [← hEq, ← hTd, hpl]
    exact ⟨heap_setCell_same _ _ _ _ _ _ (heap_setCell_same _ _ _ _ _ _ hQ.cells)⟩
  · rw [← hEq]
    rcases hoff with rfl | h
    · have := ents_drop hR2
      rwa [List.length_replicate] at this
    · have : packed E es = [] := List.eq_nil_of_length_eq_zero (by omega)
      rw [this]
      intro i e he
      simp at he
  · rw [← hEq, ← hTd]
    intro t x hx hl
    rw [← rowR_end] at hx
    rw [hT]
    exact hinv.2 t x hx hl

theorem all_live {es : List Ent} (h : liveN es = es.length) (k : Nat) : packed k es = es ∧ liveN (es.take k) = (es.take k).length := by
  have hall : ∀ x ∈ es, x.live = true := by
    have : (es.filter Ent.live).length = es.length := h
    exact List.length_filter_eq_length_iff.1 this
  have hf : (es.take k).filter Ent.live = es.take k := List.filter_eq_self.2 fun x hx => hall x (List.mem_of_mem_take hx)
  refine ⟨?_, ?_⟩
  · rw [packed, hf, List.take_append_drop]
  · rw [liveN, hf]

set_option maxRecDepth 100000 in
set_option maxHeartbeats 3200000 in
theorem pack_any (q g r : Nat) (batch B sz by_ : Int) (es : List Ent) (M : List (List Int × Value)) (w : World) (hn : es.length ≤ 1048576) (hqg : q ≠ g) (hqr : q ≠ r) (hgr : g ≠ r)
    (hB : IntKind.u64.wrap B = B)
    (hQ : QueueAt w q g 0 es.length r batch es.length B sz by_) (hR : RowIs w g 68 es) (hM : MapIs w r okKey keyVal M) (hlen : M.length = liveN es) (hnd : (pkeys es).Nodup) (hpl : ∀ i x, es[i]? = some x → x.live = true → getM x.key M = some (placeVal B i)) :
    Calls Trym.prog 38 #[.pointer (some ⟨q, 0, none⟩)] w (PackPost w q g r batch B sz by_ es) := by
  obtain ⟨c0, c1, c2, c3, -, -⟩ := hQ.get
  have hml : ∀ x : World, x.heap = w.heap → (Builtin.len_ #[32] 3 #[.map (some r)]).run Trym.prog x = .ok (.int .i64 (liveN es)) x := fun x hx => by
    have := run_len_of (t := 32) (P := Trym.prog) Trym.underlying32 (hM.of_block (w' := x) (by rw [hx])) 3
    rwa [hlen] at this
  have hlw := hml w.drew rfl
  have HML := hide hml
  have HQ := hide hQ
  have HR := hide hR
  have HM := hide hM
  have HLEN := hide hlen
  have HND := hide hnd
  have HPL := hide hpl
  have HBw := hide hB
  have hll := liveN_le es
  clear hQ hR hM hlen hnd hpl hB hml
  have hwr : IntKind.i64.wrap ((es.length : Int) - (liveN es : Int)) = (es.length : Int) - (liveN es : Int) := by rw [IntKind.wrap_i64]; omega
  go_enter Trym.func38, Trym.ntmps38
  go_wp2
  go_region_held3 (fun w' => w'.cell? ⟨q, 1, none⟩ = some (.slice (some ⟨g, 0, none⟩) es.length es.length) ∧ w'.cell? ⟨q, 2, none⟩ = some (.map (some r)) ∧ (Builtin.len_ #[32] 3 #[.map (some r)]).run Trym.prog w' = .ok (.int .i64 (liveN es)) w')
    (exact ⟨by simpa using c1, by simpa using c2, hlw⟩) (fail)
  clear hwr
  by_cases hz : liveN es = es.length
  · have hz0 : ((es.length : Int) - (liveN es : Int) == 0) = true := beq_iff_eq.2 (by omega)
    have HZ := hide hz
    clear hz
    go_wp2
    go_end0
    obtain ⟨hp1, hp2⟩ := all_live HZ.out (packEnd batch es)
    have hz1 : packEnd batch es - liveN (es.take (packEnd batch es)) = 0 := by
      have := packEnd_le batch es
      rw [hp2, List.length_take]; omega
    refine ⟨rfl, ⟨0, ?_, ?_⟩, ⟨M, HM.out.of_block rfl, HLEN.out, ?_⟩, (Kept.refl _ _).drew⟩
    · rw [hp1, hz1, Int.natCast_zero, Int.add_zero, HBw.out]
      exact HQ.out.of_block rfl
    · rw [hp1]
      exact RowIs.ents (w := w.drew) HR.out
    · rw [hp1, hz1]
      intro t x hx hl
      rw [Nat.zero_add]
      exact HPL.out t x hx hl
  have hz0 : ((es.length : Int) - (liveN es : Int) == 0) = false := beq_eq_false_iff_ne.2 (by omega)
  have hlt0 : liveN es < es.length := by omega
  clear hz
  go_upto_if 34 with fail
  go_cut [3] (fun s wc => s = .int .i64 (packEnd batch es) ∧ Below w.heap.size w wc)
  case first =>
    by_cases hc : (es.length : Int) - (liveN es : Int) ≤ (liveN es : Int)
    · have hpe : packEnd batch es = winEnd batch es := by unfold packEnd; rw [if_pos (by omega)]
      have HPE := hide hpe
      clear hpe
      rw [show decide ((es.length : Int) - (liveN es : Int) ≤ (liveN es : Int)) = true from decide_eq_true hc]
      go_wp2
      go_loopw [3, 4, 40] (fun d s i wr => ∃ k : Nat, k ≤ es.length ∧ i = .int .i64 k ∧ s = .int .i64 (liveN (es.take k)) ∧ d = .int .i64 es.length ∧ Below w.heap.size w wr ∧ Hid (Scan batch es k)) (fun _ _ i _ => es.length - (intOf i).toNat)
      case atStart => exact ⟨0, Nat.zero_le _, rfl, rfl, rfl, (Below.refl _ _).drew, Scan.start _ _⟩
      case round =>
        obtain ⟨k, hk, rfl, rfl, rfl, hbel, HS⟩ := hrel
        by_cases hlt : k < es.length
        · obtain ⟨e, he⟩ : ∃ e, es[k]? = some e := ⟨_, List.getElem?_eq_getElem hlt⟩
          have HRg := hide (rangeAt_later hbel (HR.out.range he))
          have HB := hide hbel
          have HE := hide he
          have htx := cell_ent_tx wr e 68
          have hbt : (wr.alloc (.cells (entCells e).toArray 68)).cell? ⟨q, 0, none⟩ = some (.int .i64 batch) := by
            have h1 := (hbel.cell (block_lt_of_cell c0)).trans c0
            rw [World.cell?_alloc_lt _ _ _ (block_lt_of_cell h1)]; exact h1
          have hln := liveN_take_le es k
          clear he hbel
          by_cases hl : e.a.isNone = true
          · go_wp2_with (first | (refine wpList_load_mid rfl 68 _ rfl _ _ rfl (entCells e) _ HRg.out Trym.underlying68 rfl (by rw [Trym.size68, entCells_length]) ?_) | (refine wpList_alloc_row rfl 68 rfl _ _ _ Trym.info68 ?_) | (refine wpList_store_new rfl 68 _ _ rfl rfl (entCells e) rfl rfl (by simp [entCells_length]) (by rw [Trym.size68, entCells_length]) (entCells_one e) ?_))
            go_roundw
            case rel =>
              exact ⟨k + 1, by omega, by go_num, by rw [liveN_take_succ HE.out, live_of_isNone hl]; simp, rfl, HB.out.alloc HB.out.size _, HS.out.dead HE.out (live_of_isNone hl)⟩
            case measure => simp [intOf]; omega
          · have hl2 : e.a.isNone = false := Bool.not_eq_true _ ▸ hl
            clear hl
            by_cases hcc : (liveN (es.take k) : Int) + 1 = batch
            · have hc2 : ((liveN (es.take k) : Int) + 1 == batch) = true := beq_iff_eq.2 hcc
              have HC := hide hcc
              clear hcc
              go_wp2_with (first | (refine wpList_load_mid rfl 68 _ rfl _ _ rfl (entCells e) _ HRg.out Trym.underlying68 rfl (by rw [Trym.size68, entCells_length]) ?_) | (refine wpList_alloc_row rfl 68 rfl _ _ _ Trym.info68 ?_) | (refine wpList_store_new rfl 68 _ _ rfl rfl (entCells e) rfl rfl (by simp [entCells_length]) (by rw [Trym.size68, entCells_length]) (entCells_one e) ?_))
              go_meet
              case rel => exact ⟨by rw [HPE.out, HS.out.hit HE.out (live_of_some hl2) HC.out]; go_num, HB.out.alloc HB.out.size _⟩
            · have hc2 : ((liveN (es.take k) : Int) + 1 == batch) = false := beq_eq_false_iff_ne.2 hcc
              go_wp2_with (first | (refine wpList_load_mid rfl 68 _ rfl _ _ rfl (entCells e) _ HRg.out Trym.underlying68 rfl (by rw [Trym.size68, entCells_length]) ?_) | (refine wpList_alloc_row rfl 68 rfl _ _ _ Trym.info68 ?_) | (refine wpList_store_new rfl 68 _ _ rfl rfl (entCells e) rfl rfl (by simp [entCells_length]) (by rw [Trym.size68, entCells_length]) (entCells_one e) ?_))
              go_roundw
              case rel =>
                exact ⟨k + 1, by omega, by go_num, by rw [liveN_take_succ HE.out, live_of_some hl2]; go_num, rfl, HB.out.alloc HB.out.size _, HS.out.miss HE.out (live_of_some hl2) hcc⟩
              case measure => simp [intOf]; omega
        · obtain rfl : k = es.length := by omega
          have HB := hide hbel
          clear hbel
          go_wp2
          go_meet
          case rel => exact ⟨by rw [HPE.out, HS.out.stop], HB.out⟩
    · have hpe : packEnd batch es = es.length := by unfold packEnd; rw [if_neg (by omega)]
      have HPE := hide hpe
      clear hpe
      go_wp2
      go_meet
      case rel => exact ⟨by rw [HPE.out], (Below.refl _ _).drew⟩
  case rest =>
    obtain ⟨rfl, hbel⟩ := hcut
    obtain ⟨E, HEq⟩ : ∃ E, Hid (E = packEnd batch es) := ⟨_, rfl⟩
    rw [← HEq.out]
    have hE : E ≤ es.length := by rw [HEq.out]; exact packEnd_le _ _
    have HQ0 := hide (HQ.out.of_block (hbel.block q HQ.out.lt))
    have HR0 := hide (HR.out.later hbel)
    have HM0 := hide (HM.out.later hbel)
    have HK0 : Hid (Kept (fun k => k = q ∨ k = g ∨ k = r) w wc) := hide (Kept.of_below hbel)
    have hu50 := Trym.underlying50
    clear hbel c0 c1 c2 c3 hlw HML HQ HR HM hz0
    go_wp2
    go_loopw [7, 8] (fun t i wr => ∃ j : Nat, j ≤ E ∧ i = .int .i64 ((j : Int) - 1) ∧ t = .int .i64 (toAt E es j) ∧ Kept (fun k => k = q ∨ k = g ∨ k = r) w wr ∧ QueueAt wr q g 0 es.length r batch es.length B sz by_ ∧ RowIs wr g 68 (arrAt E es j) ∧ ∃ M', MapIs wr r okKey keyVal M' ∧ M'.length = liveN es ∧ PlacesInv B E es j M') (fun _ i _ => (intOf i + 1).toNat)
    case atStart => exact ⟨E, Nat.le_refl _, rfl, by rw [(arrAt_start hE).2], HK0.out, HQ0.out, by rw [(arrAt_start hE).1]; exact HR0.out, M, HM0.out, HLEN.out, PlacesInv.start hE HPL.out⟩
    case round =>
      obtain ⟨j, hj, rfl, rfl, hkept, hQ, hR, M', hM, hml, hinv⟩ := hrel
      obtain ⟨c0, c1, c2, c3, -, -⟩ := hQ.get
      cases j with
      | succ m =>
        obtain ⟨e, he⟩ : ∃ e, es[m]? = some e := ⟨_, List.getElem?_eq_getElem (by omega)⟩
        have HRg := hide (hR.range (arrAt_get hE (by omega) he))
        have htx := cell_ent_tx wr e 68
        have hlvl : q ≠ wr.heap.size := Nat.ne_of_lt hQ.lt
        have hd1 : (wr.alloc (.cells (entCells e).toArray 68)).cell? ⟨q, 1, none⟩ = some (.slice (some ⟨g, 0, none⟩) es.length es.length) := by
          rw [World.cell?_alloc_lt _ _ _ (block_lt_of_cell c1)]; exact c1
        have hm1 : (m : Int) < (es.length : Int) := by omega
        have hm0 : (0 : Int) ≤ (m : Int) := Int.natCast_nonneg _
        have HK := hide hkept
        have HQ := hide hQ
        have HR := hide hR
        have HM := hide hM
        have HML := hide hml
        have HI := hide hinv
        have HE := hide he
        have hjE : m < E := by omega
        rw [show ((m + 1 : Nat) : Int) - 1 = (m : Int) by omega]
        clear hkept hQ hR hM hml hinv he hj c0 c2 c3
        by_cases hl : e.a.isNone = true
        · go_wp2_with (first | (refine wpList_load_mid rfl 68 _ rfl _ _ rfl (entCells e) _ HRg.out Trym.underlying68 rfl (by rw [Trym.size68, entCells_length]) ?_) | (refine wpList_alloc_row rfl 68 rfl _ _ _ Trym.info68 ?_) | (refine wpList_store_new rfl 68 _ _ rfl rfl (entCells e) rfl rfl (by simp [entCells_length]) (by rw [Trym.size68, entCells_length]) (entCells_one e) ?_))
          go_roundw
          case rel =>
            have hd := live_of_isNone hl
            refine ⟨m, by omega, rfl, by rw [toAt_dead hE hjE HE.out hd], HK.out.alloc _, HQ.out.of_block (heap_alloc_old _ _ HQ.out.lt), ?_, M', HM.out.later ((Below.refl _ _).alloc (Nat.le_refl _) _), HML.out, HI.out.dead hE hjE HE.out hd⟩
            rw [arrAt_dead hE hjE HE.out hd]
            exact HR.out.later ((Below.refl _ _).alloc (Nat.le_refl _) _)
          case measure => simp [intOf]
        · have hl2 : e.a.isNone = false := Bool.not_eq_true _ ▸ hl
          have hlv := hide (live_of_some hl2)
          clear hl
          obtain ⟨T, HT⟩ : ∃ T, Hid (T = toAt E es m) := ⟨_, rfl⟩
          have hT1 : toAt E es (m + 1) = T + 1 := by rw [HT.out]; exact (toAt_live hE hjE HE.out hlv.out).symm
          have hTm : m ≤ T := by rw [HT.out]; exact le_toAt hE (by omega)
          have hTE : T < E := by have : toAt E es (m + 1) ≤ E := toAt_le; omega
          have hT0 : (0 : Int) ≤ (T : Int) := Int.natCast_nonneg _
          have hT2 : (T : Int) < (es.length : Int) := by omega
          rw [show ((toAt E es (m + 1) : Nat) : Int) = (T : Int) + 1 by omega]
          have HT1 := hide hT1
          clear hT1
          by_cases hTeq : T = m
          · have hne : ((T : Int) != (m : Int)) = false := by simp [hTeq]
            have HTQ := hide hTeq
            clear hTeq
            go_wp2_with (first | (refine wpList_load_mid rfl 68 _ rfl _ _ rfl (entCells e) _ HRg.out Trym.underlying68 rfl (by rw [Trym.size68, entCells_length]) ?_) | (refine wpList_alloc_row rfl 68 rfl _ _ _ Trym.info68 ?_) | (refine wpList_store_new rfl 68 _ _ rfl rfl (entCells e) rfl rfl (by simp [entCells_length]) (by rw [Trym.size68, entCells_length]) (entCells_one e) ?_))
            go_roundw
            case rel =>
              have hst : toAt E es m = m := by rw [← HT.out, HTQ.out]
              refine ⟨m, by omega, rfl, by rw [HT.out], HK.out.alloc _, HQ.out.of_block (heap_alloc_old _ _ HQ.out.lt), ?_, M', HM.out.later ((Below.refl _ _).alloc (Nat.le_refl _) _), HML.out, HI.out.stay hE hjE HE.out hlv.out hst⟩
              rw [arrAt_stay hE hjE HE.out hlv.out hst]
              exact HR.out.later ((Below.refl _ _).alloc (Nat.le_refl _) _)
            case measure => simp [intOf]
          · have hne : ((T : Int) != (m : Int)) = true := by rw [bne_iff_ne]; omega
            have hX := ((Below.refl wr.heap.size wr).alloc (Nat.le_refl _) (.cells (entCells e).toArray 68))
            have hlrow : (wr.alloc (.cells (entCells e).toArray 68)).rangeAt wr.heap.size 0 (entCells e) := by
              intro i v hv
              rw [Nat.zero_add, World.cell?_alloc_at _ _ _ _ rfl]
              simpa using hv
            have hld := run_ld68 (w := (wr.alloc (.cells (entCells e).toArray 68)).drew) (by simpa using hlrow)
            have hRX : RowIs (wr.alloc (.cells (entCells e).toArray 68)) g 68 (arrAt E es (m + 1)) := HR.out.later hX
            have hthere : (wr.alloc (.cells (entCells e).toArray 68)).there g (T * 33) 33 := hRX.there (by rw [arrAt_length hE]; omega)
            have hgl : g < wr.heap.size := lt_of_block HR.out
            have hc33 := cells33_ent e
            -- the world behind region 21
            obtain ⟨Y, HY⟩ : ∃ Y, Hid (Y = ((wr.alloc (.cells (entCells e).toArray 68)).drew).setCells g (T * 33) (entCells e)) := ⟨_, rfl⟩
            have hQX : QueueAt (wr.alloc (.cells (entCells e).toArray 68)) q g 0 es.length r batch es.length B sz by_ := HQ.out.of_block (heap_alloc_old _ _ HQ.out.lt)
            have hQY : QueueAt Y q g 0 es.length r batch es.length B sz by_ := hQX.of_block (by rw [HY.out, heap_setCells_other _ _ _ _ _ hqg]; rfl)
            have hMY : MapIs Y r okKey keyVal M' := (HM.out.later hX).of_block (by rw [HY.out, heap_setCells_other _ _ _ _ _ (Ne.symm hgr)]; rfl)
            have hlY : Y.rangeAt wr.heap.size 0 (entCells e) := by
              rw [HY.out]
              exact World.rangeAt_setCells_apart (by simpa using hlrow) _ _ _ (Or.inl (by omega))
            have hRY : RowIs Y g 68 (arrAt E es m) := by
              rw [HY.out, ← arrAt_live hE hjE HE.out hlv.out, ← HT.out]
              exact RowIs.stored (w := (wr.alloc (.cells (entCells e).toArray 68)).drew) hRX (by rw [arrAt_length hE]; omega) e
            have hKY : Kept (fun k => k = q ∨ k = g ∨ k = r) w Y := by
              rw [HY.out]
              exact Kept.setCells (HK.out.alloc _).drew (Or.inr (Or.inl rfl)) _ _
            obtain ⟨w1, hrun, hm1', ht1⟩ := run_update_of key50 Trym.underlying32 (w := Y.drew) (t := 32) (hMY.of_block rfl) (k := e.key) e.len (placeVal B T)
            have hrun2 : (Instr.mapUpdate 32 (.map (some r)) (.agg (keyCells e.key).toArray) (.int .u64 (IntKind.u64.wrap (B + (T : Int))))).run Trym.prog Y.drew = .ok () w1 := hrun
            have HRU := hide hrun2
            have HLD := hide hld
            have HTH := hide hthere
            have HQX := hide hQX
            have HQY := hide hQY
            have HLY := hide hlY
            have HRY := hide hRY
            have HKY := hide hKY
            have HM1 := hide hm1'
            have HT1' := hide ht1
            have hqY : Hid (q ≠ r ∧ wr.heap.size ≠ r ∧ q ≠ g) := hide ⟨hqr, by have := HM.out.lt; omega, hqg⟩
            clear hX hlrow hld hRX hthere hgl hQX hQY hMY hlY hRY hKY hrun hrun2 hm1' ht1
            go_wp2_with (first | (refine wpList_load_mid rfl 68 _ rfl _ _ rfl (entCells e) _ HRg.out Trym.underlying68 rfl (by rw [Trym.size68, entCells_length]) ?_) | (refine wpList_alloc_row rfl 68 rfl _ _ _ Trym.info68 ?_) | (refine wpList_store_new rfl 68 _ _ rfl rfl (entCells e) rfl rfl (by simp [entCells_length]) (by rw [Trym.size68, entCells_length]) (entCells_one e) ?_))
            go_region_held3 (fun w' => w'.cell? ⟨q, 1, none⟩ = some (.slice (some ⟨g, 0, none⟩) es.length es.length) ∧ (ld68 ⟨wr.heap.size, 0, none⟩).run Trym.prog w' = .ok (.agg (entCells e).toArray) w' ∧ ∀ cs, Cells33 cs → (st68 ⟨g, T * 33, none⟩ (.agg cs.toArray)).run Trym.prog w' = .ok () (w'.setCells g (T * 33) cs))
              (first | exact ⟨by simpa using HQX.out.get.2.1, HLD.out, fun _ hc => run_st68 (by simpa using HTH.out) hc⟩ | (rw [← HY.out]; exact ⟨HQY.out.get.2.1, run_ld68 HLY.out, fun _ hc => run_st68 (by rw [HY.out]; exact World.there_setCells (by simpa using HTH.out) _ _ _) hc⟩))
              (fail)
            rw [← HY.out]
            have hi50 : (Trym.prog.info? 50).map (·.size) = some (keyCells e.key).length := by rw [Trym.size50, keyCells_length, e.len]
            have hrun3 := HRU.out
            have hwT : IntKind.u64.wrap (T : Int) = (T : Int) := wrap_u64_of hT0 (by omega)
            clear hc33 hd1 htx hlvl
            go_wp2_with fail
            go_region_held3 (fun w' => w'.cell? ⟨q, 2, none⟩ = some (.map (some r)) ∧ w'.cell? ⟨q, 3, none⟩ = some (.int .u64 B) ∧ w'.rangeAt wr.heap.size 0 (keyCells e.key))
              (first | exact ⟨by simpa using HQY.out.get.2.2.1, by simpa using HQY.out.get.2.2.2.1, by simpa using rangeAt_key HLY.out⟩ | exact ⟨by rw [World.cell?_of_block (HT1'.out.block q hqY.out.1)]; exact HQY.out.get.2.2.1, by rw [World.cell?_of_block (HT1'.out.block q hqY.out.1)]; exact HQY.out.get.2.2.2.1, fun i v hv => by rw [World.cell?_of_block (HT1'.out.block wr.heap.size hqY.out.2.1)]; exact rangeAt_key HLY.out i v hv⟩)
              (fail)
            go_wp2
            go_roundw
            case rel =>
              refine ⟨m, by omega, rfl, by rw [HT.out], HKY.out.drew.trans (Kept.of_turned HT1'.out (Or.inr (Or.inr rfl))), HQY.out.of_block (HT1'.out.block q hqY.out.1), ?_, putM e.key (placeVal B T) M', HM1.out, ?_, ?_⟩
              · exact (HT1'.out.block g hgr).trans HRY.out
              · rw [putM_length (HI.out.has HE.out hlv.out)]; exact HML.out
              · rw [HT.out]; exact HI.out.move HND.out hE hjE HE.out hlv.out
            case measure => simp [intOf]
      | zero =>
        obtain ⟨T, HT⟩ : ∃ T, Hid (T = toAt E es 0) := ⟨_, rfl⟩
        rw [← HT.out]
        have hTE : T ≤ E := by rw [HT.out]; exact toAt_le
        have hlenA : (arrAt E es 0).length = es.length := arrAt_length hE
        obtain ⟨w1, hcl, hR1, hk1⟩ := run_clear68 hR (t := T) (by omega) es.length
        have hcl1 := fun ty => hcl ty
        have hQ1 := hQ.of_block (hk1.block q hQ.lt hqg)
        have hM1 := hM.of_block (hk1.block r hM.lt (Ne.symm hgr))
        obtain ⟨d0, d1, d2, d3, -, -⟩ := hQ1.get
        have f1 : w1.frozen? ⟨q, 1, none⟩ = false := frozen_of_row _ _ _ _ _ hQ1.cells
        have f3 : w1.frozen? ⟨q, 3, none⟩ = false := frozen_of_row _ _ _ _ _ hQ1.cells
        have HK := hide hkept
        have HQ1 := hide hQ1
        have HR1 := hide hR1
        have HM1 := hide hM1
        have HK1 := hide hk1
        have HML := hide hml
        have HI := hide hinv
        clear hkept hQ hR hM hml hinv hcl hQ1 hR1 hM1 hk1 c0 c2 c3 d0 d2
        by_cases hTn : T = es.length
        · subst hTn
          go_wp2_with fail
          go_end0
          have hpe := pack_end (off := 0) HEq.out HT.out hE hqg hqr HQ1.out HR1.out HM1.out HML.out HI.out (HK.out.trans ⟨HK1.out.os, HK1.out.tape, HK1.out.output, HK1.out.size, fun k hk hx => HK1.out.block k hk (fun h => hx (Or.inr (Or.inl h)))⟩) (Or.inr rfl)
          rw [Nat.sub_self] at hpe
          exact hpe
        · have hTn2 : ¬ es.length = T := fun h => hTn h.symm
          go_wp2_with fail
          go_end0
          exact pack_end HEq.out HT.out hE hqg hqr HQ1.out HR1.out HM1.out HML.out HI.out (HK.out.trans ⟨HK1.out.os, HK1.out.tape, HK1.out.output, HK1.out.size, fun k hk hx => HK1.out.block k hk (fun h => hx (Or.inr (Or.inl h)))⟩) (Or.inl rfl)

end Go.Proofs.Qxb6601980aMods
