import Derived.Test.Qxb6601980aModsG1
namespace Go.Proofs.Qxb6601980aMods
open Go.RowKit
attribute [local go_sem] Trym.eqNil47 Trym.neNil47
attribute [local go_sem ↓] ld53_eq st53_eq bd53_eq ld68_eq st68_eq bd68_eq bs28_eq

set_option maxHeartbeats 800000 in
theorem zzWin_any (x0 x2 x3 x4 : Value) (a : Option Addr) (c : Nat) (es : List Ent) (w : World) (hrow : Hid (EntsAt w a es)) :
    Calls Trym.prog 21 #[x0, .slice a es.length c, x2, x3, x4] w fun e w' => Bounded' (es.length + 32 * es.length + sumL (lensOf es)) e ∧ w' = w := by
  by_cases hbig : (1048576 : Int) < (es.length : Int)
  · go_enter Trym.func21, Trym.ntmps21
    go_wp2
    go_ret
    exact ⟨Bounded'.no, rfl⟩
  go_enter Trym.func21, Trym.ntmps21
  go_wp2
  go_loop [11, 12] (fun s i => ∃ k : Nat, k ≤ es.length ∧ i = .int .i64 k ∧ s = .int .i64 (es.length + 32 * k + sumL (lensOf (es.take k))) ∧ es.length + 32 * k + sumL (lensOf (es.take k)) ≤ 1048576) (fun _ i => es.length - (intOf i).toNat)
  case atStart => exact ⟨0, Nat.zero_le _, rfl, by simp [lensOf, sumL], by simp [lensOf, sumL]; omega⟩
  case round =>
    obtain ⟨k, hk, rfl, rfl, hle⟩ := hrel
    by_cases hlt : k < es.length
    · obtain ⟨e, he⟩ : ∃ e, es[k]? = some e := ⟨_, List.getElem?_eq_getElem hlt⟩
      obtain ⟨b, off, rfl, hr⟩ := hrow.out k e he
      have hcell := rangeAt_tx hr
      have HS := hide (sumL_take_succ he)
      clear hr he
      by_cases hfit0 : (1048576 : Int) < es.length + 32 * k + sumL (lensOf (es.take k)) + 32
      · go_wp2
        go_ret
        exact ⟨Bounded'.no, rfl⟩
      by_cases hfit : (1048576 : Int) < e.n
      · go_wp2
        go_ret
        exact ⟨Bounded'.no, rfl⟩
      by_cases hfit2 : (1048576 : Int) < es.length + 32 * k + sumL (lensOf (es.take k)) + 32 + e.n
      · go_wp2
        go_ret
        exact ⟨Bounded'.no, rfl⟩
      · go_wp2
        go_round
        case rel => exact ⟨k + 1, by omega, by go_num, by rw [HS.out]; go_num, by rw [HS.out]; omega⟩
        case measure => simp [intOf]; omega
    obtain rfl : k = es.length := by omega
    go_wp2
    go_ret
    exact ⟨Bounded'.yes (by simpa using hle), rfl⟩

/-- What presentOfEnts, presentOf leave: the entries that hold a transaction. -/
structure PresentPost (w : World) (es : List Ent) (e : Ending) (w' : World) : Prop where
  form : ∃ g cap, e = .returned (.slice (some ⟨g, 0, none⟩) (es.filter Ent.live).length cap) ∧ EntsAt w' (some ⟨g, 0, none⟩) (es.filter Ent.live)
  below : Below w.heap.size w w'

set_option maxRecDepth 100000 in
set_option maxHeartbeats 1600000 in
theorem presentOfEnts_any (a : Option Addr) (c : Nat) (es : List Ent) (w : World) (hrow : Hid (EntsAt w a es)) (hn : es.length ≤ 1048576) :
    Calls Trym.prog 22 #[.slice a es.length c] w (PresentPost w es) := by
  have hmk := make_ents0 es.length hn
  have hown0 := World.ownsRow_made (base := w.heap.size) (e := 53) (size := 33) w (flat (List.replicate es.length Ent.zero)).toArray es.length (Nat.le_refl _) (by unfold maxLen; omega) (by simp [flat_length])
  have HO0 := hide hown0
  clear hown0
  obtain ⟨i53, hi53, -, hs53, -⟩ := info_parts Trym.info53
  have HI := hide hi53
  have HSz := hide hs53
  clear hi53 hs53
  go_enter Trym.func22, Trym.ntmps22
  go_wp2
  go_loopw [3, 11] (fun o i wr => ∃ k : Nat, k ≤ es.length ∧ i = .int .i64 k ∧ o = .slice (some ⟨w.heap.size, 0, none⟩) (liveN (es.take k)) es.length ∧ Below w.heap.size w wr ∧ Hid (wr.ownsRow w.heap.size 53 33 (.slice (some ⟨w.heap.size, 0, none⟩) (liveN (es.take k)) es.length) (liveN (es.take k)) (flat ((es.take k).filter Ent.live)))) (fun _ i _ => es.length - (intOf i).toNat)
  case atStart => exact ⟨0, Nat.zero_le _, rfl, rfl, (Below.refl _ _).alloc (Nat.le_refl _) _, HO0.out⟩
  case round =>
    obtain ⟨k, hk, rfl, rfl, hbel, HO⟩ := hrel
    have hln2 := liveN_take_le es k
    by_cases hlt : k < es.length
    · obtain ⟨e, b, off, he, rfl, hr⟩ := hrow.out.at (k := k) (by omega)
      have HR := hide (rangeAt_later hbel hr)
      have htx := cell_ent_tx wr e 53
      have hlrow : (wr.alloc (.cells (entCells e).toArray 53)).rangeAt wr.heap.size 0 (entCells e) := by
        intro i v hv
        rw [Nat.zero_add, World.cell?_alloc_at _ _ _ _ rfl]
        simpa using hv
      have HL := hide hlrow
      have HB := hide hbel
      have HE := hide he
      have hbs := run_bs28 e
      clear hr he hbel hrow hmk hlrow
      by_cases hl : e.a.isNone = true
      · go_wp2_with (first | (refine wpList_load_mid rfl 53 _ rfl _ _ rfl (entCells e) _ HR.out Trym.underlying53 rfl (by rw [Trym.size53, entCells_length]) ?_) | (refine wpList_alloc_row rfl 53 rfl _ _ _ Trym.info53 ?_) | (refine wpList_store_new rfl 53 _ _ rfl rfl (entCells e) rfl rfl (by simp [entCells_length]) (by rw [Trym.size53, entCells_length]) (entCells_one e) ?_))
        go_roundw
        case rel =>
          have e1 := liveN_take_succ HE.out
          rw [live_of_isNone hl] at e1
          simp only [Bool.false_eq_true, if_false, Nat.add_zero] at e1
          refine ⟨k + 1, by omega, by go_num, by rw [e1], HB.out.alloc HB.out.size _, ?_⟩
          rw [e1, take_snoc_ent HE.out, List.filter_append]
          exact hide (by simpa [live_of_isNone hl] using HO.out.alloc _)
        case measure => simp [intOf]; omega
      · have hl2 : e.a.isNone = false := Bool.not_eq_true _ ▸ hl
        clear hl
        go_wp2_with (first | (refine wpList_load_mid rfl 53 _ rfl _ _ rfl (entCells e) _ HR.out Trym.underlying53 rfl (by rw [Trym.size53, entCells_length]) ?_) | (refine wpList_load_mid rfl 53 _ rfl _ _ rfl (entCells e) _ HL.out Trym.underlying53 rfl (by rw [Trym.size53, entCells_length]) ?_) | (refine wpList_alloc_row rfl 53 rfl _ _ _ Trym.info53 ?_) | (refine wpList_store_new rfl 53 _ _ rfl rfl (entCells e) rfl rfl (by simp [entCells_length]) (by rw [Trym.size53, entCells_length]) (entCells_one e) ?_) | (at_builtin; refine wpList_append_fits _ rfl _ _ 28 rfl w.heap.size 53 i53 33 Trym.underlying28 HI.out HSz.out w.heap.size (liveN (es.take k)) es.length (flat ((es.take k).filter Ent.live)) rfl ((HO.out.alloc _).alloc _) ⟨wr.heap.size + 1, 0, none⟩ 1 1 (entCells e) rfl (by rw [entCells_length]) (by have := news_ent (wr.alloc (.cells (entCells e).toArray 53)) e; simpa using this) (entCells_one e) (by omega) ?_))
        intro w1 hown1 hg1
        have HO1 := hide hown1
        have HB1 : Hid (Below w.heap.size w w1) := hide (((HB.out.alloc HB.out.size _).alloc (by have := HB.out.size; simp; omega) _).grown hg1 (by have := HB.out.size; simp; omega) (fun j hj => by cases hj; exact Nat.le_refl _))
        clear hown1 hg1
        go_wp2
        go_roundw
        case rel =>
          have e1 := liveN_take_succ HE.out
          rw [live_of_some hl2] at e1
          simp only [if_true] at e1
          refine ⟨k + 1, by omega, by go_num, by rw [e1], HB1.out, ?_⟩
          rw [e1, take_snoc_ent HE.out, List.filter_append, flat_append]
          have e2 : flat (List.filter Ent.live [e]) = entCells e := by simp [live_of_some hl2, flat]
          rw [e2]
          exact HO1.out
        case measure => simp [intOf]; omega
    · obtain rfl : k = es.length := by omega
      rw [List.take_length] at HO ⊢
      go_wp2
      go_ret
      exact ⟨⟨_, _, rfl, owned_ents HO.out rfl⟩, hbel⟩

end Go.Proofs.Qxb6601980aMods
