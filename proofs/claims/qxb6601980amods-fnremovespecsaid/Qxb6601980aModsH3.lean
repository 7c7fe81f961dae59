import Derived.Test.Qxb6601980aModsH2
namespace Go.Proofs.Qxb6601980aMods
open Go.RowKit
attribute [local go_sem] Trym.eqNil47 Trym.neNil47
attribute [local go_sem ↓] ld53_eq st53_eq bd53_eq ld68_eq st68_eq bd68_eq bs28_eq

theorem wrap64_is (n : Int) : wrap64 n = IntKind.i64.wrap n := by rw [IntKind.wrap_i64]; unfold wrap64; rfl

theorem getM_some_of {B : Int} {l : List Ent} {M : List (List Int × Value)} (h : PlOk B l M) {k : List Int} (hk : getM k M ≠ none) : ∃ (i : Nat) (x : Ent), l[i]? = some x ∧ x.live = true ∧ x.key = k ∧ getM k M = some (placeVal B i) := by
  have hm : k ∈ pkeys l := Classical.byContradiction fun hn => hk (h.none_iff.2 hn)
  obtain ⟨i, x, hx, hl, rfl⟩ := h.find hm
  exact ⟨i, x, hx, hl, rfl, h.get i x hx hl⟩

theorem run_delete_all {w : World} {r : Nat} {M : List (List Int × Value)} (h : MapIs w r okKey keyVal M) {k : List Int} (hk : k.length = 32) :
    ∃ w', (∀ ty, (Builtin.delete_ #[32, 50] ty #[.map (some r), .agg (keyCells k).toArray]).run Trym.prog w = .ok (.tuple #[]) w') ∧ MapIs w' r okKey keyVal (delM k M) ∧ Turned r w w' := by
  obtain ⟨w', h1, h2, h3⟩ := run_delete_of key50 Trym.underlying32 h (k := k) hk 50 0
  exact ⟨w', fun ty => h1, h2, h3⟩

theorem marked_n {ks : List (List Int)} {es : List Ent} {m : Nat} (h : ∀ x ∈ es, x.n ≤ m) : ∀ x ∈ marked ks es, x.n ≤ m := by
  intro x hx
  obtain ⟨e, he, rfl⟩ := List.mem_map.1 hx
  unfold kill
  split
  · exact Nat.zero_le _
  · exact h e he

/-- What the loop of remove keeps. -/
structure RemInv (w : World) (q g r : Nat) (batch B sz by_ : Int) (es : List Ent) (ks : List (List Int)) (wr : World) : Prop where
  kept : Kept (fun k => k = q ∨ k = g ∨ k = r) w wr
  queue : QueueAt wr q g 0 es.length r batch es.length B (IntKind.i64.wrap (sz - loss wS ks es)) (IntKind.i64.wrap (by_ - loss wB ks es))
  row : RowIs wr g 68 (marked ks es)
  map : ∃ M, MapIs wr r okKey keyVal M ∧ PlOk B (marked ks es) M

theorem RemInv.miss {w : World} {q g r : Nat} {batch B sz by_ : Int} {es : List Ent} {ks : List (List Int)} {wr : World} (h : RemInv w q g r batch B sz by_ es ks wr) {k : List Int} (hk : k ∉ pkeys (marked ks es)) (o : Obj) : RemInv w q g r batch B sz by_ es (ks ++ [k]) ((wr.alloc o).drew) := by
  obtain ⟨M, hM, hP⟩ := h.map
  have hb := ((Below.refl wr.heap.size wr).alloc (Nat.le_refl _) o)
  refine ⟨(h.kept.alloc o).drew, ?_, ?_, M, (hM.later hb).of_block rfl, ?_⟩
  · rw [loss_miss hk, loss_miss hk]
    exact (h.queue.of_block (heap_alloc_old _ _ h.queue.lt)).of_block rfl
  · rw [marked_miss hk]
    exact RowIs.later (w' := wr.alloc o) h.row hb
  · rw [marked_miss hk]; exact hP

theorem RemInv.hit {w w1 : World} {q g r : Nat} {batch B sz by_ SZ BY : Int} {es : List Ent} {ks : List (List Int)} {k : List Int} {M : List (List Int × Value)} {i : Nat} {x : Ent}
    (hK : Kept (fun k => k = q ∨ k = g ∨ k = r) w w1) (hQ : QueueAt w1 q g 0 es.length r batch es.length B SZ BY) (hR : RowIs w1 g 68 (marked ks es)) (hM : MapIs w1 r okKey keyVal (delM k M)) (hP : PlOk B (marked ks es) M)
    (hx : (marked ks es)[i]? = some x) (hl : x.live = true) (hk : x.key = k) (hS : SZ = IntKind.i64.wrap (sz - loss wS ks es)) (hB : BY = IntKind.i64.wrap (by_ - loss wB ks es)) (hqg : q ≠ g) (hqr : q ≠ r) (hgr : g ≠ r) :
    RemInv w q g r batch B sz by_ es (ks ++ [k]) (((w1.drew.setCell ⟨q, 4, none⟩ (.int .i64 (wrap64 (SZ - ((x.n : Int) + 160))))).setCell ⟨q, 5, none⟩ (.int .i64 (wrap64 (BY - (x.n : Int))))).setCell ⟨g, i * 33 + 32, none⟩ (.slice none 0 0)).drew.drew := by
  subst hk
  have e1 : wrap64 (SZ - ((x.n : Int) + 160)) = IntKind.i64.wrap (sz - loss wS (ks ++ [x.key]) es) := by
    rw [wrap64_is, hS, loss_hit hP.nodup hx hl (wS_gone x), wS_live hl]
    exact wrap_less _ _ _ _ rfl
  have e2 : wrap64 (BY - (x.n : Int)) = IntKind.i64.wrap (by_ - loss wB (ks ++ [x.key]) es) := by
    rw [wrap64_is, hB, loss_hit hP.nodup hx hl (wB_gone x)]
    exact wrap_less _ _ _ _ rfl
  rw [e1, e2]
  have b1 := heap_setCell_same w1.drew q 4 _ 66 (.int .i64 (IntKind.i64.wrap (sz - loss wS (ks ++ [x.key]) es))) hQ.cells
  have b2 := heap_setCell_same _ q 5 _ 66 (.int .i64 (IntKind.i64.wrap (by_ - loss wB (ks ++ [x.key]) es))) b1
  have hRZ : RowIs ((w1.drew.setCell ⟨q, 4, none⟩ (.int .i64 (IntKind.i64.wrap (sz - loss wS (ks ++ [x.key]) es)))).setCell ⟨q, 5, none⟩ (.int .i64 (IntKind.i64.wrap (by_ - loss wB (ks ++ [x.key]) es)))) g 68 (marked ks es) := by
    unfold RowIs
    rw [heap_setCell_other _ _ _ _ (Ne.symm hqg), heap_setCell_other _ _ _ _ (Ne.symm hqg)]
    exact hR
  have hZK := ((hK.drew.setCell (p := ⟨q, 4, none⟩) (Or.inl rfl) (.int .i64 (IntKind.i64.wrap (sz - loss wS (ks ++ [x.key]) es)))).setCell (p := ⟨q, 5, none⟩) (Or.inl rfl) (.int .i64 (IntKind.i64.wrap (by_ - loss wB (ks ++ [x.key]) es)))).setCell (p := ⟨g, i * 33 + 32, none⟩) (Or.inr (Or.inl rfl)) (.slice none 0 0)
  refine ⟨hZK.drew.drew, ⟨?_⟩, ?_, delM x.key M, ?_, ?_⟩
  · show ((_ : World).setCell _ _).heap[q]? = _
    rw [heap_setCell_other _ _ _ _ hqg]
    exact b2
  · rw [marked_hit hP.nodup hx hl]
    exact hRZ.gone hx
  · refine hM.of_block ?_
    show ((_ : World).setCell _ _).heap[r]? = _
    rw [heap_setCell_other _ _ _ _ (Ne.symm hgr), heap_setCell_other _ _ _ _ (Ne.symm hqr), heap_setCell_other _ _ _ _ (Ne.symm hqr)]
    rfl
  · rw [marked_hit hP.nodup hx hl]
    exact hP.hit hx hl

set_option maxRecDepth 100000 in
set_option maxHeartbeats 3200000 in
theorem remove_any (q g r : Nat) (batch B sz by_ : Int) (es : List Ent) (a : Option Addr) (c : Nat) (ks : List (List Int)) (w : World) (hn : es.length ≤ 1048576) (hkn : ks.length ≤ 1048576) (hqg : q ≠ g) (hqr : q ≠ r) (hgr : g ≠ r)
    (hB : IntKind.u64.wrap B = B) (hsz : IntKind.i64.wrap sz = sz) (hby : IntKind.i64.wrap by_ = by_) (hN : ∀ x ∈ es, x.n ≤ 1048576)
    (hkeys : KeysIn w a ks) (hne : ks ≠ [] → ∀ ad, a = some ad → ad.block ≠ q ∧ ad.block ≠ g ∧ ad.block ≠ r)
    (hQ : QueueAt w q g 0 es.length r batch es.length B sz by_) (hR : RowIs w g 68 es) (hM : MapIs w r okKey keyVal (placesFrom B 0 es)) (hnd : (pkeys es).Nodup) :
    Calls Trym.prog 40 #[.pointer (some ⟨q, 0, none⟩), .slice a ks.length c] w (PackPost w q g r batch B (IntKind.i64.wrap (sz - loss wS ks es)) (IntKind.i64.wrap (by_ - loss wB ks es)) (marked ks es)) := by
  have HI0 : Hid (RemInv w q g r batch B sz by_ es [] w) := by
    refine ⟨Kept.refl _ _, ?_, by rw [marked_nil]; exact hR, _, hM, by rw [marked_nil]; exact PlOk.start hnd⟩
    rw [loss_nil, loss_nil, Int.sub_zero, Int.sub_zero, hsz, hby]; exact hQ
  have HK := hide hkeys
  have HNE := hide hne
  have HBw := hide hB
  have HN := hide hN
  clear hkeys hne hB hsz hby hQ hR hM hnd hN
  go_enter Trym.func40, Trym.ntmps40
  go_wp2
  go_loopw [11] (fun i wr => ∃ j : Nat, j ≤ ks.length ∧ i = .int .i64 j ∧ RemInv w q g r batch B sz by_ es (ks.take j) wr) (fun i _ => ks.length - (intOf i).toNat)
  case atStart => exact ⟨0, Nat.zero_le _, rfl, HI0.out⟩
  case round =>
    obtain ⟨j, hj, rfl, hinv⟩ := hrel
    by_cases hlt : j < ks.length
    · obtain ⟨k, hk⟩ : ∃ k, ks[j]? = some k := ⟨_, List.getElem?_eq_getElem hlt⟩
      obtain ⟨hlen, b, off, hab, hr⟩ := HK.out j k hk
      have hbne := HNE.out (fun h => by rw [h] at hlt; exact absurd hlt (Nat.not_lt_zero _)) _ hab
      subst hab
      have htk : ks.take (j + 1) = ks.take j ++ [k] := by rw [List.take_add_one, hk]; rfl
      obtain ⟨M, hM, hP⟩ := hinv.map
      have hr1 : wr.rangeAt b (off + j * 32) (keyCells k) := fun i v hv => hinv.kept.cell (hr i v hv) (by
        rintro (h | h | h)
        · exact hbne.1 h
        · exact hbne.2.1 h
        · exact hbne.2.2 h)
      have HR1 := hide hr1
      have HL := hide hlen
      have HTK := hide htk
      have HINV := hide hinv
      have hX := ((Below.refl wr.heap.size wr).alloc (Nat.le_refl _) (.cells (keyCells k).toArray 50))
      have hq2 := (hinv.queue.of_block (heap_alloc_old wr (.cells (keyCells k).toArray 50) hinv.queue.lt)).get.2.2.1
      have hlk := run_lookup_true (w := (wr.alloc (.cells (keyCells k).toArray 50)).drew) key50 Trym.underlying32 (zero29 _) ((hM.later hX).of_block rfl) hlen
      have hrg : (wr.alloc (.cells (keyCells k).toArray 50)).rangeAt wr.heap.size 0 (keyCells k) := by
        intro i v hv
        rw [Nat.zero_add, World.cell?_alloc_at _ _ _ _ rfl]
        simpa using hv
      have hu50 := Trym.underlying50
      have hi50 : (Trym.prog.info? 50).map (·.size) = some (keyCells k).length := by rw [Trym.size50, keyCells_length, hlen]
      have HRG := hide hrg
      have HX := hide hX
      have HM := hide hM
      have HP := hide hP
      clear hr hr1 hbne hk hinv hX hM hP hrg htk hlen
      by_cases hg : getM k M = none
      · have hlk2 : (Instr.lookup 32 (.map (some r)) (.agg (keyCells k).toArray) true).run Trym.prog (wr.alloc (.cells (keyCells k).toArray 50)).drew = .ok (.tuple #[.int .u64 0, .bool false]) (wr.alloc (.cells (keyCells k).toArray 50)).drew := by
          rw [hg] at hlk; exact hlk
        have HG := hide hg
        clear hlk hg
        go_wp2_with (first | (refine wpList_load_mid rfl 50 _ rfl _ _ rfl (keyCells k) _ HR1.out Trym.underlying50 rfl (by rw [Trym.size50, keyCells_length, HL.out]) ?_) | (refine wpList_alloc_row rfl 50 rfl _ _ _ Trym.info50 ?_) | (refine wpList_store_new rfl 50 _ _ rfl rfl (keyCells k) rfl rfl (by simp [keyCells_length, HL.out]) (by rw [Trym.size50, keyCells_length, HL.out]) (keyCells_one k) ?_))
        go_region_held3 (fun w' => w'.cell? ⟨q, 2, none⟩ = some (.map (some r)) ∧ w'.rangeAt wr.heap.size 0 (keyCells k)) (exact ⟨by simpa using hq2, by simpa using HRG.out⟩) (fail)
        go_wp2
        go_roundw
        case rel =>
          refine ⟨j + 1, by omega, by go_num, ?_⟩
          rw [HTK.out]
          exact HINV.out.miss (HP.out.none_iff.1 HG.out) _
        case measure => simp [intOf]; omega
      · obtain ⟨i, x, hx, hl, hkx, hgx⟩ := getM_some_of HP.out hg
        have hlk2 : (Instr.lookup 32 (.map (some r)) (.agg (keyCells k).toArray) true).run Trym.prog (wr.alloc (.cells (keyCells k).toArray 50)).drew = .ok (.tuple #[.int .u64 (IntKind.u64.wrap (B + (i : Int))), .bool true]) (wr.alloc (.cells (keyCells k).toArray 50)).drew := by
          rw [hgx] at hlk; exact hlk
        clear hlk hg
        have HX1 := hide hx
        have HL1 := hide hl
        have HKX := hide hkx
        clear hx hl hkx hgx
        go_wp2_with (first | (refine wpList_load_mid rfl 50 _ rfl _ _ rfl (keyCells k) _ HR1.out Trym.underlying50 rfl (by rw [Trym.size50, keyCells_length, HL.out]) ?_) | (refine wpList_alloc_row rfl 50 rfl _ _ _ Trym.info50 ?_) | (refine wpList_store_new rfl 50 _ _ rfl rfl (keyCells k) rfl rfl (by simp [keyCells_length, HL.out]) (by rw [Trym.size50, keyCells_length, HL.out]) (keyCells_one k) ?_))
        go_region_held3 (fun w' => w'.cell? ⟨q, 2, none⟩ = some (.map (some r)) ∧ w'.rangeAt wr.heap.size 0 (keyCells k)) (exact ⟨by simpa using hq2, by simpa using HRG.out⟩) (fail)
        obtain ⟨Y, HY⟩ : ∃ Y, Hid (Y = (wr.alloc (.cells (keyCells k).toArray 50)).drew) := ⟨_, rfl⟩
        rw [← HY.out]
        clear hlk2 hq2
        have hQY : QueueAt Y q g 0 es.length r batch es.length B (IntKind.i64.wrap (sz - loss wS (ks.take j) es)) (IntKind.i64.wrap (by_ - loss wB (ks.take j) es)) := by
          rw [HY.out]; exact (HINV.out.queue.of_block (heap_alloc_old _ _ HINV.out.queue.lt)).of_block rfl
        have hRY : RowIs Y g 68 (marked (ks.take j) es) := by
          rw [HY.out]; exact RowIs.later (w' := wr.alloc (.cells (keyCells k).toArray 50)) HINV.out.row HX.out
        have hMY : MapIs Y r okKey keyVal M := by rw [HY.out]; exact (HM.out.later HX.out).of_block rfl
        have hrY : Y.rangeAt wr.heap.size 0 (keyCells k) := by rw [HY.out]; simpa using HRG.out
        have hKY : Kept (fun k => k = q ∨ k = g ∨ k = r) w Y := by rw [HY.out]; exact (HINV.out.kept.alloc _).drew
        have hnr : wr.heap.size ≠ r := by have := HM.out.lt; omega
        obtain ⟨w1, hdel, hM1, hT1⟩ := run_delete_all (w := Y.drew) (hMY.of_block rfl) HL.out
        have hq2 := hQY.get.2.2.1
        have hQ1 := hQY.of_block (hT1.block q hqr)
        have hR1 : RowIs w1 g 68 (marked (ks.take j) es) := (hT1.block g hgr).trans hRY
        have hK1 := hKY.drew.trans (Kept.of_turned (ex := fun k => k = q ∨ k = g ∨ k = r) hT1 (Or.inr (Or.inr rfl)))
        have hq2' := hQ1.get.2.2.1
        have hr1 : w1.rangeAt wr.heap.size 0 (keyCells k) := fun i v hv => by rw [World.cell?_of_block (hT1.block wr.heap.size hnr)]; exact hrY i v hv
        have HRY := hide hrY
        have HR2 := hide hr1
        have HQ1 := hide hQ1
        have HRow1 := hide hR1
        have HK1 := hide hK1
        have HM1 := hide hM1
        clear HY hQY hRY hMY hrY hKY hT1 hQ1 hR1 hK1 hM1 hr1 HRG
        have hdel2 := hdel
        go_wp2_with fail
        go_region_held3 (fun w' => w'.cell? ⟨q, 2, none⟩ = some (.map (some r)) ∧ w'.rangeAt wr.heap.size 0 (keyCells k))
          (first | exact ⟨by simpa using hq2, by simpa using HRY.out⟩ | exact ⟨hq2', HR2.out⟩) (fail)
        clear hdel hdel2 hq2 hq2' HR2 HRY hu50 hi50
        obtain ⟨SZ, HSZ⟩ : ∃ SZ, Hid (SZ = IntKind.i64.wrap (sz - loss wS (ks.take j) es)) := ⟨_, rfl⟩
        obtain ⟨BY, HBY⟩ : ∃ BY, Hid (BY = IntKind.i64.wrap (by_ - loss wB (ks.take j) es)) := ⟨_, rfl⟩
        have hQ1 := HQ1.out
        rw [← HSZ.out, ← HBY.out] at hQ1
        obtain ⟨d0, d1, d2, d3, d4, d5⟩ := hQ1.get
        have hi1 : i < es.length := by rw [← marked_length (ks.take j) es]; exact (List.getElem?_eq_some_iff.1 HX1.out).1
        have hi0 : (0 : Int) ≤ (i : Int) := Int.natCast_nonneg _
        have hi2 : (i : Int) < (es.length : Int) := by omega
        have hix : IntKind.u64.wrap (IntKind.u64.wrap (B + (i : Int)) - B) = (i : Int) := by
          simp only [IntKind.wrap_u64]; omega
        have dx := rangeAt_tx (HRow1.out.range HX1.out)
        have HQ2 := hide hQ1
        clear hQ1 HQ1
        go_wp2_with fail
        go_region_held3 (fun w' => w'.cell? ⟨q, 1, none⟩ = some (.slice (some ⟨g, 0, none⟩) es.length es.length) ∧ w'.cell? ⟨q, 3, none⟩ = some (.int .u64 B))
          (exact ⟨by simpa using d1, by simpa using d3⟩) (fail)
        obtain ⟨Z, HZ⟩ : ∃ Z, Hid (Z = w1.drew) := ⟨_, rfl⟩
        rw [← HZ.out]
        have z4 : Z.cell? ⟨q, 4, none⟩ = some (.int .i64 SZ) := by rw [HZ.out]; simpa using d4
        have z5 : Z.cell? ⟨q, 5, none⟩ = some (.int .i64 BY) := by rw [HZ.out]; simpa using d5
        have zx : Z.cell? ⟨g, i * 33 + 32, none⟩ = some (.slice x.a x.n x.c) := by rw [HZ.out]; simpa using dx
        have f4 : Z.frozen? ⟨q, 4, none⟩ = false := by rw [HZ.out]; exact frozen_of_row _ _ _ _ _ HQ2.out.cells
        have f5 : Z.frozen? ⟨q, 5, none⟩ = false := by rw [HZ.out]; exact frozen_of_row _ _ _ _ _ HQ2.out.cells
        have fx : Z.frozen? ⟨g, i * 33 + 32, none⟩ = false := by rw [HZ.out]; exact frozen_of_row _ _ _ _ _ HRow1.out
        have hxn : x.n ≤ 1048576 := marked_n HN.out x (List.mem_of_getElem? HX1.out)
        clear d0 d1 d2 d3 d4 d5 dx hix
        go_wp2_with fail
        go_region_with (go_at_call 31; refine (queuedSize_any _ _ _ _ hxn).mono ?_; rintro e1 w2 ⟨rfl, rfl⟩)
        all_goals (
          go_wp2_with fail
          go_region)
        all_goals (
          go_wp2
          go_roundw)
        case measure => simp [intOf]; omega
        case measure => simp [intOf]; omega
        case measure => simp [intOf]; omega
        all_goals
          refine ⟨j + 1, by omega, by go_num, ?_⟩
          rw [HTK.out, HZ.out]
          exact RemInv.hit HK1.out HQ2.out HRow1.out HM1.out HP.out HX1.out HL1.out HKX.out HSZ.out HBY.out hqg hqr hgr
    · obtain rfl : j = ks.length := by omega
      rw [List.take_length] at hinv
      obtain ⟨M, hM, hP⟩ := hinv.map
      have HINV := hide hinv
      have HM := hide hM
      have HP := hide hP
      clear hinv hM hP
      have hml := marked_length ks es
      go_wp2_with fail
      refine (pack_any q g r batch B _ _ (marked ks es) M wr (by rw [hml]; exact hn) hqg hqr hgr HBw.out (by rw [hml]; exact HINV.out.queue) HINV.out.row HM.out HP.out.length HP.out.nodup HP.out.get).mono ?_
      rintro e w' hp
      obtain ⟨rfl, hq, hm, hk⟩ := hp
      have H1 := hide hq
      have H2 := hide hm
      have H3 := hide (HINV.out.kept.trans hk)
      clear hq hm hk
      go_wp2_with fail
      go_end0
      exact ⟨rfl, H1.out, H2.out, H3.out⟩

set_option maxHeartbeats 400000 in
theorem zzRemoveCall (q g r : Nat) (batch B sz by_ : Int) (es : List Ent) (a : Option Addr) (c : Nat) (ks : List (List Int)) (w : World) (hn : es.length ≤ 1048576) (hkn : ks.length ≤ 1048576) (hqg : q ≠ g) (hqr : q ≠ r) (hgr : g ≠ r)
    (hB : Hid (IntKind.u64.wrap B = B)) (hsz : Hid (IntKind.i64.wrap sz = sz)) (hby : Hid (IntKind.i64.wrap by_ = by_)) (hN : Hid (∀ x ∈ es, x.n ≤ 1048576))
    (hkeys : Hid (KeysIn w a ks)) (hne : Hid (ks ≠ [] → ∀ ad, a = some ad → ad.block ≠ q ∧ ad.block ≠ g ∧ ad.block ≠ r))
    (hQ : Hid (QueueAt w q g 0 es.length r batch es.length B sz by_)) (hR : Hid (RowIs w g 68 es)) (hM : Hid (MapIs w r okKey keyVal (placesFrom B 0 es))) (hnd : Hid (pkeys es).Nodup) :
    Calls Trym.prog 32 #[.pointer (some ⟨q, 0, none⟩), .slice a ks.length c] w (PackPost w q g r batch B (IntKind.i64.wrap (sz - loss wS ks es)) (IntKind.i64.wrap (by_ - loss wB ks es)) (marked ks es)) := by
  go_enter Trym.func32, Trym.ntmps32
  go_wp2_with fail
  refine (remove_any q g r batch B sz by_ es a c ks w hn hkn hqg hqr hgr hB.out hsz.out hby.out hN.out hkeys.out hne.out hQ.out hR.out hM.out hnd.out).mono ?_
  rintro e w' hp
  obtain ⟨rfl, hq, hm, hk⟩ := hp
  have H1 := hide hq
  have H2 := hide hm
  have H3 := hide hk
  clear hq hm hk
  go_wp2_with fail
  go_end0
  exact ⟨rfl, H1.out, H2.out, H3.out⟩

end Go.Proofs.Qxb6601980aMods
