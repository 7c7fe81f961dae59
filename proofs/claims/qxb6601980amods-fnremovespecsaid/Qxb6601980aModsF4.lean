import Derived.Test.Qxb6601980aModsF3
namespace Go.Proofs.Qxb6601980aMods
open Go.RowKit
attribute [local go_sem] Trym.eqNil47 Trym.neNil47
attribute [local go_sem ↓] ld53_eq st53_eq bd53_eq ld68_eq st68_eq bd68_eq bs28_eq

/-- What ZZTxQueueState leaves. -/
structure StatePost (w : World) (es : List Ent) (B sz by_ : Int) (e : Ending) (w' : World) : Prop where
  form : ∃ gk gt, e = .returned (.tuple #[.slice (some ⟨gk, 0, none⟩) es.length es.length, .slice (some ⟨gt, 0, none⟩) es.length es.length, .int .u64 B, .int .i64 sz, .int .i64 by_]) ∧ KeysAt w' gk es ∧ TxsIn w' gt es
  below : Below w.heap.size w w'

theorem QueueAt.later {w w' : World} {q g off cap r : Nat} {batch : Int} {n : Nat} {B sz by_ : Int} (h : QueueAt w q g off cap r batch n B sz by_) (hb : Below w.heap.size w w') : QueueAt w' q g off cap r batch n B sz by_ := h.of_block (hb.block q h.lt)

set_option maxRecDepth 100000 in
set_option maxHeartbeats 1600000 in
theorem state_any (q g off cap r : Nat) (batch B sz by_ : Int) (es : List Ent) (w : World) (hn : es.length ≤ 1048576) (hQ : QueueAt w q g off cap r batch es.length B sz by_) (hrow : Hid (EntsAt w (some ⟨g, off, none⟩) es)) :
    Calls Trym.prog 23 #[.pointer (some ⟨q, 0, none⟩)] w (StatePost w es B sz by_) := by
  have hmk := make_any Trym.underlying42 Trym.info50 es.length hn (by decide)
  have hmk2 := make_any Trym.underlying22 Trym.info47 es.length hn (by decide)
  have HQ := hide hQ
  obtain ⟨-, c1, -, -, -, -⟩ := hQ.get
  have c1' : ∀ o : Obj, (w.alloc o).cell? ⟨q, 1, none⟩ = some (.slice (some ⟨g, off, none⟩) es.length cap) := fun o => by
    rw [World.cell?_alloc_lt _ _ _ (block_lt_of_cell c1)]; exact c1
  have c1'' : ∀ o o2 : Obj, ((w.alloc o).alloc o2).cell? ⟨q, 1, none⟩ = some (.slice (some ⟨g, off, none⟩) es.length cap) := fun o o2 => by
    rw [World.cell?_alloc_lt _ _ _ (block_lt_of_cell (c1' o))]; exact c1' o
  clear hQ
  go_enter Trym.func23, Trym.ntmps23
  go_wp2
  clear c1 c1' c1''
  go_loopw [27] (fun i wr => ∃ k : Nat, k ≤ es.length ∧ i = .int .i64 k ∧ Below w.heap.size w wr ∧ (∃ C, wr.heap[w.heap.size]? = some (.cells C 50 (0, 0)) ∧ C.size = es.length * 32) ∧ (∃ D, wr.heap[w.heap.size + 1]? = some (.cells D 47 (0, 0)) ∧ D.size = es.length) ∧ KeysAt wr w.heap.size (es.take k) ∧ TxsIn wr (w.heap.size + 1) (es.take k)) (fun i _ => es.length - (intOf i).toNat)
  case atStart =>
    refine ⟨0, Nat.zero_le _, rfl, ((Below.refl _ _).alloc (Nat.le_refl _) _).alloc (by simp) _, ⟨_, heap_alloc2_old _ _ _, size_madeCells _ _⟩, ⟨_, heap_alloc2_new _ _ _, by simp [size_madeCells]⟩, ?_, ?_⟩
    · intro i e h; simp at h
    · intro i e h; simp at h
  case round =>
    obtain ⟨k, hk, rfl, hbel, ⟨C, hC, hCs⟩, ⟨D, hD, hDs⟩, hkeys, htxs⟩ := hrel
    by_cases hlt : k < es.length
    · obtain ⟨e, b, off', he, hbo, hr⟩ := hrow.out.at hlt
      obtain ⟨rfl, rfl⟩ : g = b ∧ off = off' := by simpa using hbo
      have hr1 := rangeAt_later hbel hr
      have hbne : g ≠ w.heap.size := Nat.ne_of_lt (block_lt_of_cell (rangeAt_tx hr))
      have HR := hide (rangeAt_key hr1)
      have hth : wr.there w.heap.size (k * 32) (keyCells e.key).toArray.size := by
        intro j hj
        have hj2 : j < 32 := by simpa [keyCells_length, e.len] using hj
        rw [cell_of_row _ _ _ _ _ _ hC, frozen_of_row _ _ _ _ _ hC]
        exact ⟨by rw [Array.getElem?_eq_getElem (by rw [hCs]; omega)]; rfl, rfl⟩
      have HTh := hide hth
      have htx : (wr.setCells w.heap.size (k * 32) (keyCells e.key)).cell? ⟨g, off + k * 33 + 32, none⟩ = some (.slice e.a e.n e.c) := by
        rw [World.cell?_of_block (heap_setCells_other _ _ _ _ _ hbne)]; exact rangeAt_tx hr1
      have hD2 : (wr.setCells w.heap.size (k * 32) (keyCells e.key)).heap[w.heap.size + 1]? = some (.cells D 47 (0, 0)) := by
        rw [heap_setCells_other _ _ _ _ _ (by omega)]; exact hD
      have hfz : (wr.setCells w.heap.size (k * 32) (keyCells e.key)).frozen? ⟨w.heap.size + 1, k, none⟩ = false := frozen_of_row _ _ _ _ _ hD2
      obtain ⟨old, hold⟩ : ∃ old, (wr.setCells w.heap.size (k * 32) (keyCells e.key)).cell? ⟨w.heap.size + 1, k, none⟩ = some old := by
        rw [cell_of_row _ _ _ _ _ _ hD2]; exact ⟨_, Array.getElem?_eq_getElem (by omega)⟩
      have hQr := (HQ.out.later hbel).get.2.1
      have hqne : q ≠ w.heap.size := Nat.ne_of_lt HQ.out.lt
      have hQr2 : (wr.setCells w.heap.size (k * 32) (keyCells e.key)).cell? ⟨q, 1, none⟩ = some (.slice (some ⟨g, off, none⟩) es.length cap) := by
        rw [World.cell?_of_block (heap_setCells_other _ _ _ _ _ hqne)]; exact hQr
      have HB := hide hbel
      have H1 := hide hC
      have H2 := hide hCs
      have H3 := hide hD2
      have H4 := hide hDs
      have H5 := hide hkeys
      have H6 := hide htxs
      have HE := hide he
      clear hr hr1 hbne hth hbel hC hCs hD hDs hkeys htxs he hmk hmk2 hD2 hbo hqne
      go_wp2_with (first | (refine wpList_load_mid rfl 50 _ rfl _ _ rfl (keyCells e.key) _ HR.out Trym.underlying50 rfl (by rw [Trym.size50, keyCells_length, e.len]) ?_) | (refine wpList_store_mid rfl 50 _ _ rfl _ _ (keyCells e.key).toArray rfl rfl HTh.out (by rw [Trym.size50]; simp [keyCells_length, e.len]) (all_oneCell_toArray (keyCells_one _)) ?_))
      go_roundw
      case rel =>
        have hkk : (es.take k).length = k := by simp; omega
        have hsame : KeysAt (wr.setCells w.heap.size (k * 32) (keyCells e.key)) w.heap.size (es.take (k + 1)) := by
          intro i x hx
          rw [take_snoc_ent HE.out] at hx
          by_cases hik : i < k
          · rw [List.getElem?_append_left (by omega)] at hx
            refine World.rangeAt_setCells_apart (H5.out i x hx) _ _ _ (Or.inr (Or.inl ?_))
            rw [keyCells_length, x.len]; omega
          · rw [List.getElem?_append_right (by omega), hkk] at hx
            have hi2 : i = k := by
              have := (List.getElem?_eq_some_iff.1 hx).1
              simp at this; omega
            subst hi2
            have : x = e := by simpa using hx.symm
            subst this
            exact World.rangeAt_setCells_same _ _ _ _ (by simpa using HTh.out)
        have hcs := heap_setCells_same w.heap.size 50 (keyCells e.key) (k * 32) wr C H1.out
        refine ⟨k + 1, by omega, by go_num, (below_setCells HB.out (Nat.le_refl _) _ _).setCell (Nat.le_succ _) _, ⟨_, (heap_setCell_other _ _ _ _ (by simp)).trans hcs, by rw [size_putRow]; exact H2.out⟩, ⟨_, heap_setCell_same _ _ _ _ _ _ H3.out, by simpa using H4.out⟩, ?_, ?_⟩
        · intro i x hx j v hv
          rw [World.cell?_of_block (heap_setCell_other _ ⟨w.heap.size + 1, k, none⟩ w.heap.size _ (by simp))]
          exact hsame i x hx j v hv
        · intro i x hx
          rw [cell_of_row _ _ _ _ _ _ (heap_setCell_same _ _ _ _ _ _ H3.out), Array.getElem?_setIfInBounds]
          rw [take_snoc_ent HE.out] at hx
          by_cases hik : i < k
          · rw [List.getElem?_append_left (by omega)] at hx
            rw [if_neg (by omega), ← cell_of_row _ _ _ _ _ _ H3.out, World.cell?_of_block (heap_setCells_other _ _ _ _ _ (by simp))]
            exact H6.out i x hx
          · rw [List.getElem?_append_right (by omega), hkk] at hx
            have hi2 : i = k := by
              have := (List.getElem?_eq_some_iff.1 hx).1
              simp at this; omega
            subst hi2
            have : x = e := by simpa using hx.symm
            subst this
            rw [if_pos rfl, if_pos (by rw [H4.out]; exact hlt)]
      case measure => simp [intOf]; omega
    · obtain rfl : k = es.length := by omega
      rw [List.take_length] at hkeys htxs
      obtain ⟨-, -, -, d3, d4, d5⟩ := (HQ.out.later hbel).get
      have HB := hide hbel
      have H5 := hide hkeys
      have H6 := hide htxs
      clear hbel hC hD hkeys htxs hmk hmk2 hCs hDs
      go_wp2_with fail
      go_region_held3 (fun w' => w'.cell? ⟨q, 3, none⟩ = some (.int .u64 B) ∧ w'.cell? ⟨q, 4, none⟩ = some (.int .i64 sz) ∧ w'.cell? ⟨q, 5, none⟩ = some (.int .i64 by_)) (exact ⟨by simpa using d3, by simpa using d4, by simpa using d5⟩) (fail)
      go_wp2
      exact bodyPost_ret (v := .tuple #[.slice (some ⟨w.heap.size, 0, none⟩) es.length es.length, .slice (some ⟨w.heap.size + 1, 0, none⟩) es.length es.length, .int .u64 B, .int .i64 sz, .int .i64 by_]) (by simp [results, Trym.results23, go_sem]) rfl ⟨⟨_, _, rfl, fun i x hx => by simpa using H5.out i x hx, fun i x hx => by simpa using H6.out i x hx⟩, HB.out.drew⟩

theorem run_lookup_true {α : Type} [DecidableEq α] {P : Program} {kt et t : TypeId} {ok : α → Prop} {KV : α → Value} {M : List (α × Value)} {w : World} {r : Nat} (K : KeyOk P kt ok KV) (ht : P.underlying t = some (.map kt et)) {z : Value} (hz : (zeroValue et).run P w = .ok z w) (h : MapIs w r ok KV M) {k : α} (hk : ok k) :
    (Instr.lookup t (.map (some r)) (KV k) true).run P w = .ok (.tuple #[(getM k M).getD z, .bool (getM k M).isSome]) w := by
  have := run_lookup_of K ht hz h hk true
  rwa [if_pos rfl] at this

/-- What ZZTxQueuePlace answers. -/
structure PlacePost (w : World) (k : List Int) (M : List (List Int × Value)) (e : Ending) (w' : World) : Prop where
  form : e = .returned (.tuple #[(getM k M).getD (.int .u64 0), .bool (getM k M).isSome])
  below : Below w.heap.size w w'

set_option maxRecDepth 100000 in
set_option maxHeartbeats 1600000 in
theorem place_any (q g off cap r n : Nat) (batch B sz by_ : Int) (M : List (List Int × Value)) (k : List Int) (hk : k.length = 32) (w : World) (hQ : QueueAt w q g off cap r batch n B sz by_) (hM : MapIs w r okKey keyVal M) :
    Calls Trym.prog 26 #[.pointer (some ⟨q, 0, none⟩), .agg (keyCells k).toArray] w (PlacePost w k M) := by
  have hX := ((Below.refl w.heap.size w).alloc (Nat.le_refl _) (.cells (keyCells k).toArray 50))
  have hlk : (Instr.lookup 32 (.map (some r)) (.agg (keyCells k).toArray) true).run Trym.prog (w.alloc (.cells (keyCells k).toArray 50)).drew = .ok (.tuple #[(getM k M).getD (.int .u64 0), .bool (getM k M).isSome]) (w.alloc (.cells (keyCells k).toArray 50)).drew :=
    run_lookup_true (w := (w.alloc (.cells (keyCells k).toArray 50)).drew) key50 Trym.underlying32 (zero29 _) ((hM.later hX).of_block rfl) hk
  have hq2 := (hQ.later hX).get.2.2.1
  have hrg : (w.alloc (.cells (keyCells k).toArray 50)).rangeAt w.heap.size 0 (keyCells k) := by
    intro i v hv
    rw [Nat.zero_add, World.cell?_alloc_at _ _ _ _ rfl]
    simpa using hv
  have hu50 := Trym.underlying50
  have hi50 : (Trym.prog.info? 50).map (·.size) = some (keyCells k).length := by rw [Trym.size50, keyCells_length, hk]
  have HX := hide hX
  have HRG := hide hrg
  clear hX hQ hM hrg
  obtain ⟨v1, HV⟩ : ∃ v1, Hid (v1 = (getM k M).getD (.int .u64 0)) := ⟨_, rfl⟩
  obtain ⟨b1, HB1⟩ : ∃ b1, Hid (b1 = (getM k M).isSome) := ⟨_, rfl⟩
  rw [← HV.out, ← HB1.out] at hlk
  go_enter Trym.func26, Trym.ntmps26
  go_wp2
  go_region_held3 (fun w' => w'.cell? ⟨q, 2, none⟩ = some (.map (some r)) ∧ w'.rangeAt w.heap.size 0 (keyCells k)) (exact ⟨by simpa using hq2, by simpa using HRG.out⟩) (fail)
  go_wp2
  go_ret2
  refine ⟨?_, HX.out.drew⟩
  rw [← HV.out, ← HB1.out]
  rfl

set_option maxRecDepth 100000 in
set_option maxHeartbeats 1600000 in
theorem places_any (q g off cap r n : Nat) (batch B sz by_ : Int) (M : List (List Int × Value)) (w : World) (hQ : QueueAt w q g off cap r batch n B sz by_) (hM : MapIs w r okKey keyVal M) :
    Calls Trym.prog 27 #[.pointer (some ⟨q, 0, none⟩)] w fun e w' => e = .returned (.int .i64 M.length) ∧ w' = w := by
  have hq2 := hQ.get.2.2.1
  have hlen := run_len_of (t := 32) (P := Trym.prog) Trym.underlying32 hM 3
  go_enter Trym.func27, Trym.ntmps27
  go_wp2
  go_ret
  exact ⟨rfl, rfl⟩

set_option maxRecDepth 100000 in
set_option maxHeartbeats 1600000 in
/-- sameTx, a []byte beside itself. -/
theorem sameTx_same (a : Option Addr) (n c : Nat) (w : World) (hn : n ≤ 1048576) (hby : BytesAt w a n) :
    Calls Trym.prog 39 #[.slice a n c, .slice a n c] w fun e w' => e = .returned (.bool true) ∧ ∃ m, w' = w.drewN m := by
  obtain ⟨Z, hZ⟩ := hby
  have HZ := hide hZ
  have hbe : (a.isNone != a.isNone) = false := by simp
  have hne : ((n : Int) != (n : Int)) = false := by simp
  clear hZ
  go_enter Trym.func39, Trym.ntmps39
  go_wp2
  go_loopw [20] (fun i wr => ∃ k : Nat, k ≤ n ∧ i = .int .i64 k ∧ ∃ m, wr = w.drewN m) (fun i _ => n - (intOf i).toNat)
  case atStart => exact ⟨0, Nat.zero_le _, rfl, 0, rfl⟩
  case round =>
    obtain ⟨k, hk, rfl, m, hwm⟩ := hrel
    have hbel : Below w.heap.size w wr := by rw [hwm]; exact below_drewN (Below.refl _ _) m
    have HW := hide hwm
    clear hwm
    by_cases hlt : k < n
    · obtain ⟨b, off, rfl, hc⟩ := HZ.out k hlt
      have hc1 := (hbel.cell (block_lt_of_cell hc)).trans hc
      have hi0 : (0 : Int) ≤ (k : Int) := Int.natCast_nonneg _
      have hi1 : (k : Int) < (n : Int) := by omega
      clear hbel hc
      go_wp2_with fail
      go_region_held3 (fun w' => w'.cell? ⟨b, off + k, none⟩ = some (.int .u8 (Z k))) (simpa using hc1) (fail)
      go_wp2
      go_roundw
      case rel => exact ⟨k + 1, by omega, by go_num, m + 1, by rw [HW.out]; rfl⟩
      case measure => simp [intOf]; omega
    · clear hbel
      go_wp2
      go_ret
      exact ⟨rfl, m, HW.out⟩

end Go.Proofs.Qxb6601980aMods
