import Derived.Test.Qxb6601980aModsM3
import Derived.Maps.Own
import Derived.Maps.OwnOps
namespace Go.Proofs.Qxb6601980aMods
open Go.RowKit
attribute [local go_sem] Trym.eqNil47

/-- What placesOf leaves. -/
structure PlacesPost (w : World) (B : Int) (es : List Ent) (e : Ending) (w' : World) : Prop where
  form : (e = .returned (.tuple #[.map none, .bool false]) ∧ ¬ (pkeys es).Nodup) ∨
    ∃ r, e = .returned (.tuple #[.map (some r), .bool true]) ∧ w.heap.size ≤ r ∧ MapIs w' r okKey keyVal (placesFrom B 0 es) ∧ (pkeys es).Nodup
  below : Below w.heap.size w w'

theorem zero29 (w : World) : (zeroValue 29).run Trym.prog w = .ok (.int .u64 0) w := by kernel_rfl

theorem range_ent_key (w : World) (e : Ent) (t : TypeId) : (w.alloc (.cells (entCells e).toArray t)).rangeAt w.heap.size 0 (keyCells e.key) := by
  refine rangeAt_key ?_
  intro j v hv
  rw [Nat.zero_add, World.cell?_alloc_at _ _ _ _ rfl]
  simpa using hv

theorem Turned.below {r B : Nat} {a w w' : World} (h : Turned r w w') (hb : Below B a w) (hr : B ≤ r) : Below B a w' :=
  hb.trans ⟨h.os, h.tape, h.output, Nat.le_of_eq h.size.symm, fun k hk => h.block k (by omega)⟩

set_option maxHeartbeats 1600000 in
theorem placesOf_any (a : Option Addr) (c : Nat) (es : List Ent) (B : Int) (w : World) (hrow : Hid (EntsAt w a es)) (hn : es.length ≤ 1048576) :
    Calls Trym.prog 15 #[.slice a es.length c, .int .u64 B] w (PlacesPost w B es) := by
  have hmm := @run_makeMap Trym.prog
  go_enter Trym.func15, Trym.ntmps15
  go_wp2
  go_loopw [14] (fun i wr => ∃ k : Nat, k ≤ es.length ∧ i = .int .i64 k ∧ Below w.heap.size w wr ∧ MapIs wr w.heap.size okKey keyVal (placesFrom B 0 (es.take k)) ∧ (pkeys (es.take k)).Nodup) (fun i _ => es.length - (intOf i).toNat)
  case atStart => exact ⟨0, Nat.zero_le _, rfl, (Below.refl _ _).alloc (Nat.le_refl _) _, MapIs.made _, by simp [pkeys]⟩
  case round =>
    obtain ⟨k, hk, rfl, hbel, hmap, hnd⟩ := hrel
    by_cases hlt : k < es.length
    · obtain ⟨e, b, off, he, rfl, hr⟩ := hrow.out.at hlt
      have HR := hide (rangeAt_later hbel hr)
      have HB := hide hbel
      have HM := hide hmap
      have HN := hide hnd
      have HE := hide he
      have htx := cell_ent_tx wr e 53
      have HKey := hide (range_ent_key wr e 53)
      clear hr he hbel hmap hnd hrow hmm
      by_cases hl : e.a.isNone = true
      · go_wp2_with (first | (refine wpList_load_mid rfl 53 _ rfl _ _ rfl (entCells e) _ HR.out Trym.underlying53 rfl (by rw [Trym.size53, entCells_length]) ?_) | (refine wpList_alloc_row rfl 53 rfl _ _ _ Trym.info53 ?_) | (refine wpList_store_new rfl 53 _ _ rfl rfl (entCells e) rfl rfl (by simp [entCells_length]) (by rw [Trym.size53, entCells_length]) (entCells_one e) ?_))
        go_roundw
        case rel =>
          have hlv : e.live = false := by simp [Ent.live, Option.isNone_iff_eq_none.1 hl]
          refine ⟨k + 1, by omega, by go_num, HB.out.alloc HB.out.size _, ?_, ?_⟩
          · rw [take_snoc_ent HE.out, placesFrom_snoc, hlv]
            simpa using HM.out.later ((Below.refl _ _).alloc (Nat.le_refl _) _)
          · rw [take_snoc_ent HE.out, pkeys_append, pkeys_single, hlv]
            simpa using HN.out
        case measure => simp [intOf]; omega
      · have hl2 : e.a.isNone = false := Bool.not_eq_true _ ▸ hl
        have hlv : Hid (e.live = true) := hide (by simpa [Ent.live, Option.isSome_iff_ne_none] using hl)
        have HM2 := hide (HM.out.later ((Below.refl _ _).alloc (Nat.le_refl _) (.cells (entCells e).toArray 53)))
        clear hl
        cases hg : getM e.key (placesFrom B 0 (es.take k)) with
        | none =>
          go_wp2_with (first | (refine wpList_load_mid rfl 53 _ rfl _ _ rfl (entCells e) _ HR.out Trym.underlying53 rfl (by rw [Trym.size53, entCells_length]) ?_) | (refine wpList_alloc_row rfl 53 rfl _ _ _ Trym.info53 ?_) | (refine wpList_store_new rfl 53 _ _ rfl rfl (entCells e) rfl rfl (by simp [entCells_length]) (by rw [Trym.size53, entCells_length]) (entCells_one e) ?_) | (refine wpList_load_mid rfl 50 _ rfl _ _ rfl (keyCells e.key) _ HKey.out Trym.underlying50 rfl (by rw [Trym.size50, keyCells_length, e.len]) ?_) | (at_lookup; refine wpList_lookup_ok rfl 32 _ _ rfl key50 Trym.underlying32 (zero29 _) _ rfl e.key e.len rfl HM2.out ?_; rw [hg]) | (at_mapUpdate; refine wpList_update rfl 32 _ _ _ rfl key50 Trym.underlying32 _ rfl e.key e.len rfl (placeVal B k) rfl HM2.out ?_; intro w1 hm1 ht1))
          have hB2 : Below w.heap.size w w1 := ht1.below (HB.out.alloc HB.out.size _) (Nat.le_refl _)
          have hlen : (es.take k).length = k := by simp; omega
          go_roundw
          case rel =>
            refine ⟨k + 1, by omega, by go_num, hB2, ?_, ?_⟩
            · rw [take_snoc_ent HE.out, placesFrom_snoc, hlv.out, hlen, Nat.zero_add]
              rw [putM_new hg] at hm1
              exact hm1
            · rw [take_snoc_ent HE.out]
              exact nodup_snoc_ent hlv.out HN.out (placesFrom_none.1 hg)
          case measure => simp [intOf]; omega
        | some p =>
          go_wp2_with (first | (refine wpList_load_mid rfl 53 _ rfl _ _ rfl (entCells e) _ HR.out Trym.underlying53 rfl (by rw [Trym.size53, entCells_length]) ?_) | (refine wpList_alloc_row rfl 53 rfl _ _ _ Trym.info53 ?_) | (refine wpList_store_new rfl 53 _ _ rfl rfl (entCells e) rfl rfl (by simp [entCells_length]) (by rw [Trym.size53, entCells_length]) (entCells_one e) ?_) | (refine wpList_load_mid rfl 50 _ rfl _ _ rfl (keyCells e.key) _ HKey.out Trym.underlying50 rfl (by rw [Trym.size50, keyCells_length, e.len]) ?_) | (at_lookup; refine wpList_lookup_ok rfl 32 _ _ rfl key50 Trym.underlying32 (zero29 _) _ rfl e.key e.len rfl HM2.out ?_; rw [hg]))
          go_ret2
          refine ⟨.inl ⟨rfl, not_nodup_of_dup HE.out hlv.out ?_⟩, HB.out.alloc HB.out.size _⟩
          exact Classical.byContradiction fun hc => by rw [placesFrom_none.2 hc] at hg; cases hg
    · obtain rfl : k = es.length := by omega
      go_wp2
      go_ret2
      exact ⟨.inr ⟨_, rfl, Nat.le_refl _, by simpa using hmap, by simpa using hnd⟩, hbel⟩

end Go.Proofs.Qxb6601980aMods
