import Derived.Test.Qxb6601980aModsH3
namespace Go.Proofs.Qxb6601980aMods
open Go.RowKit
attribute [local go_sem] Trym.eqNil47 Trym.neNil47
attribute [local go_sem ↓] ld53_eq st53_eq bd53_eq ld68_eq st68_eq bd68_eq bs28_eq ld50_eq

/-- The map 'del'. -/
def DelOk (ks : List (List Int)) (D : List (List Int × Value)) : Prop := ∀ k, getM k D = if k ∈ ks then some (.bool true) else none
theorem DelOk.start : DelOk [] [] := fun k => by simp [getM]
theorem DelOk.step {ks : List (List Int)} {D : List (List Int × Value)} (h : DelOk ks D) (k0 : List Int) : DelOk (ks ++ [k0]) (putM k0 (.bool true) D) := by
  intro k
  by_cases hk : k = k0
  · subst hk
    rw [getM_put_same, if_pos (by simp)]
  · rw [getM_put_other hk, h k]
    simp [hk]
theorem zero4 (w : World) : (zeroValue 4).run Trym.prog w = .ok (.bool false) w := by kernel_rfl

theorem take_set_next {l m : List Ent} {k : Nat} {y : Ent} (hk : k < l.length) (h : l.take k = m.take k) (hy : m[k]? = some y) : (l.set k y).take (k + 1) = m.take (k + 1) := by
  rw [List.take_add_one, List.take_add_one, List.take_set_of_le (Nat.le_refl _), h, hy]
  simp [hk]
theorem marked_get {ks : List (List Int)} {es : List Ent} {k : Nat} {e : Ent} (h : es[k]? = some e) : (marked ks es)[k]? = some (kill ks e) := by simp [marked, h]
theorem kill_dead {ks : List (List Int)} {e : Ent} (h : e.live = false) : kill ks e = e := by simp [kill, h]
theorem kill_out {ks : List (List Int)} {e : Ent} (h : e.key ∉ ks) : kill ks e = e := by simp [kill, h]
theorem kill_in {ks : List (List Int)} {e : Ent} (hl : e.live = true) (h : e.key ∈ ks) : kill ks e = e.gone := by simp [kill, h, hl]
theorem loss_same {f : Ent → Int} {ks : List (List Int)} {es : List Ent} {k : Nat} {e : Ent} (he : es[k]? = some e) (h : kill ks e = e) : loss f ks (es.take (k + 1)) = loss f ks (es.take k) := by
  rw [loss_take he, h]; omega
theorem loss_more {f : Ent → Int} {ks : List (List Int)} {es : List Ent} {k : Nat} {e : Ent} (he : es[k]? = some e) (h : kill ks e = e.gone) (h0 : f e.gone = 0) : loss f ks (es.take (k + 1)) = loss f ks (es.take k) + f e := by
  rw [loss_take he, h, h0]; omega
theorem bytes_marked {w : World} {ks : List (List Int)} {es : List Ent} (h : ∀ x ∈ es, BytesAt w x.a x.n) : ∀ x ∈ marked ks es, BytesAt w x.a x.n := by
  intro x hx
  obtain ⟨e, he, rfl⟩ := List.mem_map.1 hx
  unfold kill
  split
  · exact ⟨fun _ => 0, fun j hj => absurd hj (Nat.not_lt_zero _)⟩
  · exact h e he

/-- What the law's second loop keeps. -/
structure MarkInv (ks : List (List Int)) (es : List Ent) (gm r : Nat) (D : List (List Int × Value)) (k : Nat) (wr : World) : Prop where
  row : ∃ l : List Ent, l.length = es.length ∧ RowIs wr gm 53 l ∧ l.take k = (marked ks es).take k
  map : MapIs wr r okKey keyVal D

set_option maxRecDepth 100000 in
set_option maxHeartbeats 3200000 in
theorem removeSpec_walk (batch B sz by_ : Int) (a : Option Addr) (c : Nat) (es : List Ent) (a5 : Option Addr) (c5 : Nat) (ks : List (List Int)) (w : World) (hB : Hid (IntKind.u64.wrap B = B)) (hsz : Hid (IntKind.i64.wrap sz = sz)) (hby_ : Hid (IntKind.i64.wrap by_ = by_))
    (hnil : Hid (a = none → es = [] ∧ c = 0)) (hrow : Hid (EntsAt w a es)) (hby : Hid (∀ x ∈ es, BytesAt w x.a x.n)) (hnil5 : Hid (a5 = none → ks = [] ∧ c5 = 0)) (hkeys : Hid (KeysIn w a5 ks)) :
    Calls Trym.prog 7 #[.int .i64 batch, .slice a es.length c, .int .u64 B, .int .i64 sz, .int .i64 by_, .slice a5 ks.length c5] w fun e w' => e = .returned (.bool true) ∧ Below w.heap.size w w' := by
  go_enter Trym.func7, Trym.ntmps7
  go_wp2_with fail
  refine (zzRemove_any _ _ _ _ a c es a5 c5 ks.length w hrow).mono ?_
  rintro e w' ⟨⟨ok, rfl, hok⟩, rfl⟩
  cases ok
  · clear hok
    go_wp2_with fail
    go_ret
    exact ⟨rfl, Below.refl _ _⟩
  have hle := hok rfl
  clear hok
  go_wp2_with fail
  refine (entsBytes_any a c es w' hrow).mono ?_
  rintro e w1 ⟨⟨t, ok, rfl, hok⟩, hb1⟩
  have HB1 := hide hb1
  clear hb1
  cases ok
  · clear hok
    go_wp2_with fail
    go_ret
    exact ⟨rfl, HB1.out⟩
  obtain ⟨ht, hT⟩ := hok rfl
  generalize hTT : 56 * es.length + sumL (lensOf es) = T at ht hT
  subst ht
  clear hok hTT
  have hk1 : ¬ (1048576 : Int) < (ks.length : Int) := by omega
  by_cases hk2 : (1048576 : Int) < (T : Int) + 32 * (ks.length : Int)
  · go_wp2_with fail
    go_ret
    exact ⟨rfl, HB1.out⟩
  go_wp2_with fail
  refine (placesOf_any a c es B w1 (hrow.out.later HB1.out) (by omega)).mono ?_
  rintro e w2 ⟨hform, hb2⟩
  have HB2 := hide hb2
  clear hb2 hk2
  rcases hform with ⟨rfl, -⟩ | ⟨r0, rfl, -, -, hnd⟩
  · go_wp2_with fail
    go_ret
    exact ⟨rfl, HB1.out.trans (HB2.out.mono HB1.out.size)⟩
  have HND := hide hnd
  clear hnd
  have HBa : Hid (Below w'.heap.size w' w2) := hide (HB1.out.trans (HB2.out.mono HB1.out.size))
  have HN1 : Hid (∀ x ∈ es, x.n ≤ 1048576) := hide (fun x hx => by have := lens_le hx; omega)
  have hkn : ks.length ≤ 1048576 := by omega
  go_wp2_with fail
  refine (cloneEnts_any a c es w2 hnil.out (hrow.out.later HBa.out) (fun x hx => (hby.out x hx).later HBa.out) (by omega) HN1.out).mono ?_
  rintro e w3 ⟨⟨a3, es3, rfl, -, hrow3, hsig, hby3⟩, hb3⟩
  have hl3 := length_of_sig hsig
  have HND3 : Hid (pkeys es3).Nodup := hide (by rw [pkeys_of_sig hsig]; exact HND.out)
  have HN3 : Hid (∀ x ∈ es3, x.n ≤ 1048576) := hide (fun x hx => by
    have h1 := lens_le hx
    rw [lens_of_sig hsig] at h1
    omega)
  have HR3 := hide hrow3
  have HBY3 := hide hby3
  have HB3 : Hid (Below w'.heap.size w' w3) := hide (HBa.out.trans (hb3.mono HBa.out.size))
  rw [← hl3] at hle ⊢
  have hn3 : es3.length ≤ 1048576 := by omega
  clear hrow3 hsig hby3 hb3 hl3 HND HN1 hle HB1 HB2 hT hk1
  go_wp2_with fail
  refine (cloneKeys_any a5 c5 ks w3 hnil5.out (hkeys.out.later HB3.out) hkn).mono ?_
  rintro e w4 ⟨⟨a6, rfl, hkeys4⟩, hb4⟩
  have HK4 := hide hkeys4
  have HB4 := hide hb4
  clear hkeys4 hb4
  have hmm := @run_makeMap Trym.prog
  go_wp2
  go_loopw [69] (fun i wr => ∃ j : Nat, j ≤ ks.length ∧ i = .int .i64 j ∧ Below w4.heap.size w4 wr ∧ ∃ D, MapIs wr w4.heap.size okKey keyVal D ∧ DelOk (ks.take j) D) (fun i _ => ks.length - (intOf i).toNat)
  case atStart => exact ⟨0, Nat.zero_le _, rfl, (Below.refl _ _).alloc (Nat.le_refl _) _, [], MapIs.made _, DelOk.start⟩
  case round =>
    obtain ⟨j, hj, rfl, hbel, D, hD, hdel⟩ := hrel
    by_cases hlt : j < ks.length
    · obtain ⟨k, hk⟩ : ∃ k, ks[j]? = some k := ⟨_, List.getElem?_eq_getElem hlt⟩
      obtain ⟨hlen, b, off, hab, hr⟩ := HK4.out j k hk
      subst hab
      have HTK : Hid (ks.take (j + 1) = ks.take j ++ [k]) := by rw [List.take_add_one, hk]; rfl
      have HR1 := hide (rangeAt_later hbel hr)
      have HL := hide hlen
      have HB := hide hbel
      have HD := hide hD
      have HDL := hide hdel
      have hX := ((Below.refl wr.heap.size wr).alloc (Nat.le_refl _) (.cells (keyCells k).toArray 50))
      have HDX := hide (hD.later hX)
      have hrg : (wr.alloc (.cells (keyCells k).toArray 50)).rangeAt wr.heap.size 0 (keyCells k) := by
        intro i v hv
        rw [Nat.zero_add, World.cell?_alloc_at _ _ _ _ rfl]
        simpa using hv
      have HRG := hide hrg
      clear hr hbel hD hdel hX hrg hk hlen hmm
      go_wp2_with (first | (refine wpList_load_mid rfl 50 _ rfl _ _ rfl (keyCells k) _ HR1.out Trym.underlying50 rfl (by rw [Trym.size50, keyCells_length, HL.out]) ?_) | (refine wpList_alloc_row rfl 50 rfl _ _ _ Trym.info50 ?_) | (refine wpList_store_new rfl 50 _ _ rfl rfl (keyCells k) rfl rfl (by simp [keyCells_length, HL.out]) (by rw [Trym.size50, keyCells_length, HL.out]) (keyCells_one k) ?_) | (refine wpList_load_mid rfl 50 _ rfl _ _ rfl (keyCells k) _ HRG.out Trym.underlying50 rfl (by rw [Trym.size50, keyCells_length, HL.out]) ?_) | (at_mapUpdate; refine wpList_update rfl 56 _ _ _ rfl key50 Trym.underlying56 _ rfl k HL.out rfl (.bool true) rfl HDX.out ?_; intro w1 hm1 ht1))
      have hB2 : Below w4.heap.size w4 w1 := ht1.below (HB.out.alloc HB.out.size _) (Nat.le_refl _)
      go_roundw
      case rel =>
        refine ⟨j + 1, by omega, by go_num, hB2, _, hm1, ?_⟩
        rw [HTK.out]
        exact HDL.out.step k
      case measure => simp [intOf]; omega
    · obtain rfl : j = ks.length := by omega
      rw [List.take_length] at hdel
      have HB5 := hide hbel
      have HD := hide hD
      have HDL := hide hdel
      clear hbel hD hdel hmm
      have hmk := make_ents Trym.underlying28 Trym.info53 es3.length hn3
      obtain ⟨gm, hgm⟩ : ∃ gm, gm = wr.heap.size := ⟨_, rfl⟩
      obtain ⟨rd, hrd⟩ : ∃ rd, rd = w4.heap.size := ⟨_, rfl⟩
      go_wp2_with fail
      rw [← hgm, ← hrd]
      obtain ⟨W6, hW6⟩ : ∃ W6, W6 = wr.alloc (.cells (flat (List.replicate es3.length Ent.zero)).toArray 53) := ⟨_, rfl⟩
      rw [← hW6]
      have hrdm : rd < gm := by rw [hrd, hgm]; exact HD.out.lt
      have hb6 : Below w4.heap.size w4 W6 := by rw [hW6]; exact HB5.out.alloc HB5.out.size _
      have hR6 : RowIs W6 gm 53 (List.replicate es3.length Ent.zero) := by rw [hW6, hgm]; exact heap_alloc_new _ _
      have hD6 : MapIs W6 rd okKey keyVal D := by rw [hW6, hrd]; exact HD.out.later ((Below.refl _ _).alloc (Nat.le_refl _) _)
      have hgm4 : w4.heap.size ≤ gm := by rw [hgm]; exact HB5.out.size
      have HB6 := hide hb6
      have HR6 := hide hR6
      have HD6 := hide hD6
      clear hmk hgm hrd hW6 hb6 hR6 hD6 HD HB5
      go_loopw [21, 22, 83] (fun s b i wr => ∃ k : Nat, k ≤ es3.length ∧ i = .int .i64 k ∧ s = .int .i64 (wrap64 (sz - loss wS ks (es3.take k))) ∧ b = .int .i64 (wrap64 (by_ - loss wB ks (es3.take k))) ∧ Below gm W6 wr ∧ ∃ l : List Ent, l.length = es3.length ∧ RowIs wr gm 53 l ∧ l.take k = (marked ks es3).take k) (fun _ _ i _ => es3.length - (intOf i).toNat)
      case atStart =>
        refine ⟨0, Nat.zero_le _, rfl, ?_, ?_, Below.refl _ _, _, List.length_replicate, HR6.out, by simp⟩
        · have : loss wS ks (es3.take 0) = 0 := rfl
          rw [wrap64_is, this, Int.sub_zero, hsz.out]
        · have : loss wB ks (es3.take 0) = 0 := rfl
          rw [wrap64_is, this, Int.sub_zero, hby_.out]
      case round =>
        obtain ⟨k, hk, rfl, rfl, rfl, hbg, l, hll, hblk, htake⟩ := hrel
        have hb4 : Below w4.heap.size w4 wr := HB6.out.trans (hbg.mono hgm4)
        by_cases hlt : k < es3.length
        · obtain ⟨e, b, off, he, rfl, hr⟩ := (HR3.out.later HB4.out).at hlt
          have HRr := hide (rangeAt_later hb4 hr)
          have hgw : gm < wr.heap.size := lt_of_block hblk
          have hne1 : wr.heap.size ≠ gm := by omega
          have hne2 : gm ≠ wr.heap.size := by omega
          have hX := ((Below.refl wr.heap.size wr).alloc (Nat.le_refl _) (.cells (entCells e).toArray 53))
          have hlx : (wr.alloc (.cells (entCells e).toArray 53)).rangeAt wr.heap.size 0 (entCells e) := by
            intro i v hv
            rw [Nat.zero_add, World.cell?_alloc_at _ _ _ _ rfl]
            simpa using hv
          have hth : (wr.alloc (.cells (entCells e).toArray 53)).there gm (k * 33) (entCells e).toArray.size := by
            have := (hblk.later hX).there (i := k) (by omega)
            simpa [entCells_length] using this
          have hRX : RowIs (wr.alloc (.cells (entCells e).toArray 53)) gm 53 l := hblk.later hX
          have hRY : RowIs ((wr.alloc (.cells (entCells e).toArray 53)).setCells gm (k * 33) (entCells e)) gm 53 (l.set k e) := hRX.stored (by omega) e
          have hly : ((wr.alloc (.cells (entCells e).toArray 53)).setCells gm (k * 33) (entCells e)).rangeAt wr.heap.size 0 (entCells e) := World.rangeAt_setCells_apart hlx _ _ _ (Or.inl hne1)
          have htx := rangeAt_tx hly
          rw [Nat.zero_add] at htx
          have hld := run_ld50 e.len (rangeAt_key hly)
          have hBY : Below gm W6 ((wr.alloc (.cells (entCells e).toArray 53)).setCells gm (k * 33) (entCells e)) := below_setCells (hbg.alloc (Nat.le_of_lt hgw) _) (Nat.le_refl _) _ _
          have hDY : MapIs ((wr.alloc (.cells (entCells e).toArray 53)).setCells gm (k * 33) (entCells e)) rd okKey keyVal D := HD6.out.of_block (hBY.block rd hrdm)
          have hlk := run_lookup_of key50 Trym.underlying56 (zero4 _) hDY e.len false
          rw [HDL.out e.key] at hlk
          have hfz : ((wr.alloc (.cells (entCells e).toArray 53)).setCells gm (k * 33) (entCells e)).frozen? ⟨gm, k * 33 + 32, none⟩ = false := frozen_of_row _ _ _ _ _ hRY
          have hkl : k < l.length := by omega
          have hcl := rangeAt_tx (hRY.range (i := k) (e := e) (by simp [hkl]))
          have HLX := hide hlx
          have HTh := hide hth
          have HRY := hide hRY
          have HB := hide hBY
          have HE := hide he
          have HKL := hide hkl
          have HTK := hide htake
          have HLL := hide hll
          clear hr hX hlx hth hRX hRY hly hBY hDY he hkl htake hll hbg hblk hb4
          by_cases hl : e.a.isNone = true
          · clear hlk hld hfz hcl
            go_wp2_with (first | (refine wpList_load_mid rfl 53 _ rfl _ _ rfl (entCells e) _ HRr.out Trym.underlying53 rfl (by rw [Trym.size53, entCells_length]) ?_) | (refine wpList_alloc_row rfl 53 rfl _ _ _ Trym.info53 ?_) | (refine wpList_store_new rfl 53 _ _ rfl rfl (entCells e) rfl rfl (by simp [entCells_length]) (by rw [Trym.size53, entCells_length]) (entCells_one e) ?_) | (refine wpList_load_mid rfl 53 _ rfl _ _ rfl (entCells e) _ HLX.out Trym.underlying53 rfl (by rw [Trym.size53, entCells_length]) ?_) | (refine wpList_store_mid rfl 53 _ _ rfl _ _ (entCells e).toArray rfl rfl HTh.out (by rw [Trym.size53]; simp [entCells_length]) (all_oneCell_toArray (entCells_one e)) ?_))
            go_roundw
            case rel =>
              have hkd : kill ks e = e := kill_dead (live_of_isNone hl)
              refine ⟨k + 1, by omega, by go_num, by rw [loss_same HE.out hkd], by rw [loss_same HE.out hkd], HB.out, _, by simpa using HLL.out, HRY.out, take_set_next HKL.out HTK.out ?_⟩
              rw [marked_get HE.out, hkd]
            case measure => simp [intOf]; omega
          · have hl2 : e.a.isNone = false := Bool.not_eq_true _ ▸ hl
            clear hl
            have hlv := hide (live_of_some hl2)
            by_cases hin : e.key ∈ ks
            · have hlk2 : (Instr.lookup 56 (.map (some rd)) (.agg (keyCells e.key).toArray) false).run Trym.prog ((wr.alloc (.cells (entCells e).toArray 53)).setCells gm (k * 33) (entCells e)) = .ok (.bool true) ((wr.alloc (.cells (entCells e).toArray 53)).setCells gm (k * 33) (entCells e)) := by
                rw [if_pos hin] at hlk; exact hlk
              have HIN := hide hin
              have hen : e.n ≤ 1048576 := HN3.out e (List.mem_of_getElem? HE.out)
              clear hlk hin
              go_wp2_with (first | (refine wpList_load_mid rfl 53 _ rfl _ _ rfl (entCells e) _ HRr.out Trym.underlying53 rfl (by rw [Trym.size53, entCells_length]) ?_) | (refine wpList_alloc_row rfl 53 rfl _ _ _ Trym.info53 ?_) | (refine wpList_store_new rfl 53 _ _ rfl rfl (entCells e) rfl rfl (by simp [entCells_length]) (by rw [Trym.size53, entCells_length]) (entCells_one e) ?_) | (refine wpList_load_mid rfl 53 _ rfl _ _ rfl (entCells e) _ HLX.out Trym.underlying53 rfl (by rw [Trym.size53, entCells_length]) ?_) | (refine wpList_store_mid rfl 53 _ _ rfl _ _ (entCells e).toArray rfl rfl HTh.out (by rw [Trym.size53]; simp [entCells_length]) (all_oneCell_toArray (entCells_one e)) ?_))
              refine (queuedSize_any e.a e.n e.c _ hen).mono ?_
              rintro e1 w7 ⟨rfl, rfl⟩
              go_wp2_with fail
              go_roundw
              case rel =>
                have hkd : kill ks e = e.gone := kill_in hlv.out HIN.out
                refine ⟨k + 1, by omega, by go_num, ?_, ?_, HB.out.setCell (Nat.le_refl _) _, (l.set k e).set k e.gone, by simpa using HLL.out, HRY.out.gone (by simp [HKL.out]), ?_⟩
                · rw [loss_more HE.out hkd (wS_gone e), wS_live hlv.out, wrap64_is, wrap64_is, wrap64_is, wrap_less _ _ _ _ rfl]
                · rw [loss_more HE.out hkd (wB_gone e), wrap64_is, wrap64_is, wrap64_is]
                  exact congrArg (Value.int .i64) (wrap_less _ _ _ _ rfl)
                · rw [List.set_set]
                  refine take_set_next HKL.out HTK.out ?_
                  rw [marked_get HE.out, hkd]
              case measure => simp [intOf]; omega
            · have hlk2 : (Instr.lookup 56 (.map (some rd)) (.agg (keyCells e.key).toArray) false).run Trym.prog ((wr.alloc (.cells (entCells e).toArray 53)).setCells gm (k * 33) (entCells e)) = .ok (.bool false) ((wr.alloc (.cells (entCells e).toArray 53)).setCells gm (k * 33) (entCells e)) := by
                rw [if_neg hin] at hlk; exact hlk
              have HIN := hide hin
              clear hlk hin hfz hcl
              go_wp2_with (first | (refine wpList_load_mid rfl 53 _ rfl _ _ rfl (entCells e) _ HRr.out Trym.underlying53 rfl (by rw [Trym.size53, entCells_length]) ?_) | (refine wpList_alloc_row rfl 53 rfl _ _ _ Trym.info53 ?_) | (refine wpList_store_new rfl 53 _ _ rfl rfl (entCells e) rfl rfl (by simp [entCells_length]) (by rw [Trym.size53, entCells_length]) (entCells_one e) ?_) | (refine wpList_load_mid rfl 53 _ rfl _ _ rfl (entCells e) _ HLX.out Trym.underlying53 rfl (by rw [Trym.size53, entCells_length]) ?_) | (refine wpList_store_mid rfl 53 _ _ rfl _ _ (entCells e).toArray rfl rfl HTh.out (by rw [Trym.size53]; simp [entCells_length]) (all_oneCell_toArray (entCells_one e)) ?_))
              go_roundw
              case rel =>
                have hkd : kill ks e = e := kill_out HIN.out
                refine ⟨k + 1, by omega, by go_num, by rw [loss_same HE.out hkd], by rw [loss_same HE.out hkd], HB.out, _, by simpa using HLL.out, HRY.out, take_set_next HKL.out HTK.out ?_⟩
                rw [marked_get HE.out, hkd]
              case measure => simp [intOf]; omega
        · obtain rfl : k = es3.length := by omega
          have hml := marked_length ks es3
          have hle2 : l = marked ks es3 := by
            rw [List.take_of_length_le (by omega), List.take_of_length_le (by omega)] at htake
            exact htake
          subst hle2
          rw [List.take_length, wrap64_is, wrap64_is]
          have HRm := hide hblk
          have HB7 := hide hb4
          clear hblk hb4 hbg htake hll HR6 HB6 HD6 HDL
          obtain ⟨SZ, HSZ⟩ : ∃ SZ, Hid (SZ = IntKind.i64.wrap (sz - loss wS ks es3)) := ⟨_, rfl⟩
          obtain ⟨BY, HBY⟩ : ∃ BY, Hid (BY = IntKind.i64.wrap (by_ - loss wB ks es3)) := ⟨_, rfl⟩
          rw [← HSZ.out, ← HBY.out]
          go_wp2_with fail
          have hpm := packModel_any (some ⟨gm, 0, none⟩) es3.length (marked ks es3) batch B wr (HRm.out.ents) (by omega)
          rw [hml] at hpm
          refine hpm.mono ?_
          clear hpm
          rintro e w8 ⟨⟨gw, cw, rfl, hwant⟩, hb8⟩
          have HW := hide hwant
          have HB8 := hide (HB7.out.trans (hb8.mono HB7.out.size))
          clear hwant hb8
          go_wp2_with fail
          refine (newQueue_any a3 es3.length es3 batch B sz by_ w8 ((HR3.out.later HB4.out).later HB8.out) hn3 HND3).mono ?_
          rintro e w9 ⟨⟨q, g, r, rfl, hq, hg, hr, hqg, hqr, hgr, hQ, hRow, hM⟩, hb9⟩
          have HB9 := hide hb9
          have HQ := hide hQ
          have HRow := hide hRow
          have HM := hide hM
          have HX := hide (And.intro hq (And.intro hg hr))
          clear hQ hRow hM hb9 hq hg hr
          have HB49 : Hid (Below w4.heap.size w4 w9) := hide (HB8.out.trans (HB9.out.mono HB8.out.size))
          have HNE : Hid (ks ≠ [] → ∀ ad, a6 = some ad → ad.block ≠ q ∧ ad.block ≠ g ∧ ad.block ≠ r) := hide (fun hne ad had => by
            obtain ⟨k0, hk0⟩ : ∃ k0, ks[0]? = some k0 := ⟨_, List.getElem?_eq_getElem (List.length_pos_iff.2 hne)⟩
            obtain ⟨hkl, b, off, hab, hrr⟩ := HK4.out 0 k0 hk0
            rw [had] at hab
            obtain rfl := Option.some.inj hab
            have hblt : b < w4.heap.size := block_lt_of_cell (a := ⟨b, off + 0 * 32 + 0, none⟩) (hrr 0 (.int .u8 (k0[0]'(by omega))) (by simp [keyCells, hkl]))
            obtain ⟨h1, h2, h3⟩ := HX.out
            have h4 := HB8.out.size
            exact ⟨by show b ≠ q; omega, by show b ≠ g; omega, by show b ≠ r; omega⟩)
          go_wp2_with fail
          refine (zzRemoveCall q g r batch B sz by_ es3 a6 ks.length ks w9 hn3 hkn hqg hqr hgr hB hsz hby_ HN3 (HK4.out.later HB49.out) HNE HQ HRow HM HND3).mono ?_
          rw [← HSZ.out, ← HBY.out]
          rintro e w10 ⟨rfl, ⟨off, hQ6, hE6⟩, ⟨M, hM6, hl6, hp6⟩, hk6⟩
          have H1 := hide hQ6
          have H2 := hide hE6
          have H3 := hide hM6
          have H4 := hide hl6
          have H5 := hide hp6
          have H6 := hide hk6
          clear hQ6 hE6 hM6 hl6 hp6 hk6
          have hb10 : Below w8.heap.size w8 w10 := by
            obtain ⟨h1, h2, h3⟩ := HX.out
            exact HB9.out.trans (H6.out.below HB9.out.size (fun k hk => by omega))
          have HB10 := hide hb10
          have HB410 : Hid (Below w4.heap.size w4 w10) := hide (HB8.out.trans (hb10.mono HB8.out.size))
          clear hb10
          go_wp2_with fail
          refine (queueIs_any q g off _ r gw cw batch _ SZ BY (packed (packEnd batch (marked ks es3)) (marked ks es3)) M w10 (Nat.le_trans (packed_length_le _ _) (by omega)) (fun x hx => marked_n HN3.out x (packed_mem hx)) H1.out H2.out H3.out (by rw [packed_liveN]; exact H4.out) (fun t x hx hl => by rw [placeVal_add]; exact H5.out t x hx hl) (HW.out.later HB10.out) (fun x hx => bytes_marked (fun y hy => ((HBY3.out y hy).later HB4.out).later HB410.out) x (packed_mem hx))).mono ?_
          rintro e w11 ⟨rfl, hb11⟩
          have HB11 := hide hb11
          clear hb11
          go_wp2_with fail
          go_ret
          have s3 := HB3.out.size
          have s4 := HB4.out.size
          have s10 := HB410.out.size
          exact ⟨rfl, ((HB3.out.trans (HB4.out.mono s3)).trans (HB410.out.mono (Nat.le_trans s3 s4))).trans (HB11.out.mono (Nat.le_trans s3 (Nat.le_trans s4 s10)))⟩

end Go.Proofs.Qxb6601980aMods
