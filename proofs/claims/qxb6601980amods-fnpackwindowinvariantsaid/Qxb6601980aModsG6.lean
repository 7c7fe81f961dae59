import Derived.Test.Qxb6601980aModsG5
namespace Go.Proofs.Qxb6601980aMods
open Go.RowKit
attribute [local go_sem] Trym.eqNil47 Trym.neNil47
attribute [local go_sem ↓] ld53_eq st53_eq bd53_eq ld68_eq st68_eq bd68_eq bs28_eq ld50_eq

theorem isNone_of_live {e : Ent} (h : e.live = true) : e.a.isNone = false := by
  unfold Ent.live at h
  cases he : e.a with
  | none => simp [he] at h
  | some x => rfl

set_option maxRecDepth 100000 in
set_option maxHeartbeats 3200000 in
theorem window_walk (batch B sz by_ : Int) (a : Option Addr) (c : Nat) (es : List Ent) (w : World) (hB : Hid (IntKind.u64.wrap B = B)) (hnil : Hid (a = none → es = [] ∧ c = 0)) (hrow : Hid (EntsAt w a es)) (hby : Hid (∀ x ∈ es, BytesAt w x.a x.n)) :
    Calls Trym.prog 5 #[.int .i64 batch, .slice a es.length c, .int .u64 B, .int .i64 sz, .int .i64 by_] w fun e w' => e = .returned (.bool true) ∧ Below w.heap.size w w' := by
  go_enter Trym.func5, Trym.ntmps5
  go_wp2_with fail
  refine (zzWin_any _ _ _ _ a c es w hrow).mono ?_
  rintro e w' ⟨⟨ok, rfl, hok⟩, rfl⟩
  cases ok
  · clear hok
    go_wp2_with fail
    go_ret
    exact ⟨rfl, Below.refl _ _⟩
  have hle := hok rfl
  clear hok
  go_wp2_with fail
  refine (entsBytes_any a c es w' hrow).mono ?_
  rintro e w1 ⟨⟨t, ok, rfl, hok⟩, hb1⟩
  have HB1 := hide hb1
  clear hb1
  cases ok
  · clear hok
    go_wp2_with fail
    go_ret
    exact ⟨rfl, HB1.out⟩
  clear hok
  go_wp2_with fail
  refine (placesOf_any a c es B w1 (hrow.out.later HB1.out) (by omega)).mono ?_
  rintro e w2 ⟨hform, hb2⟩
  have HB2 := hide hb2
  clear hb2
  rcases hform with ⟨rfl, -⟩ | ⟨r0, rfl, -, -, hnd⟩
  · go_wp2_with fail
    go_ret
    exact ⟨rfl, HB1.out.trans (HB2.out.mono HB1.out.size)⟩
  have HND := hide hnd
  clear hnd
  have HBa : Hid (Below w'.heap.size w' w2) := hide (HB1.out.trans (HB2.out.mono HB1.out.size))
  have HN1 : Hid (∀ x ∈ es, x.n ≤ 1048576) := hide (fun x hx => by have := lens_le hx; omega)
  go_wp2_with fail
  refine (cloneEnts_any a c es w2 hnil.out (hrow.out.later HBa.out) (fun x hx => (hby.out x hx).later HBa.out) (by omega) HN1.out).mono ?_
  rintro e w3 ⟨⟨a3, es3, rfl, -, hrow3, hsig, hby3⟩, hb3⟩
  have hl3 := length_of_sig hsig
  have HND3 : Hid (pkeys es3).Nodup := hide (by rw [pkeys_of_sig hsig]; exact HND.out)
  have HN3 : Hid (∀ x ∈ es3, x.n ≤ 1048576) := hide (fun x hx => by
    have h1 := lens_le hx
    rw [lens_of_sig hsig] at h1
    omega)
  have HR3 := hide hrow3
  have HBY3 := hide hby3
  have HB3 : Hid (Below w'.heap.size w' w3) := hide (HBa.out.trans (hb3.mono HBa.out.size))
  rw [← hl3] at hle ⊢
  have hn3 : es3.length ≤ 1048576 := by omega
  clear hrow3 hsig hby3 hb3 hl3 HND HN1 hle HB1 HB2 HBa
  go_wp2_with fail
  refine (presentOfEnts_any a3 es3.length es3 w3 HR3 hn3).mono ?_
  rintro e w4 ⟨⟨gp, cp, rfl, hpre⟩, hb4⟩
  have HP := hide hpre
  have HB4 := hide hb4
  clear hpre hb4
  go_wp2_with fail
  refine (newQueue_any a3 es3.length es3 batch B sz by_ w4 (HR3.out.later HB4.out) hn3 HND3).mono ?_
  rintro e w5 ⟨⟨q, g, r, rfl, hq, hg, hr, hqg, hqr, hgr, hQ, hRow, hM⟩, hb5⟩
  have HB5 := hide hb5
  have HQ := hide hQ
  have HRow := hide hRow
  have HM := hide hM
  have HX := hide (And.intro hq (And.intro hg hr))
  clear hQ hRow hM hb5 hq hg hr
  go_wp2_with fail
  refine (zzPackCall q g r batch B sz by_ es3 _ w5 hn3 hqg hqr hgr hB.out HQ.out HRow.out HM.out (placesFrom_length _ _ _) HND3.out (fun i x hx hl => by rw [placesFrom_get HND3.out hx hl, Nat.zero_add])).mono ?_
  rintro e w6 ⟨rfl, ⟨off, hQ6, hE6⟩, ⟨M, hM6, hl6, hp6⟩, hk6⟩
  have hb6 : Below w4.heap.size w4 w6 := by
    obtain ⟨h1, h2, h3⟩ := HX.out
    exact HB5.out.trans (hk6.below HB5.out.size (fun k hk => by omega))
  have HB6 := hide hb6
  -- the packed queue under one name
  have hpl2 := packed_length_le (packEnd batch es3) es3
  have hemp := packed_empties batch es3
  have hfil := packed_filter (packEnd batch es3) es3
  have hliv := packed_liveN (packEnd batch es3) es3
  have hfr : 1 ≤ batch → ∀ j : Nat, (j : Int) < batch → j < liveN es3 → ∃ x, (packed (packEnd batch es3) es3)[j]? = some x ∧ x.live = true := fun hb1 j h1 h2 => packed_front (by
    rcases front_count batch es3 hb1 with h | h <;> omega)
  have hpm : ∀ x ∈ packed (packEnd batch es3) es3, x ∈ es3 := fun x hx => packed_mem hx
  have hp7 : ∀ t x, (packed (packEnd batch es3) es3)[t]? = some x → x.live = true → getM x.key M = some (placeVal (IntKind.u64.wrap (B + ((packEnd batch es3 - liveN (es3.take (packEnd batch es3)) : Nat) : Int))) t) := fun t x hx hl => by
    rw [placeVal_add]; exact hp6 t x hx hl
  clear hp6
  generalize IntKind.u64.wrap (B + ((packEnd batch es3 - liveN (es3.take (packEnd batch es3)) : Nat) : Int)) = B6 at hQ6 hp7
  generalize packed (packEnd batch es3) es3 = p at hQ6 hE6 hp7 hpl2 hemp hfil hliv hfr hpm
  have hnp : p.length ≤ 1048576 := by omega
  have H1 := hide hQ6
  have H2 := hide hE6
  have H3 := hide hM6
  have H4 := hide hl6
  have H5 := hide hp7
  have HF := hide hfil
  have HLv := hide hliv
  have HFr := hide hfr
  have HNp : Hid (∀ x ∈ p, x.n ≤ 1048576) := hide (fun x hx => HN3.out x (hpm x hx))
  have hll3 := liveN_le es3
  clear hQ6 hE6 hM6 hl6 hk6 hb6 hfil hliv hfr hp7 hqg hqr hgr hpm HB5 HQ HRow HM HX
  go_wp2_with fail
  refine (state_any q g off _ r batch B6 sz by_ p w6 hnp H1.out H2.out).mono ?_
  rintro e w7 ⟨⟨gk, gt, rfl, hkeys, htxs⟩, hb7⟩
  have HK := hide hkeys
  have HT := hide htxs
  have HB7 := hide hb7
  clear hkeys htxs hb7
  go_wp2_with fail
  refine (presentOf_any gk gt _ _ p w7 HK HT hnp).mono ?_
  rintro e w8 ⟨⟨ga, ca, rfl, haft⟩, hb8⟩
  rw [HF.out] at haft ⊢
  have HA := hide haft
  have HB8 := hide hb8
  clear haft hb8
  have HBp : Hid (Below w4.heap.size w4 w8) := hide ((HB6.out.trans (HB7.out.mono HB6.out.size)).trans (HB8.out.mono (Nat.le_trans HB6.out.size HB7.out.size)))
  have HBy8 : Hid (∀ x ∈ es3, BytesAt w8 x.a x.n) := hide (fun x hx => ((HBY3.out x hx).later HB4.out).later HBp.out)
  have hfl : (es3.filter Ent.live).length = liveN es3 := rfl
  go_wp2_with fail
  refine (sameEnts_any gp ga cp ca (es3.filter Ent.live) w8 (by omega) (fun x hx => HN3.out x (List.mem_filter.1 hx).1) (HP.out.later HBp.out) HA (fun x hx => HBy8.out x (List.mem_filter.1 hx).1)).mono ?_
  rintro e w9 ⟨rfl, m9, hw9⟩
  have HB9 : Hid (Below w8.heap.size w8 w9) := hide (by rw [hw9]; exact below_drewN (Below.refl _ _) _)
  clear hw9
  clear hfl
  have HB69 : Hid (Below w6.heap.size w6 w9) := hide ((HB7.out.trans (HB8.out.mono HB7.out.size)).trans (HB9.out.mono (Nat.le_trans HB7.out.size HB8.out.size)))
  have HB79 : Hid (Below w7.heap.size w7 w9) := hide (HB8.out.trans (HB9.out.mono HB8.out.size))
  have HBw9 : Hid (Below w'.heap.size w' w9) := hide (((HB3.out.trans (HB4.out.mono HB3.out.size)).trans (HBp.out.mono (Nat.le_trans HB3.out.size HB4.out.size))).trans (HB9.out.mono (Nat.le_trans HB3.out.size (Nat.le_trans HB4.out.size HBp.out.size))))
  have HT9 := hide (HT.out.later HB79.out)
  have HK9 := hide (HK.out.later HB79.out)
  clear HA HP HBp HBy8 HBY3 HN3 HR3 HND3 HB3 HB4 HB6 HB7 HB8 HB9 HK HT hrow hby hnil
  go_upto_if 87 with fail
  go_cut [] (fun wc => Below w9.heap.size w9 wc)
  case first =>
    by_cases hb : 1 ≤ batch
    · rw [show decide ((1 : Int) ≤ batch) = true from decide_eq_true hb]
      by_cases hmn : batch < (liveN es3 : Int)
      · go_wp2
        go_loop [25] (fun i => ∃ j : Nat, (j : Int) ≤ batch ∧ i = .int .i64 j) (fun i => (batch - intOf i).toNat)
        case atStart => exact ⟨0, by omega, rfl⟩
        case round =>
          obtain ⟨j, hj, rfl⟩ := hrel
          by_cases hlt : (j : Int) < batch
          · obtain ⟨x, hx, hl⟩ := HFr.out hb j hlt (by omega)
            have hjp : j < p.length := (List.getElem?_eq_some_iff.1 hx).1
            have hc := HT9.out j x hx
            have hn0 := isNone_of_live hl
            clear hx hl
            go_wp2
            go_round
            case rel => exact ⟨j + 1, by omega, by go_num⟩
            case measure => simp [intOf]; omega
          · go_wp2
            go_meet
            case rel => exact Below.refl _ _
      · go_wp2
        go_loop [25] (fun i => ∃ j : Nat, j ≤ liveN es3 ∧ i = .int .i64 j) (fun i => liveN es3 - (intOf i).toNat)
        case atStart => exact ⟨0, by omega, rfl⟩
        case round =>
          obtain ⟨j, hj, rfl⟩ := hrel
          by_cases hlt : j < liveN es3
          · obtain ⟨x, hx, hl⟩ := HFr.out hb j (by omega) hlt
            have hjp : j < p.length := (List.getElem?_eq_some_iff.1 hx).1
            have hc := HT9.out j x hx
            have hn0 := isNone_of_live hl
            clear hx hl
            go_wp2
            go_round
            case rel => exact ⟨j + 1, by omega, by go_num⟩
            case measure => simp [intOf]; omega
          · go_wp2
            go_meet
            case rel => exact Below.refl _ _
    · rw [show decide ((1 : Int) ≤ batch) = false from decide_eq_false hb]
      go_wp2
      go_meet
      case rel => exact Below.refl _ _
  case rest =>
    have HBc := hide hcut
    have HT9c := hide (HT9.out.later hcut)
    have HK9c := hide (HK9.out.later hcut)
    have HBwc : Hid (Below w'.heap.size w' wc) := hide (HBw9.out.trans (hcut.mono HBw9.out.size))
    have HB6c : Hid (Below w6.heap.size w6 wc) := hide (HB69.out.trans (hcut.mono HB69.out.size))
    clear hcut HT9 HK9 HBw9 HB69 HB79
    go_wp2
    go_loopw [105] (fun i wr => ∃ k : Nat, k ≤ p.length ∧ i = .int .i64 k ∧ Below wc.heap.size wc wr) (fun i _ => p.length - (intOf i).toNat)
    case atStart => exact ⟨0, Nat.zero_le _, rfl, Below.refl _ _⟩
    case round =>
      obtain ⟨k, hk, rfl, hbel⟩ := hrel
      have HBr : Hid (Below w6.heap.size w6 wr) := hide (HB6c.out.trans (hbel.mono HB6c.out.size))
      by_cases hlt : k < p.length
      · obtain ⟨x, hx⟩ : ∃ x, p[k]? = some x := ⟨_, List.getElem?_eq_getElem hlt⟩
        have hc0 := HT9c.out k x hx
        have hc := (hbel.cell (block_lt_of_cell hc0)).trans hc0
        have hld := run_ld50 x.len (rangeAt_later hbel (HK9c.out k x hx))
        have HE := hide hx
        have HB := hide hbel
        clear hc0 hx hbel
        by_cases hl : x.a.isNone = true
        · go_wp2_with fail
          go_roundw
          case rel => exact ⟨k + 1, by omega, by go_num, HB.out⟩
          case measure => simp [intOf]; omega
        · have hl2 : x.a.isNone = false := Bool.not_eq_true _ ▸ hl
          clear hl
          go_wp2_with fail
          refine (place_any q g off _ r _ batch B6 sz by_ M x.key x.len _ (H1.out.later HBr.out) (H3.out.later HBr.out)).mono ?_
          rintro e3 w10 ⟨rfl, hb10⟩
          rw [H5.out k x HE.out (live_of_some hl2)]
          have HB10 := hide hb10
          clear hb10
          have hpv : (Option.some (placeVal B6 k)).getD (.int .u64 0) = .int .u64 (IntKind.u64.wrap (B6 + (k : Int))) := rfl
          rw [hpv]
          have hcmp : (IntKind.u64.wrap (B6 + (k : Int)) != IntKind.u64.wrap (B6 + (k : Int))) = false := by simp
          go_wp2_with fail
          go_roundw
          case rel => exact ⟨k + 1, by omega, by go_num, HB.out.trans (HB10.out.mono HB.out.size)⟩
          case measure => simp [intOf]; omega
      · have HB := hide hbel
        clear hbel
        go_wp2_with fail
        refine (places_any q g off _ r _ batch B6 sz by_ M _ (H1.out.later HBr.out) (H3.out.later HBr.out)).mono ?_
        rintro e3 w10 ⟨rfl, rfl⟩
        rw [H4.out]
        go_wp2_with fail
        go_ret
        exact ⟨ret_true (by simp), HBwc.out.trans (HB.out.mono HBwc.out.size)⟩

end Go.Proofs.Qxb6601980aMods
