import Derived.Test.Qxb6601980aModsE8
namespace Go.Proofs.Qxb6601980aMods
open Go.RowKit
attribute [local go_sem] Trym.eqNil47 Trym.neNil47
attribute [local go_sem ↓] ld53_eq st53_eq bd53_eq ld68_eq st68_eq bd68_eq bs28_eq

/-- What packModel leaves: the packed queue and its base. -/
structure ModelPost (w : World) (batch B : Int) (es : List Ent) (e : Ending) (w' : World) : Prop where
  form : ∃ g cap, e = .returned (.tuple #[.slice (some ⟨g, 0, none⟩) (packed (packEnd batch es) es).length cap, placeVal B (packEnd batch es - liveN (es.take (packEnd batch es)))]) ∧
    EntsAt w' (some ⟨g, 0, none⟩) (packed (packEnd batch es) es)
  below : Below w.heap.size w w'

theorem make_ents0 (n : Nat) (hn : n ≤ 1048576) (w : World) :
    (Instr.makeSlice 28 (.int .i64 0) (.int .i64 n)).run Trym.prog w = .ok (.slice (some ⟨w.heap.size, 0, none⟩) 0 n) (w.alloc (.cells (flat (List.replicate n Ent.zero)).toArray 53)) := by
  obtain ⟨i, hi, hz, hs, hby⟩ := info_parts Trym.info53
  have h2 : (i.bytes : Int) * (n : Int) ≤ 281474976710656 := by rw [hby]; omega
  have hr := run_make (P := Trym.prog) w 28 53 i _ Trym.underlying28 hi hz .i64 .i64 0 n (by omega) (by omega) h2 (by omega)
  simpa only [Int.toNat_natCast, Int.toNat_zero, hs, Value.cells, madeCells_flat] using hr

theorem owned_ents {w : World} {base g n cap : Nat} {l : List Ent} (h : w.ownsRow base 53 33 (.slice (some ⟨g, 0, none⟩) n cap) n (flat l)) (hn : l.length = n) : EntsAt w (some ⟨g, 0, none⟩) l := by
  intro i e he
  refine ⟨g, 0, rfl, ?_⟩
  intro j v hv
  have hj : j < 33 := by have := (List.getElem?_eq_some_iff.1 hv).1; rwa [entCells_length] at this
  have hi : i < l.length := (List.getElem?_eq_some_iff.1 he).1
  rw [Nat.zero_add, h.cellAt (i * 33 + j) (by omega), flat_get he hj]
  exact hv

theorem news_ent (w : World) (e : Ent) : ∀ j u, (entCells e)[j]? = some u → (w.alloc (.cells (entCells e).toArray 53)).cell? ((⟨w.heap.size, 0, none⟩ : Addr).add j) = some u := by
  intro j u hu
  rw [Addr.add_lit, Nat.zero_add, World.cell?_alloc_at _ _ _ _ rfl]
  simpa using hu

theorem packed_len (k : Nat) (es : List Ent) : (packed k es).length = liveN (es.take k) + (es.length - k) := by simp [packed, liveN]

/-- packModel's test. -/
def condB (batch : Int) (es : List Ent) : Bool := decide (((es.length : Int) - liveN es ≤ liveN es ∧ 1 ≤ batch) ∧ batch ≤ liveN es)
theorem condB_end_true {batch : Int} {es : List Ent} (h : condB batch es = true) : packEnd batch es = winEnd batch es := by
  have := of_decide_eq_true h
  have hl := liveN_le es
  unfold packEnd
  rw [if_pos (by omega)]
theorem condB_end_false {batch : Int} {es : List Ent} (h : condB batch es = false) : packEnd batch es = es.length := by
  have := of_decide_eq_false h
  have hl := liveN_le es
  unfold packEnd
  split
  · exact winEnd_all (by omega)
  · rfl

set_option maxRecDepth 100000 in
set_option maxHeartbeats 3200000 in
theorem packModel_any (a : Option Addr) (c : Nat) (es : List Ent) (batch B : Int) (w : World) (hrow : Hid (EntsAt w a es)) (hn : es.length ≤ 1048576) :
    Calls Trym.prog 17 #[.int .i64 batch, .slice a es.length c, .int .u64 B] w (ModelPost w batch B es) := by
  go_enter Trym.func17, Trym.ntmps17
  go_wp2
  go_loopw [8, 18] (fun s i wr => ∃ k : Nat, k ≤ es.length ∧ i = .int .i64 k ∧ s = .int .i64 (liveN (es.take k)) ∧ Below w.heap.size w wr) (fun _ i _ => es.length - (intOf i).toNat)
  case atStart => exact ⟨0, Nat.zero_le _, rfl, rfl, Below.refl _ _⟩
  case round =>
    obtain ⟨k, hk, rfl, rfl, hbel⟩ := hrel
    by_cases hlt : k < es.length
    · obtain ⟨e, b, off, he, rfl, hr⟩ := hrow.out.at hlt
      have HR := hide (rangeAt_later hbel hr)
      have HB := hide hbel
      have HE := hide he
      have htx := cell_ent_tx wr e 53
      have hln := liveN_take_le es k
      clear hr he hbel hrow
      by_cases hl : e.a.isNone = true
      · go_wp2_with (first | (refine wpList_load_mid rfl 53 _ rfl _ _ rfl (entCells e) _ HR.out Trym.underlying53 rfl (by rw [Trym.size53, entCells_length]) ?_) | (refine wpList_alloc_row rfl 53 rfl _ _ _ Trym.info53 ?_) | (refine wpList_store_new rfl 53 _ _ rfl rfl (entCells e) rfl rfl (by simp [entCells_length]) (by rw [Trym.size53, entCells_length]) (entCells_one e) ?_))
        go_roundw
        case rel => exact ⟨k + 1, by omega, by go_num, by rw [liveN_take_succ HE.out, live_of_isNone hl]; simp, HB.out.alloc HB.out.size _⟩
        case measure => simp [intOf]; omega
      · have hl2 : e.a.isNone = false := Bool.not_eq_true _ ▸ hl
        clear hl
        go_wp2_with (first | (refine wpList_load_mid rfl 53 _ rfl _ _ rfl (entCells e) _ HR.out Trym.underlying53 rfl (by rw [Trym.size53, entCells_length]) ?_) | (refine wpList_alloc_row rfl 53 rfl _ _ _ Trym.info53 ?_) | (refine wpList_store_new rfl 53 _ _ rfl rfl (entCells e) rfl rfl (by simp [entCells_length]) (by rw [Trym.size53, entCells_length]) (entCells_one e) ?_))
        go_roundw
        case rel => exact ⟨k + 1, by omega, by go_num, by rw [liveN_take_succ HE.out, live_of_some hl2]; go_num, HB.out.alloc HB.out.size _⟩
        case measure => simp [intOf]; omega
    obtain rfl : k = es.length := by omega
    clear hlt hk
    have hfull : es.take es.length = es := List.take_length
    rw [hfull]
    have hln := liveN_le es
    have HB := hide hbel
    clear hbel hfull
    go_upto_region 9 with fail
    go_cut [44] (fun s wc => s = .bool (condB batch es) ∧ wc = wr)
    case first =>
      by_cases h1 : (es.length : Int) - liveN es ≤ liveN es
      · by_cases h2 : 1 ≤ batch
        · go_wp2_with fail
          go_meet
          case rel => exact ⟨by simp [condB, h1, h2], rfl⟩
        · go_wp2_with fail
          go_meet
          case rel => exact ⟨by simp [condB]; omega, rfl⟩
      · go_wp2_with fail
        go_meet
        case rel => exact ⟨by simp [condB]; omega, rfl⟩
    case rest =>
      obtain ⟨rfl, rfl⟩ := hcut
      go_upto_if 44 with fail
      go_cut [11] (fun s wc => s = .int .i64 (packEnd batch es) ∧ Below w.heap.size w wc)
      case first =>
        cases hc : condB batch es
        · go_wp2_with fail
          go_meet
          case rel => exact ⟨by rw [condB_end_false hc], HB.out⟩
        · go_wp2_with fail
          refine (windowEnd_any a c es batch _ (hrow.out.later HB.out) hn).mono ?_
          rintro e w1 ⟨rfl, hb1⟩
          have HB1 := hide hb1
          clear hb1
          go_wp2_with fail
          go_meet
          case rel => exact ⟨by rw [condB_end_true hc], HB.out.trans (HB1.out.mono HB.out.size)⟩
      case rest =>
        obtain ⟨rfl, hbel2⟩ := hcut
        have HB2 := hide hbel2
        clear hbel2 HB
        have hmk := make_ents0 es.length hn
        have hle := packEnd_le batch es
        have hown0 := World.ownsRow_made (base := wc.heap.size) (e := 53) (size := 33) wc (flat (List.replicate es.length Ent.zero)).toArray es.length (Nat.le_refl _) (by unfold maxLen; omega) (by simp [flat_length])
        have HO0 := hide hown0
        clear hown0
        obtain ⟨E, HEq⟩ : ∃ E, Hid (E = packEnd batch es) := ⟨_, rfl⟩
        rw [← HEq.out] at hle ⊢
        obtain ⟨i53, hi53, -, hs53, -⟩ := info_parts Trym.info53
        have HI := hide hi53
        have HSz := hide hs53
        clear hi53 hs53
        go_wp2
        go_loopw [12, 13] (fun o i wr => ∃ k : Nat, k ≤ E ∧ i = .int .i64 k ∧ o = .slice (some ⟨wc.heap.size, 0, none⟩) (liveN (es.take k)) es.length ∧ Below w.heap.size w wr ∧ Hid (wr.ownsRow wc.heap.size 53 33 (.slice (some ⟨wc.heap.size, 0, none⟩) (liveN (es.take k)) es.length) (liveN (es.take k)) (flat ((es.take k).filter Ent.live)))) (fun _ i _ => E - (intOf i).toNat)
        case atStart => exact ⟨0, Nat.zero_le _, rfl, rfl, HB2.out.alloc HB2.out.size _, HO0.out⟩
        case round =>
          obtain ⟨k, hk, rfl, rfl, hbel, HO⟩ := hrel
          have hln2 := liveN_take_le es k
          by_cases hlt : k < E
          · obtain ⟨e, b, off, he, rfl, hr⟩ := hrow.out.at (k := k) (by omega)
            have hr1 := rangeAt_later hbel hr
            have HR := hide hr1
            have hcell := rangeAt_tx hr1
            have HB := hide hbel
            have HE := hide he
            have hbs := run_bs28 e
            clear hr he hbel hrow hmk hr1
            by_cases hl : e.a.isNone = true
            · go_wp2
              go_roundw
              case rel =>
                have e1 := liveN_take_succ HE.out
                rw [live_of_isNone hl] at e1
                simp only [Bool.false_eq_true, if_false, Nat.add_zero] at e1
                refine ⟨k + 1, by omega, by go_num, by rw [e1], HB.out, ?_⟩
                rw [e1, take_snoc_ent HE.out, List.filter_append]
                simpa [live_of_isNone hl] using HO
              case measure => simp [intOf]; omega
            · have hl2 : e.a.isNone = false := Bool.not_eq_true _ ▸ hl
              clear hl
              go_wp2_with (first | (refine wpList_load_mid rfl 53 _ rfl _ _ rfl (entCells e) _ HR.out Trym.underlying53 rfl (by rw [Trym.size53, entCells_length]) ?_) | (at_builtin; refine wpList_append_fits _ rfl _ _ 28 rfl wc.heap.size 53 i53 33 Trym.underlying28 HI.out HSz.out wc.heap.size (liveN (es.take k)) es.length (flat ((es.take k).filter Ent.live)) rfl (HO.out.alloc _) ⟨wr.heap.size, 0, none⟩ 1 1 (entCells e) rfl (by rw [entCells_length]) (news_ent wr e) (entCells_one e) (by omega) ?_))
              intro w1 hown1 hg1
              have HO1 := hide hown1
              have HB1 : Hid (Below w.heap.size w w1) := hide ((HB.out.alloc HB.out.size _).grown hg1 (by have := HB.out.size; simp; omega) (fun j hj => by cases hj; exact HB2.out.size))
              clear hown1 hg1
              go_wp2
              go_roundw
              case rel =>
                have e1 := liveN_take_succ HE.out
                rw [live_of_some hl2] at e1
                simp only [if_true] at e1
                refine ⟨k + 1, by omega, by go_num, by rw [e1], HB1.out, ?_⟩
                rw [e1, take_snoc_ent HE.out, List.filter_append, flat_append]
                have e2 : flat (List.filter Ent.live [e]) = entCells e := by simp [live_of_some hl2, flat]
                rw [e2]
                exact HO1.out
              case measure => simp [intOf]; omega
          · obtain rfl : k = E := by omega
            have HB := hide hbel
            have HWC := hide HB2.out.size
            clear hbel hlt hk HO0 hmk HB2
            go_wp2
            go_loopw [12, 15] (fun o i wr2 => ∃ j : Nat, k ≤ j ∧ j ≤ es.length ∧ i = .int .i64 j ∧ o = .slice (some ⟨wc.heap.size, 0, none⟩) (liveN (es.take k) + (j - k)) es.length ∧ Below w.heap.size w wr2 ∧ Hid (wr2.ownsRow wc.heap.size 53 33 (.slice (some ⟨wc.heap.size, 0, none⟩) (liveN (es.take k) + (j - k)) es.length) (liveN (es.take k) + (j - k)) (flat ((es.take k).filter Ent.live ++ (es.drop k).take (j - k))))) (fun _ i _ => es.length - (intOf i).toNat)
            case atStart => exact ⟨k, Nat.le_refl _, hle, rfl, by simp, HB.out, hide (by simpa using HO.out)⟩
            case round =>
              obtain ⟨j, hkj, hj, rfl, rfl, hbel, HO2⟩ := hrel
              by_cases hlt : j < es.length
              · obtain ⟨e, b, off, he, rfl, hr⟩ := hrow.out.at (k := j) (by omega)
                have HR := hide (rangeAt_later hbel hr)
                have HB3 := hide hbel
                have HE := hide he
                have hbs := run_bs28 e
                clear hr he hbel hrow
                go_wp2_with (first | (refine wpList_load_mid rfl 53 _ rfl _ _ rfl (entCells e) _ HR.out Trym.underlying53 rfl (by rw [Trym.size53, entCells_length]) ?_) | (at_builtin; refine wpList_append_fits _ rfl _ _ 28 rfl wc.heap.size 53 i53 33 Trym.underlying28 HI.out HSz.out wc.heap.size (liveN (es.take k) + (j - k)) es.length _ rfl (HO2.out.alloc _) ⟨wr.heap.size, 0, none⟩ 1 1 (entCells e) rfl (by rw [entCells_length]) (news_ent wr e) (entCells_one e) (by omega) ?_))
                intro w1 hown1 hg1
                have HO3 := hide hown1
                have HB4 : Hid (Below w.heap.size w w1) := hide ((HB3.out.alloc HB3.out.size _).grown hg1 (by have := HB3.out.size; simp; omega) (fun j hj => by cases hj; exact HWC.out))
                clear hown1 hg1
                go_wp2
                go_roundw
                case rel =>
                  have e1 : liveN (es.take k) + (j + 1 - k) = liveN (es.take k) + (j - k) + 1 := by omega
                  have e2 : (es.drop k).take (j + 1 - k) = (es.drop k).take (j - k) ++ [e] := by
                    rw [show j + 1 - k = (j - k) + 1 by omega, List.take_add_one, List.getElem?_drop, show k + (j - k) = j by omega, HE.out]
                    rfl
                  refine ⟨j + 1, by omega, by omega, by go_num, by rw [e1], HB4.out, ?_⟩
                  rw [e1, e2, ← List.append_assoc, flat_append]
                  have e3 : flat [e] = entCells e := by simp [flat]
                  rw [e3]
                  exact HO3.out
                case measure => simp [intOf]; omega
              · obtain rfl : j = es.length := by omega
                go_wp2
                go_ret2
                have e1 : (es.drop k).take (es.length - k) = es.drop k := List.take_of_length_le (by simp)
                have e2 : liveN (es.take k) + (es.length - k) = (packed k es).length := (packed_len k es).symm
                have ho := HO2.out
                rw [e1, e2] at ho
                have hEq := HEq.out
                refine ⟨⟨wc.heap.size, es.length, ?_, ?_⟩, hbel⟩
                · have ev : placeVal B (k - liveN (es.take k)) = .int .u64 (IntKind.u64.wrap (B + ((k : Int) - (liveN (es.take k) : Int)))) := by
                    unfold placeVal
                    rw [Int.natCast_sub (liveN_take_le es k)]
                  rw [← hEq, ← e2, ev]
                  rfl
                · rw [← hEq]
                  exact owned_ents ho rfl

end Go.Proofs.Qxb6601980aMods
