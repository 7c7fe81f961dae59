import Derived.Test.Qxb6600877aModsP2
namespace Go.Proofs.Qxb6600877aMods
open Go.RowKit

theorem firsts_len {α : Type} [DecidableEq α] (g : Nat → Option α) (n : Nat) : (firsts g n).length ≤ n := by
  induction n with
  | zero => simp [firsts]
  | succ n ih =>
    cases h : g n with
    | none => rw [firsts_none h]; omega
    | some z =>
      by_cases hz : z ∈ firsts g n
      · rw [firsts_old h hz]; omega
      · rw [firsts_new h hz, List.length_append]; simp; omega

set_option maxRecDepth 100000 in
set_option maxHeartbeats 6400000 in
theorem exact_walk (a : Option Addr) (c : Nat) (ns : List ByteArray) (a1 : Option Addr) (c1 : Nat) (fs : List ByteArray) (a2 : Option Addr) (c2 : Nat) (ts : List ByteArray) (a3 : Option Addr) (c3 : Nat) (os : List Int) (w : World)
    (hr0 : Hid (StrsAt w a ns)) (hr1 : Hid (StrsAt w a1 fs)) (hr2 : Hid (StrsAt w a2 ts)) (hr3 : Hid (IntsAt w a3 os)) :
    Calls Trym.prog 5 #[.slice a ns.length c, .slice a1 fs.length c1, .slice a2 ts.length c2, .slice a3 os.length c3] w fun e w' => e = .returned (.bool true) ∧ Below w.heap.size w w' := by
  go_enter Trym.func5, Trym.ntmps5
  go_wp2_with fail
  refine (zzExact_any a c ns a1 c1 fs a2 c2 ts a3 os.length c3 w hr0 hr1 hr2).mono ?_
  rintro e w' ⟨⟨ok, rfl, hok⟩, rfl⟩
  cases ok
  · clear hok
    go_wp2_with fail
    go_ret
    exact ⟨rfl, Below.refl _ _⟩
  have hle := hok rfl
  have n1 : ns.length ≤ 1048576 := by omega
  have n2 : fs.length ≤ 1048576 := by omega
  have n3 : ts.length ≤ 1048576 := by omega
  have n4 : os.length ≤ 1048576 := by omega
  have H1 : Hid (∀ s ∈ ns, s.size ≤ 1048576) := hide (fun s hs => by have := sumS_mem hs; omega)
  have H2 : Hid (∀ s ∈ fs, s.size ≤ 1048576) := hide (fun s hs => by have := sumS_mem hs; omega)
  have H3 : Hid (∀ s ∈ ts, s.size ≤ 1048576) := hide (fun s hs => by have := sumS_mem hs; omega)
  clear hok hle
  go_wp2_with fail
  refine (bytesOfStrings_any 0 a c ns w' (by decide) (by decide) hr0 n1 H1).mono ?_
  rintro e w1 ⟨⟨v1, rfl, p1, q1⟩, rfl⟩
  go_wp2_with fail
  refine (bytesOfStrings_any v1 a1 c1 fs w1 p1 q1 hr1 n2 H2).mono ?_
  rintro e w2 ⟨⟨v2, rfl, p2, q2⟩, rfl⟩
  go_wp2_with fail
  refine (bytesOfStrings_any v2 a2 c2 ts w2 p2 q2 hr2 n3 H3).mono ?_
  rintro e w3 ⟨⟨v3, rfl, p3, q3⟩, rfl⟩
  go_wp2_with fail
  refine (bytesOfInts_any v3 a3 os.length c3 w3 p3 q3 n4).mono ?_
  rintro e w4 ⟨⟨v4, rfl, p4, q4⟩, rfl⟩
  clear p1 q1 p2 q2 p3 q3 p4 q4
  by_cases hv : (1048576 : Int) < v4
  · go_wp2_with fail
    go_ret
    exact ⟨rfl, Below.refl _ _⟩
  by_cases hv2 : (4096 : Int) < (fs.length : Int)
  · go_wp2_with fail
    go_ret
    exact ⟨rfl, Below.refl _ _⟩
  go_wp2_with fail
  refine (buildRecords_any a c ns a1 c1 fs a2 c2 ts a3 c3 os w4 hr1 hr2 hr3 n1 n2).mono ?_
  rintro e wB ⟨rfl, hrec, hbB⟩
  obtain ⟨G, hG⟩ : ∃ G, G = w4.heap.size := ⟨_, rfl⟩
  rw [← hG] at hrec ⊢
  obtain ⟨R, HR⟩ : ∃ R, Hid (R = recL fs ts os ns.length fs.length) := ⟨_, hide rfl⟩
  rw [← HR.out] at hrec
  have HRl : Hid (∀ k, (R k).length ≤ 1048576) := hide (fun k => by rw [HR.out]; exact Nat.le_trans (recL_length _ _ _ _ _ _) n2)
  have HREC := hide hrec
  have HBB := hide hbB
  clear hrec hbB hG hv hv2
  have hmm := @run_makeMap Trym.prog
  go_wp2
  go_loopw [11] (fun i wr => ∃ k : Nat, k ≤ ns.length ∧ i = .int .i64 k ∧ IxInv wB wB.heap.size ns R 0 k wr) (fun i _ => ns.length - (intOf i).toNat)
  case atStart => exact ⟨0, Nat.zero_le _, rfl, ⟨(Below.refl _ _).alloc (Nat.le_refl _) _, [], [], IxAt.empty _, IdxOk.nil, Trips.nil _ _ _⟩⟩
  case round =>
    obtain ⟨k, hk, rfl, ⟨hbel, S, T, hix, hok, htr⟩⟩ := hrel
    by_cases hlt : k < ns.length
    · obtain ⟨s, hs⟩ : ∃ s, ns[k]? = some s := ⟨_, List.getElem?_eq_getElem hlt⟩
      obtain ⟨b, off, hab, hc⟩ := (hr0.out.later HBB.out) k s hs
      subst hab
      obtain ⟨ra, rc, hcr, hrefs, -⟩ := HREC.out.at hlt
      have d1 := (hbel.cell (block_lt_of_cell hc)).trans hc
      have d2 := (hbel.cell (block_lt_of_cell hcr)).trans hcr
      have HC1 := hide hc
      have HC2 := hide hcr
      have hi0 : (0 : Int) ≤ (k : Int) := Int.natCast_nonneg _
      have hi1 : (k : Int) < (ns.length : Int) := by omega
      have HREF := hide hrefs
      have HB := hide hbel
      have HIX := hide hix
      have HOK := hide hok
      have HTR := hide htr
      have HS := hide hs
      have HL := HRl.out k
      clear hc hcr hrefs hbel hix hok htr hs hmm
      go_wp2_with fail
      go_region_held3 (fun y => y.cell? ⟨b, off + k, none⟩ = some (.string s) ∧ y.cell? ⟨G, k, none⟩ = some (.slice ra (R k).length rc))
        (first | exact ⟨by simpa using d1, by simpa using d2⟩ | exact ⟨(hb2.cell (block_lt_of_cell HC1.out)).trans HC1.out, (hb2.cell (block_lt_of_cell HC2.out)).trans HC2.out⟩)
        (first | (go_at_call 17; refine (zzLink_any wB wB.heap.size T s ra _ rc (R k) S _ HREF.out rfl HL HB.out.drew (HIX.out.later (Below.refl _ _).drew) HOK.out).mono ?_; rintro e w2 ⟨rfl, hb2, hix2⟩))
      have HB2 := hide hb2
      have HI2 := hide hix2
      clear hb2 hix2
      go_wp2_with fail
      go_roundw
      case rel =>
        obtain ⟨S2, h1, h2⟩ := HI2.out
        exact ⟨k + 1, by omega, by go_num, ⟨HB2.out, S2, _, h1, h2, HTR.out.up (Nat.zero_le _) HS.out⟩⟩
      case measure => simp [intOf]; omega
    · obtain rfl : k = ns.length := by omega
      obtain ⟨w5, rfl⟩ : ∃ w5, w5 = wr := ⟨_, rfl⟩
      have HI5 : Hid (IxInv wB wB.heap.size ns R 0 ns.length w5) := hide ⟨hbel, S, T, hix, hok, htr⟩
      have HB5 : Hid (Below w4.heap.size w4 w5) := hide (HBB.out.trans (hbel.mono HBB.out.size))
      have HIX1 := hide hix
      have HOK1 := hide hok
      have HTR1 := hide htr
      clear hbel hix hok htr hmm
      have hmk := make_bools fs.length n2
      obtain ⟨FT, HFT⟩ : ∃ F, Hid (F = ftB ns fs ts os) := ⟨_, hide rfl⟩
      obtain ⟨FX, HFX⟩ : ∃ F, Hid (F = fxB ns fs ts os) := ⟨_, hide rfl⟩
      have h00 : ∀ f, ((upto f fs.length 0).map Value.bool).toArray = Array.replicate fs.length (Value.bool false) := fun f => by simp [upto]
      have H00 := hide h00
      clear h00
      go_wp2
      clear hmk
      go_loopw [15] (fun i wr => ∃ k : Nat, k ≤ fs.length ∧ i = .int .i64 k ∧ Below w5.heap.size w5 wr ∧ BRow wr w5.heap.size (upto FT fs.length k) ∧ BRow wr (w5.heap.size + 1) (upto FX fs.length k)) (fun i _ => fs.length - (intOf i).toNat)
      case atStart =>
        refine ⟨0, Nat.zero_le _, rfl, ((Below.refl _ _).alloc (Nat.le_refl _) _).alloc (by simp) _, ?_, ?_⟩
        · unfold BRow; rw [H00.out]; exact heap_alloc2_old _ _ _
        · unfold BRow; rw [H00.out]; exact heap_alloc2_new _ _ _
      case round =>
        obtain ⟨k, hk, rfl, hbel, hA, hB⟩ := hrel
        by_cases hlt : k < fs.length
        · obtain ⟨f, hf⟩ : ∃ f, fs[k]? = some f := ⟨_, List.getElem?_eq_getElem hlt⟩
          have HB := hide hbel
          have HA := hide hA
          have HBr := hide hB
          have HF := hide hf
          have HBW : Hid (Below w4.heap.size w4 wr) := hide (HB5.out.trans (hbel.mono HB5.out.size))
          have fA : wr.frozen? ⟨w5.heap.size, k, none⟩ = false := frozen_of_row _ _ _ _ _ hA
          have fB : wr.frozen? ⟨w5.heap.size + 1, k, none⟩ = false := frozen_of_row _ _ _ _ _ hB
          obtain ⟨oA, cA⟩ : ∃ o, (upto FT fs.length k)[k]? = some o := ⟨_, List.getElem?_eq_getElem (by rw [upto_length hk]; exact hlt)⟩
          obtain ⟨oB, cB⟩ : ∃ o, (upto FX fs.length k)[k]? = some o := ⟨_, List.getElem?_eq_getElem (by rw [upto_length hk]; exact hlt)⟩
          have gA := hA.get cA
          have gB := hB.get cB
          clear hbel hA hB hf cA cB
          go_wp2_with fail
          refine (ownerAt_any a3 c3 os ns.length k wr (hr3.out.later HBW.out)).mono ?_
          rintro e w6 ⟨rfl, rfl⟩
          cases hown : ownO os ns.length k with
          | none =>
            have HV := hide (vt_none (fs := fs) (ts := ts) hown)
            clear hown
            simp only [ownI]
            go_wp2_with fail
            go_roundw
            case rel =>
              refine ⟨k + 1, by omega, by go_num, HB.out, ?_, ?_⟩
              · rw [← upto_skip hlt (by rw [HFT.out]; unfold ftB; rw [gT_none HV.out])]; exact HA.out
              · rw [← upto_skip hlt (by rw [HFX.out]; unfold fxB; rw [HV.out])]; exact HBr.out
            case measure => simp [intOf]; omega
          | some oi =>
            have hoN : oi < ns.length := ownO_lt hown
            obtain ⟨nm, hnm⟩ : ∃ nm, ns[oi]? = some nm := ⟨_, List.getElem?_eq_getElem hoN⟩
            have HV := hide (vt_some (ts := ts) hown hnm HF.out)
            have HNM := hide hnm
            have HOI := hide hown
            obtain ⟨t, HT⟩ : ∃ t, Hid (t = tgt ts k) := ⟨_, hide rfl⟩
            rw [← HT.out] at HV
            have hgne : w5.heap.size ≠ w5.heap.size + 1 := by omega
            have hgne2 : w5.heap.size + 1 ≠ w5.heap.size := by omega
            have hjn : ¬ (oi : Int) < 0 := by omega
            clear hown hnm
            simp only [ownI]
            have hi0 : (0 : Int) ≤ (k : Int) := Int.natCast_nonneg _
            have hi1 : (k : Int) < (fs.length : Int) := by omega
            go_wp2
            go_loopw [17] (fun i wr => ∃ j : Nat, j ≤ k ∧ i = .int .i64 j ∧ Below w5.heap.size w5 wr ∧ BRow wr w5.heap.size ((upto FT fs.length k).set k (!hasB t (firsts (gT ns fs ts os) j))) ∧ BRow wr (w5.heap.size + 1) ((upto FX fs.length k).set k (!hasB (t, (nm, f)) (firsts (vt ns fs ts os) j)))) (fun i _ => k - (intOf i).toNat)
            case atStart =>
              refine ⟨0, Nat.zero_le _, rfl, (HB.out.setCell (Nat.le_refl _) _).setCell (Nat.le_succ _) _, ?_, ?_⟩
              · exact (HA.out.set k true).other hgne _ _
              · exact (HBr.out.other hgne2 _ _).set k true
            case round =>
              obtain ⟨j, hj, rfl, hbel, hA, hB⟩ := hrel
              have HB2 := hide hbel
              have HA2 := hide hA
              have HBr2 := hide hB
              have HBW2 : Hid (Below w4.heap.size w4 wr) := hide (HB5.out.trans (hbel.mono HB5.out.size))
              clear fA fB gA gB
              by_cases hjk : j < k
              · obtain ⟨fj, hfj⟩ : ∃ x, fs[j]? = some x := ⟨_, List.getElem?_eq_getElem (by omega)⟩
                clear hbel hA hB
                go_wp2_with fail
                refine (ownerAt_any a3 c3 os ns.length j wr (hr3.out.later HBW2.out)).mono ?_
                rintro e w7 ⟨rfl, rfl⟩
                cases hownj : ownO os ns.length j with
                | none =>
                  have HVj := hide (vt_none (fs := fs) (ts := ts) hownj)
                  clear hownj hfj
                  simp only [ownI]
                  go_wp2_with fail
                  go_roundw
                  case rel =>
                    refine ⟨j + 1, by omega, by go_num, HB2.out, ?_, ?_⟩
                    · rw [hasB_next, gT_none HVj.out]; simpa using HA2.out
                    · rw [hasB_next, HVj.out]; simpa using HBr2.out
                  case measure => simp [intOf]; omega
                | some oj =>
                  have hojN : oj < ns.length := ownO_lt hownj
                  obtain ⟨nmj, hnmj⟩ : ∃ x, ns[oj]? = some x := ⟨_, List.getElem?_eq_getElem hojN⟩
                  have HVj := hide (vt_some (ts := ts) hownj hnmj hfj)
                  obtain ⟨tj, HTj⟩ : ∃ x, Hid (x = tgt ts j) := ⟨_, hide rfl⟩
                  rw [← HTj.out] at HVj
                  have hjn2 : ¬ (oj : Int) < 0 := by omega
                  simp only [ownI]
                  go_wp2_with fail
                  refine (targetAt_any a2 c2 ts j w7 (hr2.out.later HBW2.out)).mono ?_
                  rw [← HTj.out]
                  rintro e w8 ⟨rfl, rfl⟩
                  go_wp2_with fail
                  refine (targetAt_any a2 c2 ts k w8 (hr2.out.later HBW2.out)).mono ?_
                  rw [← HT.out]
                  rintro e w9 ⟨rfl, rfl⟩
                  by_cases htj : tj = t
                  · have hbe : (tj.toList == t.toList) = true := by rw [htj]; exact beq_self_eq_true _
                    have HEQ := hide htj
                    clear htj
                    have hkA : k < (upto FT fs.length k).length := by rw [upto_length hk]; exact hlt
                    have hkB : k < (upto FX fs.length k).length := by rw [upto_length hk]; exact hlt
                    have gA := HA2.out.get (i := k) (by rw [List.getElem?_set_self hkA])
                    have fA : w9.frozen? ⟨w5.heap.size, k, none⟩ = false := frozen_of_row _ _ _ _ _ HA2.out
                    obtain ⟨Y, HY⟩ : ∃ Y, Hid (Y = w9.setCell ⟨w5.heap.size, k, none⟩ (.bool false)) := ⟨_, hide rfl⟩
                    have hAY : BRow Y w5.heap.size ((upto FT fs.length k).set k false) := by rw [HY.out]; have := HA2.out.set k false; rwa [List.set_set] at this
                    have hBY : BRow Y (w5.heap.size + 1) ((upto FX fs.length k).set k (!hasB (t, (nm, f)) (firsts (vt ns fs ts os) j))) := by rw [HY.out]; exact HBr2.out.other hgne2 _ _
                    have hYb : Below w5.heap.size w5 Y := by rw [HY.out]; exact HB2.out.setCell (Nat.le_refl _) _
                    have hYw : Below w4.heap.size w4 Y := HB5.out.trans (hYb.mono HB5.out.size)
                    obtain ⟨b1, o1, hab1, q1⟩ := hr1.out j fj hfj
                    obtain ⟨b1', o1', hab1', q2⟩ := hr1.out k f HF.out
                    obtain ⟨b0, o0, hab0, q3⟩ := hr0.out oj nmj hnmj
                    obtain ⟨b0', o0', hab0', q4⟩ := hr0.out oi nm HNM.out
                    subst hab1 hab0
                    obtain ⟨rfl, rfl⟩ : b1 = b1' ∧ o1 = o1' := by simpa using hab1'
                    obtain ⟨rfl, rfl⟩ : b0 = b0' ∧ o0 = o0' := by simpa using hab0'
                    have y1 := (hYw.cell (block_lt_of_cell q1)).trans q1
                    have y2 := (hYw.cell (block_lt_of_cell q2)).trans q2
                    have y3 := (hYw.cell (block_lt_of_cell q3)).trans q3
                    have y4 := (hYw.cell (block_lt_of_cell q4)).trans q4
                    have gB := hBY.get (i := k) (by rw [List.getElem?_set_self hkB])
                    have fB : Y.frozen? ⟨w5.heap.size + 1, k, none⟩ = false := frozen_of_row _ _ _ _ _ hBY
                    have HAY := hide hAY
                    have HBY := hide hBY
                    have HYB := hide hYb
                    have hj0 : (0 : Int) ≤ (j : Int) := Int.natCast_nonneg _
                    have hj1 : (j : Int) < (fs.length : Int) := by omega
                    have ho0 : (0 : Int) ≤ (oj : Int) := Int.natCast_nonneg _
                    have ho1 : (oj : Int) < (ns.length : Int) := by omega
                    have hp0 : (0 : Int) ≤ (oi : Int) := Int.natCast_nonneg _
                    have hp1 : (oi : Int) < (ns.length : Int) := by omega
                    clear q1 q2 q3 q4 hAY hBY hYb hYw hownj hnmj hfj hab1' hab0'
                    by_cases hff : fj = f
                    · have hbf : (fj.toList == f.toList) = true := by rw [hff]; exact beq_self_eq_true _
                      have HFF := hide hff
                      clear hff
                      by_cases hnn : nmj = nm
                      · have hbn : (nmj.toList == nm.toList) = true := by rw [hnn]; exact beq_self_eq_true _
                        have HNN := hide hnn
                        clear hnn
                        go_wp2_with fail
                        rw [← HY.out]
                        clear gA fA
                        go_quiet (fail)
                        have gB2 : (Y.drewN nq).cell? ⟨w5.heap.size + 1, k, none⟩ = some (.bool (!hasB (t, (nm, f)) (firsts (vt ns fs ts os) j))) := gB
                        have fB2 : (Y.drewN nq).frozen? ⟨w5.heap.size + 1, k, none⟩ = false := fB
                        go_wp2_with fail
                        go_roundw
                        case rel =>
                          refine ⟨j + 1, by omega, by go_num, (below_drewN HYB.out nq).setCell (Nat.le_succ _) _, ?_, ?_⟩
                          · rw [hasB_next, gT_some HVj.out, decide_eq_true (by rw [show tj = t from HEQ.out]), Bool.or_true]
                            exact BRow.other (w := Y.drewN nq) HAY.out hgne _ _
                          · rw [hasB_next, HVj.out, decide_eq_true (by rw [HEQ.out, HNN.out, HFF.out]), Bool.or_true]
                            have := BRow.set (w := Y.drewN nq) HBY.out k false
                            rwa [List.set_set] at this
                        case measure => simp [intOf]; omega
                      · have hbn : (nmj.toList == nm.toList) = false := beq_eq_false_iff_ne.2 fun e => hnn (bytes_toList_inj.1 e)
                        have HNN := hide hnn
                        clear hnn
                        go_wp2_with fail
                        rw [← HY.out]
                        clear gA fA
                        go_quiet (fail)
                        go_wp2_with fail
                        go_roundw
                        case rel =>
                          refine ⟨j + 1, by omega, by go_num, below_drewN HYB.out nq, ?_, ?_⟩
                          · rw [hasB_next, gT_some HVj.out, decide_eq_true (by rw [show tj = t from HEQ.out]), Bool.or_true]; exact HAY.out
                          · rw [hasB_next, HVj.out, decide_eq_false (by intro e; exact HNN.out (congrArg (fun z => z.2.1) (Option.some.inj e))), Bool.or_false]; exact HBY.out
                        case measure => simp [intOf]; omega
                    · have hbf : (fj.toList == f.toList) = false := beq_eq_false_iff_ne.2 fun e => hff (bytes_toList_inj.1 e)
                      have HFF := hide hff
                      clear hff
                      go_wp2_with fail
                      rw [← HY.out]
                      clear gA fA
                      go_quiet (fail)
                      go_wp2_with fail
                      go_roundw
                      case rel =>
                        refine ⟨j + 1, by omega, by go_num, below_drewN HYB.out nq, ?_, ?_⟩
                        · rw [hasB_next, gT_some HVj.out, decide_eq_true (by rw [show tj = t from HEQ.out]), Bool.or_true]; exact HAY.out
                        · rw [hasB_next, HVj.out, decide_eq_false (by intro e; exact HFF.out (congrArg (fun z => z.2.2) (Option.some.inj e))), Bool.or_false]; exact HBY.out
                      case measure => simp [intOf]; omega
                  · have hbe : (tj.toList == t.toList) = false := beq_eq_false_iff_ne.2 fun e => htj (bytes_toList_inj.1 e)
                    have HNE := hide htj
                    clear htj hownj hnmj hfj
                    go_wp2_with fail
                    go_roundw
                    case rel =>
                      refine ⟨j + 1, by omega, by go_num, HB2.out, ?_, ?_⟩
                      · rw [hasB_next, gT_some HVj.out, decide_eq_false (by intro e; exact HNE.out (Option.some.inj e)), Bool.or_false]; exact HA2.out
                      · rw [hasB_next, HVj.out, decide_eq_false (by intro e; exact HNE.out (congrArg Prod.fst (Option.some.inj e))), Bool.or_false]; exact HBr2.out
                    case measure => simp [intOf]; omega
              · obtain rfl : j = k := by omega
                clear hbel hA hB
                go_wp2
                go_roundw
                case rel =>
                  refine ⟨j + 1, by omega, by go_num, HB2.out, ?_, ?_⟩
                  · rw [← upto_step hlt]
                    have : FT j = !hasB t (firsts (gT ns fs ts os) j) := by rw [HFT.out]; unfold ftB; rw [gT_some HV.out]
                    rw [this]; exact HA2.out
                  · rw [← upto_step hlt]
                    have : FX j = !hasB (t, (nm, f)) (firsts (vt ns fs ts os) j) := by rw [HFX.out]; unfold fxB; rw [HV.out]
                    rw [this]; exact HBr2.out
                case measure => simp [intOf]; omega
        · obtain rfl : k = fs.length := by omega
          obtain ⟨w6, rfl⟩ : ∃ w6, w6 = wr := ⟨_, rfl⟩
          have HB6 := hide hbel
          have HA6 := hide hA
          have HX6 := hide hB
          have HTV : Hid (∀ y, y ∈ T ↔ ∃ i, i < fs.length ∧ vt ns fs ts os i = some y) := hide (by have h := HTR1.out; rw [HR.out] at h; exact trips_vt h)
          have HBW6 : Hid (Below w4.heap.size w4 w6) := hide (HB5.out.trans (hbel.mono HB5.out.size))
          obtain ⟨ρ, hix6⟩ := HIX1.out.later hbel
          have HIX6 := hide hix6
          clear hbel hA hB hix6
          go_wp2
          go_loopw [19, 20] (fun d i wr => ∃ k : Nat, k ≤ fs.length ∧ i = .int .i64 k ∧ d = .int .i64 (firsts (gT ns fs ts os) k).length ∧ Below w6.heap.size w6 wr) (fun _ i _ => fs.length - (intOf i).toNat)
          case atStart => exact ⟨0, Nat.zero_le _, rfl, rfl, Below.refl _ _⟩
          case round =>
            obtain ⟨k, hk, rfl, rfl, hbel⟩ := hrel
            by_cases hlt : k < fs.length
            · obtain ⟨f, hf⟩ : ∃ f, fs[k]? = some f := ⟨_, List.getElem?_eq_getElem hlt⟩
              have HB := hide hbel
              have HBW : Hid (Below w4.heap.size w4 wr) := hide (HBW6.out.trans (hbel.mono HBW6.out.size))
              have HF := hide hf
              have hft : wr.cell? ⟨w5.heap.size, k, none⟩ = some (.bool (FT k)) := by
                have h1 := HA6.out.get (upto_get (f := FT) (n := fs.length) hlt)
                exact (hbel.cell (block_lt_of_cell h1)).trans h1
              clear hbel hf
              go_wp2_with fail
              refine (ownerAt_any a3 c3 os ns.length k wr (hr3.out.later HBW.out)).mono ?_
              rintro e w7 ⟨rfl, rfl⟩
              cases hown : ownO os ns.length k with
              | none =>
                have HV := hide (vt_none (fs := fs) (ts := ts) hown)
                clear hown
                simp only [ownI]
                go_wp2_with fail
                go_roundw
                case rel => exact ⟨k + 1, by omega, by go_num, by rw [firsts_none (gT_none HV.out)], HB.out⟩
                case measure => simp [intOf]; omega
              | some oi =>
                have hoN : oi < ns.length := ownO_lt hown
                obtain ⟨nm, hnm⟩ : ∃ nm, ns[oi]? = some nm := ⟨_, List.getElem?_eq_getElem hoN⟩
                have HV := hide (vt_some (ts := ts) hown hnm HF.out)
                obtain ⟨t, HT⟩ : ∃ t, Hid (t = tgt ts k) := ⟨_, hide rfl⟩
                rw [← HT.out] at HV
                have HYT : Hid ((t, (nm, f)) ∈ T) := hide ((HTV.out _).2 ⟨k, hlt, HV.out⟩)
                obtain ⟨b0, o0, hab0, q0⟩ := hr0.out oi nm hnm
                obtain ⟨b1, o1, hab1, q1⟩ := hr1.out k f HF.out
                have e0 := (HBW.out.cell (block_lt_of_cell q0)).trans q0
                have e1 := (HBW.out.cell (block_lt_of_cell q1)).trans q1
                subst hab0 hab1
                have hjn : ¬ (oi : Int) < 0 := by omega
                have hi0 : (0 : Int) ≤ (k : Int) := Int.natCast_nonneg _
                have hi1 : (k : Int) < (fs.length : Int) := by omega
                have hp0 : (0 : Int) ≤ (oi : Int) := Int.natCast_nonneg _
                have hp1 : (oi : Int) < (ns.length : Int) := by omega
                clear hown hnm q0 q1
                simp only [ownI]
                go_wp2_with fail
                refine (targetAt_any a2 c2 ts k w7 (hr2.out.later HBW.out)).mono ?_
                rw [← HT.out]
                rintro e w8 ⟨rfl, rfl⟩
                have HIXn : Hid (∀ n, IxR (w8.drewN n) wB.heap.size wB.heap.size S ρ) := hide (fun n => HIX6.out.later (below_drewN HB.out n))
                have hk1 : ∀ n, (Instr.lookup 39 (.map (some wB.heap.size)) (.string t) false).run Trym.prog (w8.drewN n) = .ok (.map (some (ρ t))) (w8.drewN n) := fun n => by
                  obtain ⟨l, A, -, -⟩ := ix_facts (HIXn.out n) HOK1.out HYT.out
                  exact A
                have hk2 : ∀ n, (Instr.lookup 44 (.map (some (ρ t))) (.agg #[.string nm, .string f]) false).run Trym.prog (w8.drewN n) = .ok (.bool true) (w8.drewN n) := fun n => by
                  obtain ⟨l, -, A, -⟩ := ix_facts (HIXn.out n) HOK1.out HYT.out
                  exact A
                go_wp2_with fail
                go_quiet (fail)
                have hFTk : FT k = !hasB t (firsts (gT ns fs ts os) k) := by rw [HFT.out]; unfold ftB; rw [gT_some HV.out]
                have HFTk := hide hFTk
                clear hFTk hk2 e0 e1
                cases hF : FT k with
                | false =>
                  rw [hF] at hft
                  have HF0 := hide hF
                  clear hF
                  go_wp2_with fail
                  go_roundw
                  case rel =>
                    have hm : t ∈ firsts (gT ns fs ts os) k := hasB_iff.1 (by have h := HFTk.out; rw [HF0.out] at h; simpa using h.symm)
                    exact ⟨k + 1, by omega, by go_num, by rw [firsts_old (gT_some HV.out) hm], below_drewN HB.out nq⟩
                  case measure => simp [intOf]; omega
                | true =>
                  rw [hF] at hft
                  have hnm : t ∉ firsts (gT ns fs ts os) k := fun hm => by
                    have h := HFTk.out
                    rw [hF, hasB_iff.2 hm] at h
                    cases h
                  have HNT := hide hnm
                  have HK0 : Hid (firsts (gX ns fs ts os t) k = []) := hide (List.eq_nil_iff_forall_not_mem.2 fun x hx => by
                    obtain ⟨i, hi, hv⟩ := mem_firsts.1 hx
                    exact hnm (mem_firsts.2 ⟨i, hi, gT_some (gX_some.1 hv)⟩))
                  clear hF hnm
                  have hdl := firsts_len (gT ns fs ts os) k
                  obtain ⟨D, HD⟩ : ∃ D, Hid (D = (firsts (gT ns fs ts os) k).length) := ⟨_, hide rfl⟩
                  rw [← HD.out] at hdl ⊢
                  obtain ⟨l, -, -, hlS, hln⟩ := ix_facts (HIXn.out nq) HOK1.out HYT.out
                  rw [inner_count HTV.out HOK1.out hlS] at hln
                  have hkk := hk1 nq
                  clear hk1 hlS hjn
                  go_wp2_with fail
                  clear hft
                  go_loop [23, 24] (fun cc i => ∃ j : Nat, k ≤ j ∧ j ≤ fs.length ∧ i = .int .i64 j ∧ cc = .int .i64 (firsts (gX ns fs ts os t) j).length) (fun _ i => fs.length - (intOf i).toNat)
                  case atStart => exact ⟨k, Nat.le_refl _, hk, rfl, by rw [HK0.out]; rfl⟩
                  case round =>
                    obtain ⟨j, hkj, hj, rfl, rfl⟩ := hrel
                    by_cases hjl : j < fs.length
                    · have hjl2 := firsts_len (gX ns fs ts os t) j
                      have hfx : (w8.drewN nq).cell? ⟨w5.heap.size + 1, j, none⟩ = some (.bool (FX j)) := by
                        have h1 := HX6.out.get (upto_get (f := FX) (n := fs.length) hjl)
                        have hb := below_drewN HB.out nq
                        exact (hb.cell (block_lt_of_cell h1)).trans h1
                      obtain ⟨fj, hfj⟩ : ∃ x, fs[j]? = some x := ⟨_, List.getElem?_eq_getElem hjl⟩
                      cases hown : ownO os ns.length j with
                      | none =>
                        have hv := vt_none (fs := fs) (ts := ts) hown
                        have hF : FX j = false := by rw [HFX.out]; unfold fxB; rw [hv]
                        rw [hF] at hfx
                        have HG : Hid (gX ns fs ts os t j = none) := hide (by unfold gX; rw [hv]; rfl)
                        clear hv hF hown hfj hln hkk
                        go_wp2_with fail
                        go_round
                        case rel => exact ⟨j + 1, by omega, by omega, by go_num, by rw [firsts_none HG.out]⟩
                        case measure => simp [intOf]; omega
                      | some oj =>
                        have hojN : oj < ns.length := ownO_lt hown
                        obtain ⟨nmj, hnmj⟩ : ∃ x, ns[oj]? = some x := ⟨_, List.getElem?_eq_getElem hojN⟩
                        obtain ⟨tj, HTj⟩ : ∃ x, Hid (x = tgt ts j) := ⟨_, hide rfl⟩
                        have hv := vt_some (ts := ts) hown hnmj hfj
                        rw [← HTj.out] at hv
                        have hFXj : FX j = !hasB (tj, (nmj, fj)) (firsts (vt ns fs ts os) j) := by rw [HFX.out]; unfold fxB; rw [hv]
                        have HVj := hide hv
                        have HFXj := hide hFXj
                        clear hv hFXj hown hnmj hfj hln hkk
                        cases hF : FX j with
                        | false =>
                          rw [hF] at hfx
                          have HF0 := hide hF
                          clear hF
                          go_wp2_with fail
                          go_round
                          case rel =>
                            refine ⟨j + 1, by omega, by omega, by go_num, ?_⟩
                            by_cases e : tj = t
                            · have hm : (tj, (nmj, fj)) ∈ firsts (vt ns fs ts os) j := hasB_iff.1 (by have h := HFXj.out; rw [HF0.out] at h; simpa using h.symm)
                              obtain ⟨i, hi, hvi⟩ := mem_firsts.1 hm
                              rw [firsts_old (gX_some.2 (by rw [HVj.out, e])) (mem_firsts.2 ⟨i, hi, gX_some.2 (by rw [hvi, e])⟩)]
                            · rw [firsts_none (by unfold gX; rw [HVj.out]; simp [e])]
                          case measure => simp [intOf]; omega
                        | true =>
                          rw [hF] at hfx
                          have HF1 := hide hF
                          clear hF
                          go_wp2_with fail
                          refine (targetAt_any a2 c2 ts j _ (hr2.out.later (below_drewN HBW.out nq))).mono ?_
                          rw [← HTj.out]
                          rintro e w9 ⟨rfl, rfl⟩
                          by_cases e : tj = t
                          · have hbe : (tj.toList == t.toList) = true := by rw [e]; exact beq_self_eq_true _
                            have HEQ := hide e
                            clear e
                            go_wp2_with fail
                            go_round
                            case rel =>
                              refine ⟨j + 1, by omega, by omega, by go_num, ?_⟩
                              have hnx : (nmj, fj) ∉ firsts (gX ns fs ts os t) j := fun hm => by
                                obtain ⟨i, hi, hvi⟩ := mem_firsts.1 hm
                                have hm2 : (tj, (nmj, fj)) ∈ firsts (vt ns fs ts os) j := mem_firsts.2 ⟨i, hi, by rw [gX_some.1 hvi, HEQ.out]⟩
                                have h := HFXj.out
                                rw [HF1.out, hasB_iff.2 hm2] at h
                                cases h
                              rw [firsts_new (gX_some.2 (by rw [HVj.out, HEQ.out])) hnx, List.length_append]
                              go_num
                            case measure => simp [intOf]; omega
                          · have hbe : (tj.toList == t.toList) = false := beq_eq_false_iff_ne.2 fun h => e (bytes_toList_inj.1 h)
                            have HNQ := hide e
                            clear e
                            go_wp2_with fail
                            go_round
                            case rel =>
                              refine ⟨j + 1, by omega, by omega, by go_num, ?_⟩
                              rw [firsts_none (by unfold gX; rw [HVj.out]; simp [HNQ.out])]
                            case measure => simp [intOf]; omega
                    · obtain rfl : j = fs.length := by omega
                      have hne : (((firsts (gX ns fs ts os t) fs.length).length : Int) != ((firsts (gX ns fs ts os t) fs.length).length : Int)) = false := by simp
                      go_wp2_with fail
                      go_roundw
                      case rel =>
                        refine ⟨k + 1, by omega, by go_num, ?_, below_drewN HB.out nq⟩
                        rw [firsts_new (gT_some HV.out) HNT.out, List.length_append, HD.out]
                        go_num
                      case measure => simp [intOf]; omega
            · obtain rfl : k = fs.length := by omega
              have hl1 := run_len_of (t := 39) (P := Trym.prog) Trym.underlying39 (HIX6.out.later hbel).outer 3
              rw [outerM_length, idx_count HTV.out HOK1.out] at hl1
              have HB := hide hbel
              clear hbel
              go_wp2
              go_ret
              exact ⟨ret_true (by simp), HBW6.out.trans (HB.out.mono HBW6.out.size)⟩

end Go.Proofs.Qxb6600877aMods
