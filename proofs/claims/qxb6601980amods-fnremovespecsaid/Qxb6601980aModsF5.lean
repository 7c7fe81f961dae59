import Derived.Test.Qxb6601980aModsF4
import Derived.Test.Qxb6601980aModsB5
namespace Go.Proofs.Qxb6601980aMods
open Go.RowKit
attribute [local go_sem] Trym.eqNil47 Trym.neNil47
attribute [local go_sem ↓] ld53_eq st53_eq bd53_eq ld68_eq st68_eq bd68_eq bs28_eq

def ld50 (a : Addr) : Sem Value := loadVar 50 a
theorem ld50_eq (a : Addr) : loadVar 50 a = ld50 a := rfl
theorem run_ld50 {w : World} {b o : Nat} {k : List Int} (hk : k.length = 32) (hr : w.rangeAt b o (keyCells k)) : (ld50 ⟨b, o, none⟩).run Trym.prog w = .ok (.agg (keyCells k).toArray) w :=
  run_loadVar_mid w b o 50 (keyCells k) _ hr Trym.underlying50 rfl (by rw [Trym.size50, keyCells_length, hk])
attribute [local go_sem ↓] ld50_eq

theorem Trym.guard50 : Trym.prog.eqGuardType Trym.prog.depth 50 = false := by kernel_rfl
theorem run_neq50_same {k : List Int} (hk : k.length = 32) (w : World) : (Op.equalIn 10000 50 (.agg (keyCells k).toArray) (.agg (keyCells k).toArray)).run Trym.prog w = .ok true w := by
  have := run_equal50 w hk hk
  rw [decide_eq_true rfl] at this
  exact this

set_option maxRecDepth 100000 in
set_option maxHeartbeats 3200000 in
theorem queueIs_any (q g off cap r gw cw : Nat) (batch B sz by_ : Int) (es : List Ent) (M : List (List Int × Value)) (w : World) (hn : es.length ≤ 1048576) (hN : Hid (∀ x ∈ es, x.n ≤ 1048576))
    (hQ : QueueAt w q g off cap r batch es.length B sz by_) (hrow : Hid (EntsAt w (some ⟨g, off, none⟩) es)) (hM : MapIs w r okKey keyVal M) (hlen : M.length = liveN es)
    (hpl : Hid (∀ t x, es[t]? = some x → x.live = true → getM x.key M = some (placeVal B t)))
    (hwant : Hid (EntsAt w (some ⟨gw, 0, none⟩) es)) (hby : Hid (∀ x ∈ es, BytesAt w x.a x.n)) :
    Calls Trym.prog 20 #[.pointer (some ⟨q, 0, none⟩), .slice (some ⟨gw, 0, none⟩) es.length cw, .int .u64 B, .int .i64 sz, .int .i64 by_] w fun e w' => e = .returned (.bool true) ∧ Below w.heap.size w w' := by
  have HQ := hide hQ
  have HM := hide hM
  have HL := hide hlen
  clear hQ hM hlen
  have t1 : (B != B) = false := by simp
  have t2 : (sz != sz) = false := by simp
  have t3 : (by_ != by_) = false := by simp
  have t4 : ((es.length : Int) != (es.length : Int)) = false := by simp
  go_enter Trym.func20, Trym.ntmps20
  go_wp2_with fail
  refine (state_any q g off cap r batch B sz by_ es w hn HQ.out hrow.out).mono ?_
  rintro e1 w1 ⟨⟨gk, gt, rfl, hkeys, htxs⟩, hb1⟩
  have HK := hide hkeys
  have HT := hide htxs
  have HB1 := hide hb1
  clear hkeys htxs hb1
  go_wp2_with fail
  go_loopw [16, 50] (fun s i wr => ∃ k : Nat, k ≤ es.length ∧ i = .int .i64 k ∧ s = .int .i64 (liveN (es.take k)) ∧ Below w1.heap.size w1 wr) (fun _ i _ => es.length - (intOf i).toNat)
  case atStart => exact ⟨0, Nat.zero_le _, rfl, rfl, Below.refl _ _⟩
  case round =>
    obtain ⟨k, hk, rfl, rfl, hbel⟩ := hrel
    by_cases hlt : k < es.length
    · obtain ⟨e, he⟩ : ∃ e, es[k]? = some e := ⟨_, List.getElem?_eq_getElem hlt⟩
      obtain ⟨b, off', hbo, hrw⟩ := hwant.out k e he
      obtain ⟨rfl, rfl⟩ : gw = b ∧ 0 = off' := by simpa using hbo
      rw [Nat.zero_add] at hrw
      have hbel0 : Below w.heap.size w wr := HB1.out.trans (hbel.mono HB1.out.size)
      have hr1 := rangeAt_later hbel0 hrw
      have hk1 := rangeAt_later hbel (HK.out k e he)
      have ht1 := (hbel.cell (block_lt_of_cell (HT.out k e he))).trans (HT.out k e he)
      have hem : e ∈ es := List.mem_of_getElem? he
      have hNk := hN.out e hem
      have HY : Hid (∀ n, BytesAt (wr.drewN n) e.a e.n) := hide (fun n => (hby.out e hem).later ⟨hbel0.os, hbel0.tape, hbel0.output, hbel0.size, hbel0.block⟩)
      have hi0 : (0 : Int) ≤ (k : Int) := Int.natCast_nonneg _
      have hi1 : (k : Int) < (es.length : Int) := by omega
      have hu50 := Trym.underlying50
      have hi50 : (Trym.prog.info? 50).map (·.size) = some (keyCells e.key).length := by rw [Trym.size50, keyCells_length, e.len]
      have hg50 := Trym.guard50
      have heq := run_neq50_same e.len
      have hln := liveN_take_le es k
      have H1 := hide hk1
      have H2 := hide (rangeAt_key hr1)
      have H3 := hide ht1
      have H4 := hide (rangeAt_tx hr1)
      have HB := hide hbel
      have HB0 := hide hbel0
      have HE := hide he
      clear hrw hr1 hk1 ht1 hem hbel hbel0 he hbo
      go_wp2_with fail
      have l1 : ∀ n, (ld50 ⟨gk, k * 32, none⟩).run Trym.prog (wr.drewN n) = .ok (.agg (keyCells e.key).toArray) (wr.drewN n) := fun n => run_ld50 e.len (by intro i v hv; simpa using H1.out i v hv)
      have l2 : ∀ n, (ld50 ⟨gw, k * 33, none⟩).run Trym.prog (wr.drewN n) = .ok (.agg (keyCells e.key).toArray) (wr.drewN n) := fun n => run_ld50 e.len (by intro i v hv; simpa using H2.out i v hv)
      have l3 := H3.out
      have l4 := H4.out
      go_quiet ((go_at_call 39; exact Calls.quiet_of (sameTx_same e.a e.n e.c _ hNk (HY.out _))))
      have HBq : Hid (Below w1.heap.size w1 (wr.drewN nq)) := hide (below_drewN HB.out nq)
      have HBq0 : Hid (Below w.heap.size w (wr.drewN nq)) := hide (below_drewN HB0.out nq)
      have m2 := l2 nq
      clear l1 l2 l3 heq
      by_cases hl : e.a.isNone = true
      · go_wp2_with fail
        go_roundw
        case rel => exact ⟨k + 1, by omega, by go_num, by rw [liveN_take_succ HE.out, live_of_isNone hl]; simp, HBq.out⟩
        case measure => simp [intOf]; omega
      · have hl2 : e.a.isNone = false := Bool.not_eq_true _ ▸ hl
        clear hl
        go_wp2_with fail
        refine (place_any q g off cap r es.length batch B sz by_ M e.key e.len _ (HQ.out.later HBq0.out) (HM.out.later HBq0.out)).mono ?_
        rintro e3 w3 ⟨rfl, hb3⟩
        rw [hpl.out k e HE.out (live_of_some hl2)]
        have HB3 := hide hb3
        clear hb3
        have hpv : (Option.some (placeVal B k)).getD (.int .u64 0) = .int .u64 (IntKind.u64.wrap (B + (k : Int))) := rfl
        rw [hpv]
        have hcmp : (IntKind.u64.wrap (B + (k : Int)) != IntKind.u64.wrap (B + (k : Int))) = false := by simp
        go_wp2_with fail
        go_roundw
        case rel => exact ⟨k + 1, by omega, by go_num, by rw [liveN_take_succ HE.out, live_of_some hl2]; go_num, HBq.out.trans (HB3.out.mono HBq.out.size)⟩
        case measure => simp [intOf]; omega
    · obtain rfl : k = es.length := by omega
      have hbel0 : Below w.heap.size w wr := HB1.out.trans (hbel.mono HB1.out.size)
      have HB0 := hide hbel0
      clear hbel hbel0
      rw [List.take_length]
      go_wp2_with fail
      refine (places_any q g off cap r es.length batch B sz by_ M _ (HQ.out.later HB0.out) (HM.out.later HB0.out)).mono ?_
      rintro e3 w3 ⟨rfl, rfl⟩
      rw [HL.out]
      go_wp2_with fail
      go_ret
      exact ⟨ret_true (by simp), HB0.out⟩

end Go.Proofs.Qxb6601980aMods
