import Derived.Test.Qxb6601980aModsG4
namespace Go.Proofs.Qxb6601980aMods
open Go.RowKit
attribute [local go_sem] Trym.eqNil47 Trym.neNil47
attribute [local go_sem ↓] ld53_eq st53_eq bd53_eq ld68_eq st68_eq bd68_eq bs28_eq ld50_eq

set_option maxRecDepth 100000 in
set_option maxHeartbeats 1600000 in
/-- sameEnts, two lists of the same entries. -/
theorem sameEnts_any (g1 g2 c1 c2 : Nat) (es : List Ent) (w : World) (hn : es.length ≤ 1048576) (hN : Hid (∀ x ∈ es, x.n ≤ 1048576)) (h1 : Hid (EntsAt w (some ⟨g1, 0, none⟩) es)) (h2 : Hid (EntsAt w (some ⟨g2, 0, none⟩) es)) (hby : Hid (∀ x ∈ es, BytesAt w x.a x.n)) :
    Calls Trym.prog 25 #[.slice (some ⟨g1, 0, none⟩) es.length c1, .slice (some ⟨g2, 0, none⟩) es.length c2] w fun e w' => e = .returned (.bool true) ∧ ∃ m, w' = w.drewN m := by
  have t4 : ((es.length : Int) != (es.length : Int)) = false := by simp
  go_enter Trym.func25, Trym.ntmps25
  go_wp2
  go_loopw [13] (fun i wr => ∃ k : Nat, k ≤ es.length ∧ i = .int .i64 k ∧ ∃ m, wr = w.drewN m) (fun i _ => es.length - (intOf i).toNat)
  case atStart => exact ⟨0, Nat.zero_le _, rfl, 0, rfl⟩
  case round =>
    obtain ⟨k, hk, rfl, m, hwm⟩ := hrel
    have HW := hide hwm
    have hbel : Below w.heap.size w wr := by rw [hwm]; exact below_drewN (Below.refl _ _) m
    clear hwm
    by_cases hlt : k < es.length
    · obtain ⟨e, he⟩ : ∃ e, es[k]? = some e := ⟨_, List.getElem?_eq_getElem hlt⟩
      obtain ⟨b, off', hbo, hr1⟩ := h1.out k e he
      obtain ⟨rfl, rfl⟩ : g1 = b ∧ 0 = off' := by simpa using hbo
      obtain ⟨b2, off2, hbo2, hr2⟩ := h2.out k e he
      obtain ⟨rfl, rfl⟩ : g2 = b2 ∧ 0 = off2 := by simpa using hbo2
      rw [Nat.zero_add] at hr1 hr2
      have hem : e ∈ es := List.mem_of_getElem? he
      have hNk := hN.out e hem
      have HY : Hid (∀ n, BytesAt (wr.drewN n) e.a e.n) := hide (fun n => (hby.out e hem).later ⟨hbel.os, hbel.tape, hbel.output, hbel.size, hbel.block⟩)
      have hi0 : (0 : Int) ≤ (k : Int) := Int.natCast_nonneg _
      have hi1 : (k : Int) < (es.length : Int) := by omega
      have hg50 := Trym.guard50
      have heq := run_neq50_same e.len
      have q1 := rangeAt_later hbel hr1
      have q2 := rangeAt_later hbel hr2
      have H1 := hide (rangeAt_key q1)
      have H2 := hide (rangeAt_key q2)
      have l3 := rangeAt_tx q1
      have l4 := rangeAt_tx q2
      have l1 : ∀ n, (ld50 ⟨g1, k * 33, none⟩).run Trym.prog (wr.drewN n) = .ok (.agg (keyCells e.key).toArray) (wr.drewN n) := fun n => run_ld50 e.len (by intro i v hv; simpa using H1.out i v hv)
      have l2 : ∀ n, (ld50 ⟨g2, k * 33, none⟩).run Trym.prog (wr.drewN n) = .ok (.agg (keyCells e.key).toArray) (wr.drewN n) := fun n => run_ld50 e.len (by intro i v hv; simpa using H2.out i v hv)
      clear hr1 hr2 hem hbel he hbo hbo2 q1 q2 t4
      go_wp2_with fail
      go_quiet ((go_at_call 39; exact Calls.quiet_of (sameTx_same e.a e.n e.c _ hNk (HY.out _))))
      go_wp2_with fail
      go_roundw
      case rel => exact ⟨k + 1, by omega, by go_num, m + nq, by rw [HW.out, World.drewN_drewN]⟩
      case measure => simp [intOf]; omega
    · clear hbel
      go_wp2
      go_ret
      exact ⟨rfl, m, HW.out⟩

/-! ### The window: the plain side -/
theorem winFrom_count (batch : Int) (es : List Ent) : ∀ c : Nat, (c : Int) < batch → batch ≤ (c : Int) + liveN es → (c : Int) + liveN (es.take (winFrom batch c es)) = batch := by
  induction es with
  | nil => intro c h1 h2; simp [liveN] at h2; omega
  | cons e es ih =>
    intro c h1 h2
    have hl : ∀ l : List Ent, liveN (e :: l) = liveN l + if e.live then 1 else 0 := by
      intro l
      unfold liveN
      by_cases hh : e.live <;> simp [hh]
    simp only [winFrom]
    by_cases hh : e.live
    · rw [hl, if_pos hh] at h2
      rw [if_pos hh]
      by_cases hb : (c : Int) + 1 = batch
      · rw [if_pos hb, List.take_succ_cons, List.take_zero, hl, if_pos hh]
        simp [liveN]; omega
      · rw [if_neg hb, Nat.add_comm 1, List.take_succ_cons, hl, if_pos hh]
        have := ih (c + 1) (by omega) (by omega)
        omega
    · rw [hl, if_neg hh] at h2
      rw [if_neg hh, Nat.add_comm 1, List.take_succ_cons, hl, if_neg hh]
      have := ih c h1 (by omega)
      omega

/-- At least the first 'batch' transactions, or all, lie packed at the front. -/
theorem front_count (batch : Int) (es : List Ent) (hb : 1 ≤ batch) : batch ≤ liveN (es.take (packEnd batch es)) ∨ liveN (es.take (packEnd batch es)) = liveN es := by
  unfold packEnd
  split
  · by_cases h : batch ≤ liveN es
    · left
      have := winFrom_count batch es 0 (by omega) (by omega)
      have e : winEnd batch es = winFrom batch 0 es := rfl
      rw [e]
      omega
    · right
      rw [winEnd_all (by omega), List.take_length]
  · right
    rw [List.take_length]

theorem packed_front {E : Nat} {es : List Ent} {j : Nat} (h : j < liveN (es.take E)) : ∃ x, (packed E es)[j]? = some x ∧ x.live = true := by
  have h1 : j < ((es.take E).filter Ent.live).length := h
  refine ⟨((es.take E).filter Ent.live)[j], ?_, ?_⟩
  · unfold packed
    rw [List.getElem?_append_left h1, List.getElem?_eq_getElem h1]
  · exact (List.mem_filter.1 (List.getElem_mem h1)).2

theorem packed_empties (batch : Int) (es : List Ent) : (packed (packEnd batch es) es).length ≤ 2 * liveN es := by
  have h := packed_length_le (packEnd batch es) es
  by_cases hc : es.length ≤ 2 * liveN es
  · omega
  · have : packEnd batch es = es.length := by unfold packEnd; rw [if_neg hc]
    rw [this, packed_len, List.take_length]
    omega

theorem packed_filter (k : Nat) (es : List Ent) : (packed k es).filter Ent.live = es.filter Ent.live := by
  conv => rhs; rw [← List.take_append_drop k es, List.filter_append]
  unfold packed
  rw [List.filter_append, List.filter_filter]
  simp

end Go.Proofs.Qxb6601980aMods
