import Derived.Test.Qxb6601980aModsE6
namespace Go.Proofs.Qxb6601980aMods
open Go.RowKit
attribute [local go_sem] Trym.eqNil47
attribute [local go_sem ↓] ld53_eq st53_eq bd53_eq ld68_eq st68_eq bd68_eq

theorem Trym.neNil47 (w : World) (a : Option Addr) (n c n' c' : Nat) : (binOp .neq 47 (.slice a n c) (.slice none n' c')).run Trym.prog w = .ok (.bool (!a.isNone)) w :=
  run_neq_slice_nil_any w 47 5 a n c n' c' Trym.underlying47
attribute [local go_sem] Trym.neNil47

/-- How many entries hold a transaction. -/
def liveN (es : List Ent) : Nat := (es.filter Ent.live).length
theorem liveN_le (es : List Ent) : liveN es ≤ es.length := List.length_filter_le _ _
theorem liveN_snoc (l : List Ent) (e : Ent) : liveN (l ++ [e]) = liveN l + if e.live then 1 else 0 := by
  unfold liveN
  rw [List.filter_append, List.length_append]
  by_cases h : e.live <;> simp [h]
theorem liveN_append (l m : List Ent) : liveN (l ++ m) = liveN l + liveN m := by simp [liveN]
theorem liveN_take_le (es : List Ent) (k : Nat) : liveN (es.take k) ≤ k := Nat.le_trans (liveN_le _) (List.length_take_le _ _)

/-- The length of the shortest prefix that holds 'batch' transactions, c having been counted already; all, where there is none. -/
def winFrom (batch : Int) : Nat → List Ent → Nat
  | _, [] => 0
  | c, e :: es => if e.live then (if (c : Int) + 1 = batch then 1 else 1 + winFrom batch (c + 1) es) else 1 + winFrom batch c es
def winEnd (batch : Int) (es : List Ent) : Nat := winFrom batch 0 es

theorem winFrom_le (batch : Int) (es : List Ent) : ∀ c, winFrom batch c es ≤ es.length := by
  induction es with
  | nil => intro c; exact Nat.le_refl _
  | cons e es ih =>
    intro c
    simp only [winFrom, List.length_cons]
    have h1 := ih (c + 1)
    have h2 := ih c
    split
    · split <;> omega
    · omega

/-- The scan has come to k. -/
def Scan (batch : Int) (es : List Ent) (k : Nat) : Prop := winEnd batch es = k + winFrom batch (liveN (es.take k)) (es.drop k)
theorem Scan.start (batch : Int) (es : List Ent) : Scan batch es 0 := by simp [Scan, winEnd, liveN]
theorem Scan.dead {batch : Int} {es : List Ent} {k : Nat} (h : Scan batch es k) {e : Ent} (he : es[k]? = some e) (hl : e.live = false) : Scan batch es (k + 1) := by
  unfold Scan at *
  have hk : k < es.length := (List.getElem?_eq_some_iff.1 he).1
  have hg : es[k] = e := by rw [List.getElem?_eq_getElem hk] at he; exact Option.some.inj he
  rw [List.drop_eq_getElem_cons hk, hg, winFrom, if_neg (by simp [hl])] at h
  rw [take_snoc_ent he, liveN_snoc, hl]
  simp only [Bool.false_eq_true, if_false, Nat.add_zero]
  omega
theorem Scan.hit {batch : Int} {es : List Ent} {k : Nat} (h : Scan batch es k) {e : Ent} (he : es[k]? = some e) (hl : e.live = true) (hc : (liveN (es.take k) : Int) + 1 = batch) : winEnd batch es = k + 1 := by
  unfold Scan at h
  have hk : k < es.length := (List.getElem?_eq_some_iff.1 he).1
  have hg : es[k] = e := by rw [List.getElem?_eq_getElem hk] at he; exact Option.some.inj he
  rw [List.drop_eq_getElem_cons hk, hg, winFrom, if_pos hl, if_pos hc] at h
  exact h
theorem Scan.miss {batch : Int} {es : List Ent} {k : Nat} (h : Scan batch es k) {e : Ent} (he : es[k]? = some e) (hl : e.live = true) (hc : ¬ (liveN (es.take k) : Int) + 1 = batch) : Scan batch es (k + 1) := by
  unfold Scan at *
  have hk : k < es.length := (List.getElem?_eq_some_iff.1 he).1
  have hg : es[k] = e := by rw [List.getElem?_eq_getElem hk] at he; exact Option.some.inj he
  rw [List.drop_eq_getElem_cons hk, hg, winFrom, if_pos hl, if_neg hc] at h
  rw [take_snoc_ent he, liveN_snoc, hl]
  simp only [if_true]
  omega
theorem Scan.stop {batch : Int} {es : List Ent} (h : Scan batch es es.length) : winEnd batch es = es.length := by
  unfold Scan at h
  simpa [winFrom] using h

theorem liveN_take_succ {es : List Ent} {k : Nat} {e : Ent} (he : es[k]? = some e) : liveN (es.take (k + 1)) = liveN (es.take k) + if e.live then 1 else 0 := by
  rw [take_snoc_ent he, liveN_snoc]
theorem live_of_isNone {e : Ent} (h : e.a.isNone = true) : e.live = false := by simp [Ent.live, Option.isNone_iff_eq_none.1 h]
theorem live_of_some {e : Ent} (h : e.a.isNone = false) : e.live = true := by
  unfold Ent.live
  cases he : e.a with
  | none => simp [he] at h
  | some x => rfl

set_option maxHeartbeats 1600000 in
theorem windowEnd_any (a : Option Addr) (c : Nat) (es : List Ent) (batch : Int) (w : World) (hrow : Hid (EntsAt w a es)) (hn : es.length ≤ 1048576) :
    Calls Trym.prog 36 #[.slice a es.length c, .int .i64 batch] w fun e w' => e = .returned (.int .i64 (winEnd batch es)) ∧ Below w.heap.size w w' := by
  go_enter Trym.func36, Trym.ntmps36
  go_wp2
  go_loopw [5, 10] (fun s i wr => ∃ k : Nat, k ≤ es.length ∧ i = .int .i64 k ∧ s = .int .i64 (liveN (es.take k)) ∧ Below w.heap.size w wr ∧ Hid (Scan batch es k)) (fun _ i _ => es.length - (intOf i).toNat)
  case atStart => exact ⟨0, Nat.zero_le _, rfl, rfl, Below.refl _ _, Scan.start _ _⟩
  case round =>
    obtain ⟨k, hk, rfl, rfl, hbel, HS⟩ := hrel
    by_cases hlt : k < es.length
    · obtain ⟨e, b, off, he, rfl, hr⟩ := hrow.out.at hlt
      have HR := hide (rangeAt_later hbel hr)
      have HB := hide hbel
      have HE := hide he
      have htx := cell_ent_tx wr e 53
      have hln := liveN_take_le es k
      clear hr he hbel hrow
      by_cases hl : e.a.isNone = true
      · go_wp2_with (first | (refine wpList_load_mid rfl 53 _ rfl _ _ rfl (entCells e) _ HR.out Trym.underlying53 rfl (by rw [Trym.size53, entCells_length]) ?_) | (refine wpList_alloc_row rfl 53 rfl _ _ _ Trym.info53 ?_) | (refine wpList_store_new rfl 53 _ _ rfl rfl (entCells e) rfl rfl (by simp [entCells_length]) (by rw [Trym.size53, entCells_length]) (entCells_one e) ?_))
        go_roundw
        case rel => exact ⟨k + 1, by omega, by go_num, by rw [liveN_take_succ HE.out, live_of_isNone hl]; simp, HB.out.alloc HB.out.size _, HS.out.dead HE.out (live_of_isNone hl)⟩
        case measure => simp [intOf]; omega
      · have hl2 : e.a.isNone = false := Bool.not_eq_true _ ▸ hl
        clear hl
        by_cases hc : (liveN (es.take k) : Int) + 1 = batch
        · have hc2 : ((liveN (es.take k) : Int) + 1 == batch) = true := beq_iff_eq.2 hc
          have HC := hide hc
          clear hc
          go_wp2_with (first | (refine wpList_load_mid rfl 53 _ rfl _ _ rfl (entCells e) _ HR.out Trym.underlying53 rfl (by rw [Trym.size53, entCells_length]) ?_) | (refine wpList_alloc_row rfl 53 rfl _ _ _ Trym.info53 ?_) | (refine wpList_store_new rfl 53 _ _ rfl rfl (entCells e) rfl rfl (by simp [entCells_length]) (by rw [Trym.size53, entCells_length]) (entCells_one e) ?_))
          go_ret
          exact ⟨ret_int (by rw [HS.out.hit HE.out (live_of_some hl2) HC.out]; omega), HB.out.alloc HB.out.size _⟩
        · have hc2 : ((liveN (es.take k) : Int) + 1 == batch) = false := beq_eq_false_iff_ne.2 hc
          go_wp2_with (first | (refine wpList_load_mid rfl 53 _ rfl _ _ rfl (entCells e) _ HR.out Trym.underlying53 rfl (by rw [Trym.size53, entCells_length]) ?_) | (refine wpList_alloc_row rfl 53 rfl _ _ _ Trym.info53 ?_) | (refine wpList_store_new rfl 53 _ _ rfl rfl (entCells e) rfl rfl (by simp [entCells_length]) (by rw [Trym.size53, entCells_length]) (entCells_one e) ?_))
          go_roundw
          case rel => exact ⟨k + 1, by omega, by go_num, by rw [liveN_take_succ HE.out, live_of_some hl2]; go_num, HB.out.alloc HB.out.size _, HS.out.miss HE.out (live_of_some hl2) hc⟩
          case measure => simp [intOf]; omega
    · obtain rfl : k = es.length := by omega
      go_wp2
      go_ret
      exact ⟨ret_int (by rw [HS.out.stop]), hbel⟩

end Go.Proofs.Qxb6601980aMods
