import Derived.Test.Qxb6601980aModsG3
namespace Go.Proofs.Qxb6601980aMods
open Go.RowKit
attribute [local go_sem] Trym.eqNil47 Trym.neNil47
attribute [local go_sem ↓] ld53_eq st53_eq bd53_eq ld68_eq st68_eq bd68_eq bs28_eq

/-- 'append' within the capacity, at a step of a region that draws its order. -/
theorem step_append_fits {P : Program} {w : World} {ops : Array Oper} {o : Oper} {a : Act} {K : Act → World → Prop} {Q : Exit → Act → World → Prop} {F : Prop} (hgd : o.guard = none) (s x : Operand) (t : TypeId)
    (ho : o.op = Op.call { callee := Callee.builtin Builtin.append, args := #[s, x], argTypes := #[t, t] })
    (base : Nat) (e : TypeId) (i : TypeInfo) (size : Nat) (h1 : P.underlying t = some (.slice e)) (h2 : P.info? e = some i) (h4 : i.size = size)
    (g k cap : Nat) (xs : List Value) (hs : a.eval s = .slice (some ⟨g, 0, none⟩) k cap) (hown : w.ownsRow base e size (.slice (some ⟨g, 0, none⟩) k cap) k xs) (ad : Addr) (m c : Nat) (news : List Value) (hx : a.eval x = .slice (some ad) m c) (hn : news.length = m * size)
    (hc : ∀ j u, news[j]? = some u → w.cell? (ad.add j) = some u) (h1c : ∀ u ∈ news, u.oneCell' = true) (b1 : k + m ≤ cap)
    (hK : ∀ w', w'.ownsRow base e size (.slice (some ⟨g, 0, none⟩) (k + m) cap) (k + m) (xs ++ news) → w.grownBy w' (some g) → K (a.put o.dst (.slice (some ⟨g, 0, none⟩) (k + m) cap)) w') :
    if Region.wanted o (yielded ops a.tmps) = true then Oper.wp P o a w K Q else F := by
  have hw : Region.wanted o (yielded ops a.tmps) = true := by simp [Region.wanted, hgd]
  rw [if_pos hw]
  obtain ⟨w', hrun, r1, r2⟩ := run_append_fits (P := P) w base t o.type e i size h1 h2 h4 g k cap xs hown ad m c news hn hc h1c b1
  unfold Oper.wp
  simp [execOp, ho, resolve, invoke, builtin, hs, hx, hrun, Result.andThen]
  exact hK w' r1 r2

theorem range_grown {w w' : World} {g b o : Nat} {cs : List Value} (h : w.rangeAt b o cs) (hg : w.grownBy w' (some g)) (hne : b ≠ g) : w'.rangeAt b o cs :=
  fun j v hv => by
    have hc := h j v hv
    have := World.cell?_of_block (hg.block b (block_lt_of_cell hc) (by simpa using hne)) (a := ⟨b, o + j, none⟩)
    rw [this]; exact hc

set_option maxRecDepth 100000 in
set_option maxHeartbeats 1600000 in
theorem presentOf_any (gk gt ck ct : Nat) (es : List Ent) (w : World) (hkeys : Hid (KeysAt w gk es)) (htxs : Hid (TxsIn w gt es)) (hn : es.length ≤ 1048576) :
    Calls Trym.prog 24 #[.slice (some ⟨gk, 0, none⟩) es.length ck, .slice (some ⟨gt, 0, none⟩) es.length ct] w (PresentPost w es) := by
  have hmk := make_ents0 es.length hn
  have hown0 := World.ownsRow_made (base := w.heap.size) (e := 53) (size := 33) w (flat (List.replicate es.length Ent.zero)).toArray es.length (Nat.le_refl _) (by unfold maxLen; omega) (by simp [flat_length])
  have HO0 := hide hown0
  clear hown0
  obtain ⟨i53, hi53, -, hs53, -⟩ := info_parts Trym.info53
  have HI := hide hi53
  have HSz := hide hs53
  have hu50 := Trym.underlying50
  clear hi53 hs53
  go_enter Trym.func24, Trym.ntmps24
  go_wp2
  go_loopw [5, 12] (fun o i wr => ∃ k : Nat, k ≤ es.length ∧ i = .int .i64 k ∧ o = .slice (some ⟨w.heap.size, 0, none⟩) (liveN (es.take k)) es.length ∧ Below w.heap.size w wr ∧ Hid (wr.ownsRow w.heap.size 53 33 (.slice (some ⟨w.heap.size, 0, none⟩) (liveN (es.take k)) es.length) (liveN (es.take k)) (flat ((es.take k).filter Ent.live)))) (fun _ i _ => es.length - (intOf i).toNat)
  case atStart => exact ⟨0, Nat.zero_le _, rfl, rfl, (Below.refl _ _).alloc (Nat.le_refl _) _, HO0.out⟩
  case round =>
    obtain ⟨k, hk, rfl, rfl, hbel, HO⟩ := hrel
    have hln2 := liveN_take_le es k
    by_cases hlt : k < es.length
    · obtain ⟨e, he⟩ : ∃ e, es[k]? = some e := ⟨_, List.getElem?_eq_getElem hlt⟩
      have hk0 := hkeys.out k e he
      have ht0 := htxs.out k e he
      have htx := (hbel.cell (block_lt_of_cell ht0)).trans ht0
      have HR := hide (rangeAt_later hbel hk0)
      have HT := hide htx
      have hgt : gt < w.heap.size := block_lt_of_cell ht0
      have hgk : gk < w.heap.size := block_lt_of_cell (a := ⟨gk, k * 32 + 0, none⟩) (hk0 0 (.int .u8 (e.key[0]'(by rw [e.len]; omega))) (by simp [keyCells, e.len]))
      have HX := hide (And.intro hgt hgk)
      have HB := hide hbel
      have HE := hide he
      have hi0 : (0 : Int) ≤ (k : Int) := Int.natCast_nonneg _
      have hi1 : (k : Int) < (es.length : Int) := by omega
      have hi50 : (Trym.prog.info? 50).map (·.size) = some (keyCells e.key).length := by rw [Trym.size50, keyCells_length, e.len]
      have hbd := run_bd53 e.len
      have hbs : ∀ x : World, (bs28 #[(0, .agg (keyCells e.key ++ [Value.slice e.a e.n e.c]).toArray)]).run Trym.prog x = .ok (.slice (some ⟨x.heap.size, 0, none⟩) 1 1) (x.alloc (.cells (keyCells e.key ++ [Value.slice e.a e.n e.c]).toArray 53)) := run_bs28 e
      clear he hbel hk0 ht0 hgt hgk hmk
      by_cases hl : e.a.isNone = true
      · go_wp2_with fail
        go_roundw
        case rel =>
          have e1 := liveN_take_succ HE.out
          rw [live_of_isNone hl] at e1
          simp only [Bool.false_eq_true, if_false, Nat.add_zero] at e1
          refine ⟨k + 1, by omega, by go_num, by rw [e1], HB.out, ?_⟩
          rw [e1, take_snoc_ent HE.out, List.filter_append]
          exact hide (by simpa [live_of_isNone hl] using HO.out)
        case measure => simp [intOf]; omega
      · have hl2 : e.a.isNone = false := Bool.not_eq_true _ ▸ hl
        clear hl
        have P0 : Hid (wr.drew.rangeAt gk (k * 32) (keyCells e.key) ∧ wr.drew.cell? ⟨gt, k, none⟩ = some (.slice e.a e.n e.c)) := hide ⟨by simpa using HR.out, by simpa using HT.out⟩
        have p1 : ((wr.alloc (.cells (keyCells e.key ++ [Value.slice e.a e.n e.c]).toArray 53)).drew).rangeAt gk (k * 32) (keyCells e.key) ∧ ((wr.alloc (.cells (keyCells e.key ++ [Value.slice e.a e.n e.c]).toArray 53)).drew).cell? ⟨gt, k, none⟩ = some (.slice e.a e.n e.c) := by
          refine ⟨by simpa using World.rangeAt_alloc HR.out _, ?_⟩
          have := World.cell?_alloc_lt wr (.cells (keyCells e.key ++ [Value.slice e.a e.n e.c]).toArray 53) ⟨gt, k, none⟩ (block_lt_of_cell HT.out)
          exact this.trans HT.out
        have P1 := hide p1
        have P2 : Hid (∀ w1, ((wr.alloc (.cells (keyCells e.key ++ [Value.slice e.a e.n e.c]).toArray 53)).drew).grownBy w1 (some w.heap.size) → w1.rangeAt gk (k * 32) (keyCells e.key) ∧ w1.cell? ⟨gt, k, none⟩ = some (.slice e.a e.n e.c)) := hide (fun w1 hg => ⟨range_grown p1.1 hg (Nat.ne_of_lt HX.out.2), (World.cell?_of_block (hg.block gt (block_lt_of_cell p1.2) (by have := HX.out.1; simp; omega))).trans p1.2⟩)
        clear p1
        go_wp2_with fail
        go_region_held3 (fun w' => w'.rangeAt gk (k * 32) (keyCells e.key) ∧ w'.cell? ⟨gt, k, none⟩ = some (.slice e.a e.n e.c))
          (first | exact P0.out | exact P1.out | exact P2.out _ hg1)
          ((refine step_append_fits (by rfl) _ _ 28 (by rfl) w.heap.size 53 i53 33 Trym.underlying28 HI.out HSz.out w.heap.size (liveN (es.take k)) es.length (flat ((es.take k).filter Ent.live)) (by rfl) (HO.out.alloc _).drew ⟨wr.heap.size, 0, none⟩ 1 1 (entCells e) (by rfl) (by rw [entCells_length]) (news_ent wr e) (entCells_one e) (by omega) ?_; intro w1 hown1 hg1))
        have HO1 := hide hown1
        have HB1 : Hid (Below w.heap.size w w1) := hide ((HB.out.alloc HB.out.size _).drew.grown hg1 (by have := HB.out.size; simp; omega) (fun j hj => by cases hj; exact Nat.le_refl _))
        clear hown1 hg1
        go_wp2
        go_roundw
        case rel =>
          have e1 := liveN_take_succ HE.out
          rw [live_of_some hl2] at e1
          simp only [if_true] at e1
          refine ⟨k + 1, by omega, by go_num, by rw [e1], HB1.out, ?_⟩
          rw [e1, take_snoc_ent HE.out, List.filter_append, flat_append]
          have e2 : flat (List.filter Ent.live [e]) = entCells e := by simp [live_of_some hl2, flat]
          rw [e2]
          exact HO1.out
        case measure => simp [intOf]; omega
    · obtain rfl : k = es.length := by omega
      rw [List.take_length] at HO ⊢
      go_wp2
      go_ret
      exact ⟨⟨_, _, rfl, owned_ents HO.out rfl⟩, hbel⟩

end Go.Proofs.Qxb6601980aMods
