import Derived.Test.Qxb6600877aModsD1
namespace Go.Proofs.Qxb6600877aMods
open Go.RowKit

theorem Trym.info5 : (Trym.prog.info? 5).map (fun i => (i.zero, i.size, i.bytes)) = some (some (.int .u8 0), 1, 1) := by kernel_rfl
def zs24 : Array Value := (List.replicate 24 (Value.int .u8 0)).toArray
theorem Trym.info50 : (Trym.prog.info? 50).map (fun i => (i.zero, i.size, i.bytes)) = some (some (.agg zs24), 24, 24) := by kernel_rfl

section
variable {P : Program} {ops : Array Oper} {rest : List Oper} {op : Oper} {a : Act} {w : World} {Q : Exit → Act → World → Prop}
/-- 'var x T': a new block of zero cells. -/
theorem wpList_alloc_row (hgd : op.guard = none) (ty : TypeId) (ho : op.op = .alloc ty) (z : Array Value) (size bytes : Nat) (hinfo : (P.info? ty).map (fun i => (i.zero, i.size, i.bytes)) = some (some (.agg z), size, bytes))
    (h : wpList P ops Q rest (a.put op.dst (.pointer (some ⟨w.heap.size, 0, none⟩))) (w.alloc (.cells z ty))) : wpList P ops Q (op :: rest) a w := by
  obtain ⟨i, hi, hz, -, -⟩ := info_parts hinfo
  refine wpList_plain hgd fun K hK => ?_
  unfold Oper.wp execOp
  simp only [ho]
  have hrun : (Instr.alloc ty true (.tuple #[])).run P w = .ok (.pointer (some ⟨w.heap.size, 0, none⟩)) (w.alloc (.cells z ty)) := by
    simp [Instr.alloc, zeroValue, typeInfo, hi, hz, newVar, newRow, Value.cells]
  simp only [Sem.run_bind, hrun, Result.andThen_ok, Sem.run_pure]
  exact hK _ _ h
end

/-- 'buf = append(buf, c)', and what has not turned. -/
theorem append_byte_kept {P : Program} {ops : Array Oper} {rest : List Oper} {o : Oper} {a : Act} {Q : Exit → Act → World → Prop} (hgd : o.guard = none) (s x : Operand) (t : TypeId)
    (ho : o.op = .call { callee := .builtin .append, args := #[s, x], argTypes := #[t, t] })
    (B : Nat) (e : TypeId) (i : TypeInfo) (ht : P.underlying t = some (.slice e)) (hi : P.info? e = some i) (hz : i.zero = some (.int .u8 0)) (hsize : i.size = 1) (hby : i.bytes = 1)
    (v : Value) (n : Nat) (xs : List Value) (hs : a.eval s = v) (W0 w0 : World) (c : Int) (hb : Lib.OwnBuf B e v n xs W0 w0)
    (hx : a.eval x = .slice (some ⟨w0.heap.size, 0, none⟩) 1 1) (hlen : n + 1 ≤ 140737488355328)
    (h : ∀ v' w', Lib.OwnBuf B e v' (n + 1) (xs ++ [.int .u8 c]) W0 w' → (w0.alloc (.cells #[.int .u8 c] e)).grownBy w' v.ownBlock → wpList P ops Q rest (a.put o.dst v') w') : wpList P ops Q (o :: rest) a (w0.alloc (.cells #[.int .u8 c] e)) := by
  have hb' := hb.alloc (.cells #[.int .u8 c] e)
  refine wpList_append_ownF _ hgd s x t ho B e i (.int .u8 0) 1 1 ht hi hz hsize hby rfl (by decide) v n xs hs hb'.1 ⟨w0.heap.size, 0, none⟩ 1 1 [.int .u8 c] hx rfl ?_ ?_ (by unfold maxLen; omega) (by omega) hb'.2.2 ?_
  · intro j u hj
    match j, hj with
    | 0, hj => simp at hj; subst hj; simp [Addr.add]
    | (j + 1), hj => simp at hj
  · intro u hu; simp at hu; subst hu; rfl
  · intro v' w' ho' hg _
    exact h v' w' (hb'.grown ho' hg) hg

/-- What appendDecimal leaves. -/
structure DecPost (B : Nat) (xs : List Int) (W0 : World) (e : Ending) (w' : World) : Prop where
  form : ∃ v, e = .returned v ∧ Lib.OwnBuf B 5 v xs.length (u8s xs) W0 w'

/-- The array of digits: from place k on lies ds. -/
def DigAt (w : World) (g k : Nat) (ds : List Int) : Prop := ∃ cs, w.heap[g]? = some (.cells cs 50 (0, 0)) ∧ cs.size = 24 ∧ ∀ j x, ds[j]? = some x → cs[k + j]? = some (.int .u8 x)
theorem DigAt.step {w : World} {g k : Nat} {ds : List Int} (h : DigAt w g (k + 1) ds) (hk : k < 24) (x : Int) : DigAt (w.setCell ⟨g, k, none⟩ (.int .u8 x)) g k (x :: ds) := by
  obtain ⟨cs, h1, h2, h3⟩ := h
  refine ⟨_, heap_setCell_same _ _ _ _ _ _ h1, by simpa using h2, fun j y hy => ?_⟩
  rw [Array.getElem?_setIfInBounds]
  cases j with
  | zero =>
    simp only [List.getElem?_cons_zero, Option.some.injEq] at hy
    subst hy
    simp [h2, hk]
  | succ j =>
    simp only [List.getElem?_cons_succ] at hy
    rw [if_neg (by omega), show k + (j + 1) = k + 1 + j by omega]
    exact h3 j y hy

theorem DigAt.later {w w' : World} {g k : Nat} {ds : List Int} (h : DigAt w g k ds) (hb : w'.heap[g]? = w.heap[g]?) : DigAt w' g k ds := by
  obtain ⟨cs, h1, h2, h3⟩ := h
  exact ⟨cs, hb.trans h1, h2, h3⟩
theorem DigAt.cell {w : World} {g k : Nat} {ds : List Int} (h : DigAt w g k ds) {j : Nat} {x : Int} (hx : ds[j]? = some x) : w.cell? ⟨g, k + j, none⟩ = some (.int .u8 x) := by
  obtain ⟨cs, h1, h2, h3⟩ := h
  rw [cell_of_row _ _ _ _ _ _ h1]
  exact h3 j x hx
theorem DigAt.lt {w : World} {g k : Nat} {ds : List Int} (h : DigAt w g k ds) : g < w.heap.size := by
  obtain ⟨cs, h1, -, -⟩ := h
  exact lt_of_block h1
/-- The buffer's block is not the array's. -/
theorem own_ne {B : Nat} {v : Value} {n : Nat} {xs : List Value} {W0 w : World} {g k : Nat} {ds : List Int} (h : Lib.OwnBuf B 5 v n xs W0 w) (hd : DigAt w g k ds) : v.ownBlock ≠ some g := by
  obtain ⟨cs, h1, -, -⟩ := hd
  rcases h.1.2 with ⟨rfl, -⟩ | ⟨g2, cap, cur, fz, rfl, -, h2, -⟩
  · simp [Value.ownBlock]
  · intro e
    have e2 : g2 = g := by simpa [Value.ownBlock] using e
    subst e2
    rw [h1] at h2
    simp at h2
theorem own_set {B : Nat} {v : Value} {n : Nat} {xs : List Value} {W0 w : World} {g k : Nat} {ds : List Int} (h : Lib.OwnBuf B 5 v n xs W0 w) (hd : DigAt w g k ds) (hg : B ≤ g) (o : Nat) (u : Value) : Lib.OwnBuf B 5 v n xs W0 (w.setCell ⟨g, o, none⟩ u) := by
  have hne := own_ne h hd
  obtain ⟨h1, h2, h3⟩ := h
  refine ⟨⟨h1.1, ?_⟩, h2.setCell hg _, by simpa using h3⟩
  rcases h1.2 with hn | ⟨g2, cap, cur, fz, rfl, hb, hh, rest⟩
  · exact .inl hn
  · have hgg : g2 ≠ g := by simpa [Value.ownBlock] using hne
    exact .inr ⟨g2, cap, cur, fz, rfl, hb, by rw [heap_setCell_other _ _ _ _ hgg]; exact hh, rest⟩

/-- The second loop's. -/
structure DecInv (B : Nat) (xs ds : List Int) (p gd : Nat) (W0 : World) (u q : Value) (wr : World) : Prop where
  form : ∃ (j : Nat) (u' : Value), u' = u ∧ j ≤ ds.length ∧ q = .int .i64 ((p : Int) + j) ∧ Lib.OwnBuf B 5 u' (xs ++ ds.take j).length (u8s (xs ++ ds.take j)) W0 wr ∧ DigAt wr gd p ds

set_option maxRecDepth 100000 in
set_option maxHeartbeats 1600000 in
theorem appendDecimal_any (B : Nat) (v : Value) (xs : List Int) (k : Nat) (W0 w : World) (hb : Hid (Lib.OwnBuf B 5 v xs.length (u8s xs) W0 w)) (hk : k ≤ 1048576) (hx : xs.length ≤ 100000000000000) :
    Calls Trym.prog 22 #[v, .int .i64 k] w (DecPost B (xs ++ decB k) W0) := by
  obtain ⟨i5, hi5, hz5, hs5, hby5⟩ := info_parts Trym.info5
  have HI := hide hi5
  have HZ := hide hz5
  have HS := hide hs5
  have HBY := hide hby5
  clear hi5 hz5 hs5 hby5
  by_cases h0 : k = 0
  · subst h0
    go_enter Trym.func22, Trym.ntmps22
    go_wp2_with (at_builtin; refine Lib.wpList_append_byte rfl _ _ 47 rfl B 5 i5 Trym.underlying47 HI.out HZ.out HS.out HBY.out v xs.length (u8s xs) rfl W0 w 48 hb.out rfl (by omega) ?_; intro v' w' hb')
    have HB' := hide hb'
    clear hb'
    go_ret
    refine ⟨_, rfl, ?_⟩
    have e1 : xs ++ decB 0 = xs ++ [48] := rfl
    rw [e1, u8s_append, List.length_append]
    exact HB'.out
  have hkp : ¬ (k : Int) ≤ 0 := by omega
  go_enter Trym.func22, Trym.ntmps22
  go_wp2_with (first | (refine wpList_alloc_row rfl 50 rfl _ _ _ Trym.info50 ?_))
  obtain ⟨gd, hgd⟩ : ∃ g, g = w.heap.size := ⟨_, rfl⟩
  rw [← hgd]
  have hD0 : DigAt (w.alloc (.cells zs24 50)) gd 24 [] := ⟨_, by rw [hgd]; exact heap_alloc_new _ _, by simp [zs24], fun j x hx => by simp at hx⟩
  have HD0 := hide hD0
  have HB0 := hide (hb.out.alloc (.cells zs24 50))
  have hBg : B ≤ gd := by rw [hgd]; exact hb.out.2.2
  have hdl : (digs k).length ≤ 7 := digs_len 7 k (by omega)
  clear hgd
  go_loopw [1, 6] (fun t q wr => ∃ (m p : Nat) (ds : List Int), t = .int .i64 m ∧ q = .int .i64 p ∧ m ≤ k ∧ digs k = digs m ++ ds ∧ p + ds.length = 24 ∧ Lib.OwnBuf B 5 v xs.length (u8s xs) W0 wr ∧ DigAt wr gd p ds) (fun t _ _ => (intOf t).toNat)
  case atStart => exact ⟨k, 24, [], rfl, rfl, Nat.le_refl _, by simp, rfl, HB0.out, HD0.out⟩
  case round =>
    obtain ⟨m, p, ds, rfl, rfl, hmk, hdg, hpl, hown, hdat⟩ := hrel
    by_cases hm : m = 0
    · rw [hm, digs_zero, List.nil_append] at hdg
      have hm0 : (m : Int) = 0 := by omega
      rw [hm0]
      clear hm hm0 hmk
      have HDG := hide hdg
      have HOW := hide hown
      have HDA := hide hdat
      clear hdg hown hdat HD0 HB0
      go_wp2
      go_loopw [0, 6] (fun u q wr => DecInv B xs ds p gd W0 u q wr) (fun _ q _ => 24 - (intOf q).toNat)
      case atStart => exact ⟨0, _, rfl, Nat.zero_le _, by simp, by simpa using HOW.out, HDA.out⟩
      case round =>
        obtain ⟨⟨j, bv, rfl, hj, rfl, hown, hdat⟩⟩ := hrel
        by_cases hjl : j < ds.length
        · obtain ⟨x, hx1⟩ : ∃ x, ds[j]? = some x := ⟨_, List.getElem?_eq_getElem hjl⟩
          have hc := hdat.cell hx1
          have hlt1 : (p : Int) + (j : Int) < 24 := by omega
          have hi0 : (0 : Int) ≤ (p : Int) + (j : Int) := by omega
          have hnat : ((p : Int) + (j : Int)).toNat = p + j := by omega
          have HX1 := hide hx1
          have HOW2 := hide hown
          have HDA2 := hide hdat
          have hlen : (xs ++ ds.take j).length + 1 ≤ 140737488355328 := by simp; omega
          clear hown hdat hx1
          go_wp2_with (at_builtin; refine append_byte_kept rfl _ _ 47 rfl B 5 i5 Trym.underlying47 HI.out HZ.out HS.out HBY.out bv (xs ++ ds.take j).length (u8s (xs ++ ds.take j)) rfl W0 wr x HOW2.out rfl hlen ?_; intro v' w' hb' hgr)
          have HB' := hide hb'
          have HD' : Hid (DigAt w' gd p ds) := hide (HDA2.out.later ((hgr.block gd (by have := HDA2.out.lt; simp; omega) (Ne.symm (own_ne HOW2.out HDA2.out))).trans (heap_alloc_old _ _ HDA2.out.lt)))
          clear hb' hgr
          go_roundw
          case rel =>
            have htk : ds.take (j + 1) = ds.take j ++ [x] := by rw [List.take_add_one, HX1.out]; rfl
            refine ⟨⟨j + 1, _, rfl, by omega, by go_num, ?_, HD'.out⟩⟩
            rw [htk, ← List.append_assoc, u8s_append, List.length_append]
            exact HB'.out
          case measure => simp [intOf]; omega
        · obtain rfl : j = ds.length := by omega
          rw [List.take_length] at hown
          have HOW2 := hide hown
          clear hown hdat
          have hge : ¬ (p : Int) + (ds.length : Int) < 24 := by omega
          go_wp2
          go_ret
          refine ⟨_, rfl, ?_⟩
          have e1 : decB k = ds := by unfold decB; rw [if_neg h0, HDG.out]
          rw [e1]
          exact HOW2.out
    · obtain ⟨q, rfl⟩ : ∃ q, p = q + 1 := by
        refine ⟨p - 1, ?_⟩
        have hl := congrArg List.length hdg
        rw [List.length_append] at hl
        have hd1 : 0 < (digs m).length := by rw [digs_step hm]; simp
        omega
      have hdg2 : digs k = digs (m / 10) ++ ((48 + ((m % 10 : Nat) : Int)) :: ds) := by
        rw [hdg, digs_step hm]; simp
      have htm : ((m : Int).tmod 10) = ((m % 10 : Nat) : Int) := rfl
      have htd : ((m : Int).tdiv 10) = ((m / 10 : Nat) : Int) := rfl
      have hw8 : IntKind.u8.wrap (48 + ((m % 10 : Nat) : Int)) = 48 + ((m % 10 : Nat) : Int) := by rw [IntKind.wrap_u8]; omega
      have hmp : 0 < (m : Int) := by omega
      have hq0 : (0 : Int) ≤ (q : Int) := Int.natCast_nonneg _
      have hq1 : (q : Int) < 24 := by omega
      have HDA := hide hdat
      obtain ⟨cs, hcs, hcz, -⟩ := hdat
      have hfz : wr.frozen? ⟨gd, q, none⟩ = false := frozen_of_row _ _ _ _ _ hcs
      obtain ⟨old, hold⟩ : ∃ old, wr.cell? ⟨gd, q, none⟩ = some old := by
        rw [cell_of_row _ _ _ _ _ _ hcs]; exact ⟨_, Array.getElem?_eq_getElem (by omega)⟩
      have HOW := hide hown
      have HDG := hide hdg2
      rw [show ((q + 1 : Nat) : Int) = (q : Int) + 1 by omega]
      clear hdg hdg2 hown hcs hcz HD0 HB0 hD0
      go_wp2
      go_roundw
      case rel =>
        refine ⟨m / 10, q, (48 + ((m % 10 : Nat) : Int)) :: ds, ?_, ?_, by omega, HDG.out, by simp; omega, ?_, ?_⟩
        · rfl
        · go_num
        · exact own_set HOW.out HDA.out hBg _ _
        · exact HDA.out.step (by omega) _
      case measure => simp [intOf]; omega

end Go.Proofs.Qxb6600877aMods
