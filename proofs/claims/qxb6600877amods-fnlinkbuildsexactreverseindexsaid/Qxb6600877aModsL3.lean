import Derived.Test.Qxb6600877aModsL2
import Derived.Maps.AppendAt
import Derived.Deep.RegionLaw
namespace Go.Proofs.Qxb6600877aMods
open Go.RowKit

theorem Trym.info25 : (Trym.prog.info? 25).map (fun i => (i.zero, i.size, i.bytes)) = some (some (.slice none 0 0), 1, 24) := by kernel_rfl

/-- append onto an owned row, as one step of a region that draws. -/
theorem step_append_own {P : Program} {ops : Array Oper} {o : Oper} {a : Act} {w : World} {K : Act → World → Prop} {Q : Exit → Act → World → Prop} {E : Prop} (hgd : o.guard = none) (s x : Operand) (t : TypeId)
    (ho : o.op = .call { callee := .builtin .append, args := #[s, x], argTypes := #[t, t] })
    (base : Nat) (e : TypeId) (i : TypeInfo) (z : Value) (size bytes : Nat) (ht : P.underlying t = some (.slice e)) (hi : P.info? e = some i) (hz : i.zero = some z)
    (hsize : i.size = size) (hby : i.bytes = bytes) (hzs : z.cells.size = size) (hsz : 0 < size)
    (v : Value) (n : Nat) (xs : List Value) (hs : a.eval s = v) (hown : w.ownsRow base e size v n xs)
    (ad : Addr) (m c : Nat) (news : List Value) (hx : a.eval x = .slice (some ad) m c) (hl : news.length = m * size) (hnews : ∀ j u, news[j]? = some u → w.cell? (ad.add j) = some u) (h1 : ∀ u ∈ news, u.oneCell' = true)
    (h63 : n + m ≤ maxLen) (hbytes : (n + m) * bytes ≤ 140737488355328) (hbase : base ≤ w.heap.size)
    (h : ∀ v' w', w'.ownsRow base e size v' (n + m) (xs ++ news) → w.grownBy w' v.ownBlock → (v'.ownBlock = v.ownBlock ∨ v'.ownBlock = some w.heap.size) → K (a.put o.dst v') w') :
    if Region.wanted o (yielded ops a.tmps) = true then Oper.wp P o a w K Q else E := by
  have hw : Region.wanted o (yielded ops a.tmps) = true := by simp [Region.wanted, hgd]
  rw [if_pos hw]
  obtain ⟨v', w', hr, h2, h3, h4, h5⟩ := run_append_own_at (P := P) w base t o.type e i z size bytes ht hi hz hsize hby hzs hsz v n xs hown ad m c news hl hnews h1 h63 hbytes hbase
  unfold Oper.wp execOp
  simp only [ho, resolve, invoke, builtin, Sem.run_bind, Sem.run_pure, Result.andThen_ok, List.map_toArray, List.map_cons, List.map_nil, hs, hx, hr]
  exact h v' w' h2 h3 h5

theorem own_form {w : World} {base e size n : Nat} {v : Value} {xs : List Value} (h : w.ownsRow base e size v (n + 1) xs) : ∃ g cap, v = .slice (some ⟨g, 0, none⟩) (n + 1) cap := by
  rcases h.2 with ⟨-, h0⟩ | ⟨g, cap, cur, rfl, -⟩
  · exact absurd h0 (by omega)
  · exact ⟨g, cap, rfl⟩

theorem own_block {w w' : World} {base e size n : Nat} {v : Value} {xs : List Value} (h : w.ownsRow base e size v n xs) (hb : ∀ g, v.ownBlock = some g → w'.heap[g]? = w.heap[g]?) : w'.ownsRow base e size v n xs := by
  refine ⟨h.1, ?_⟩
  rcases h.2 with hn | ⟨g, cap, cur, rfl, h1, h2, rest⟩
  · exact .inl hn
  · exact .inr ⟨g, cap, cur, rfl, h1, (hb g rfl).trans h2, rest⟩

/-- The references of record k among the first j. -/
def recL (fs ts : List ByteArray) (os : List Int) (N j k : Nat) : List RefP := ((List.range j).filter (fun i => decide (ownO os N i = some k))).map (fun i => ((fs[i]?).getD ⟨#[]⟩, tgt ts i))
theorem recL_zero (fs ts : List ByteArray) (os : List Int) (N k : Nat) : recL fs ts os N 0 k = [] := rfl
theorem recL_in {fs ts : List ByteArray} {os : List Int} {N j k : Nat} {f : ByteArray} (h : ownO os N j = some k) (hf : fs[j]? = some f) : recL fs ts os N (j + 1) k = recL fs ts os N j k ++ [(f, tgt ts j)] := by
  simp [recL, List.range_succ, List.filter_append, h, hf]
theorem recL_out {fs ts : List ByteArray} {os : List Int} {N j k : Nat} (h : ownO os N j ≠ some k) : recL fs ts os N (j + 1) k = recL fs ts os N j k := by
  simp [recL, List.range_succ, List.filter_append, h]
theorem recL_length (fs ts : List ByteArray) (os : List Int) (N j k : Nat) : (recL fs ts os N j k).length ≤ j := by
  unfold recL
  rw [List.length_map]
  exact Nat.le_trans (List.length_filter_le _ _) (by simp)
theorem flatR_append (a b : List RefP) : flatR (a ++ b) = flatR a ++ flatR b := by simp [flatR]

/-- The records in memory. -/
structure RecsInv (G N : Nat) (R : Nat → List RefP) (wr : World) : Prop where
  form : ∃ vs : List Value, vs.length = N ∧ wr.heap[G]? = some (.cells vs.toArray 25 (0, 0)) ∧ (∀ k v, vs[k]? = some v → wr.ownsRow (G + 1) 32 2 v (R k).length (flatR (R k))) ∧ ∀ (k k' : Nat) (v v' : Value) (g : Nat), vs[k]? = some v → vs[k']? = some v' → v.ownBlock = some g → v'.ownBlock = some g → k = k'

/-- What buildRecords leaves. -/
structure RecsPost (w : World) (N : Nat) (R : Nat → List RefP) (e : Ending) (w' : World) : Prop where
  form : e = .returned (.slice (some ⟨w.heap.size, 0, none⟩) N N)
  recs : RecsInv w.heap.size N R w'
  below : Below w.heap.size w w'

theorem RecsInv.step {G N k : Nat} {R : Nat → List RefP} {wr w2 : World} (hG : G < wr.heap.size) {vs : List Value} (hl : vs.length = N) (hb : wr.heap[G]? = some (.cells vs.toArray 25 (0, 0))) (ho : ∀ k v, vs[k]? = some v → wr.ownsRow (G + 1) 32 2 v (R k).length (flatR (R k)))
    (hd : ∀ (k k' : Nat) (v v' : Value) (g : Nat), vs[k]? = some v → vs[k']? = some v' → v.ownBlock = some g → v'.ownBlock = some g → k = k') (hk : k < N) {v v' : Value} (hv : vs[k]? = some v) (q : RefP) {X : World} (hX : ∀ i, i < wr.heap.size → X.heap[i]? = wr.heap[i]?) (hXs : wr.heap.size ≤ X.heap.size)
    (hown : w2.ownsRow (G + 1) 32 2 v' ((R k).length + 1) (flatR (R k) ++ refCells q)) (hgb : X.grownBy w2 v.ownBlock) (hat : v'.ownBlock = v.ownBlock ∨ v'.ownBlock = some X.heap.size) (R' : Nat → List RefP) (hR1 : R' k = R k ++ [q]) (hR2 : ∀ i, i ≠ k → R' i = R i) :
    RecsInv G N R' (w2.setCell ⟨G, k, none⟩ v') := by
  have hkl : k < vs.length := by omega
  have hGv : some G ≠ v.ownBlock := fun e => by have := ((ho k v hv).lt G e.symm).1; omega
  have hGv' : some G ≠ v'.ownBlock := fun e => by have := (hown.lt G e.symm).1; omega
  have hb2 : w2.heap[G]? = some (.cells vs.toArray 25 (0, 0)) := by
    rw [hgb.block G (by omega) hGv, hX G hG]; exact hb
  have get : ∀ i u, (vs.set k v')[i]? = some u → (i = k ∧ u = v') ∨ (i ≠ k ∧ vs[i]? = some u) := by
    intro i u hu
    rw [List.getElem?_set] at hu
    by_cases e : k = i
    · rw [if_pos e, if_pos (by omega)] at hu
      exact Or.inl ⟨e.symm, (Option.some.inj hu).symm⟩
    · rw [if_neg e] at hu
      exact Or.inr ⟨fun h => e h.symm, hu⟩
  have keep : ∀ i u, i ≠ k → vs[i]? = some u → ∀ g, u.ownBlock = some g → (w2.setCell ⟨G, k, none⟩ v').heap[g]? = wr.heap[g]? := by
    intro i u hne hu g hg
    have hlt := (ho i u hu).lt g hg
    rw [heap_setCell_other _ _ _ _ (by show g ≠ G; omega), hgb.block g (by omega) (fun e => hne (hd i k u v g hu hv hg e.symm)), hX g hlt.2]
  refine ⟨vs.set k v', by simpa using hl, ?_, fun i u hu => ?_, fun i i' u u' g hu hu' hg hg' => ?_⟩
  · rw [heap_setCell_same _ _ _ _ _ _ hb2]; simp
  · rcases get i u hu with ⟨rfl, rfl⟩ | ⟨hne, hu1⟩
    · rw [hR1, List.length_append, flatR_append]
      refine own_block hown (fun g hg => ?_)
      exact heap_setCell_other _ _ _ _ (fun e => hGv' (by rw [hg]; exact congrArg some e.symm))
    · rw [hR2 i hne]
      exact own_block (ho i u hu1) (fun g hg => keep i u hne hu1 g hg)
  · rcases get i u hu with ⟨rfl, rfl⟩ | ⟨hne, hu1⟩
    · rcases get i' u' hu' with ⟨rfl, rfl⟩ | ⟨hne', hu1'⟩
      · rfl
      · have hlt := (ho i' u' hu1').lt g hg'
        rcases hat with e | e
        · exact hd i i' v u' g hv hu1' (by rw [← e]; exact hg) hg'
        · rw [hg] at e
          have : g = X.heap.size := Option.some.inj e
          omega
    · rcases get i' u' hu' with ⟨rfl, rfl⟩ | ⟨hne', hu1'⟩
      · have hlt := (ho i u hu1).lt g hg
        rcases hat with e | e
        · exact hd i i' u v g hu1 hv hg (by rw [← e]; exact hg')
        · rw [hg'] at e
          have : g = X.heap.size := Option.some.inj e
          omega
      · exact hd i i' u u' g hu1 hu1' hg hg'

set_option maxRecDepth 100000 in
set_option maxHeartbeats 6400000 in
theorem buildRecords_any (a : Option Addr) (c : Nat) (ns : List ByteArray) (a1 : Option Addr) (c1 : Nat) (fs : List ByteArray) (a2 : Option Addr) (c2 : Nat) (ts : List ByteArray) (a3 : Option Addr) (c3 : Nat) (os : List Int) (w : World)
    (hr1 : Hid (StrsAt w a1 fs)) (hr2 : Hid (StrsAt w a2 ts)) (hr3 : Hid (IntsAt w a3 os)) (hn : ns.length ≤ 1048576) (hm : fs.length ≤ 1048576) :
    Calls Trym.prog 16 #[.slice a ns.length c, .slice a1 fs.length c1, .slice a2 ts.length c2, .slice a3 os.length c3] w (RecsPost w ns.length (recL fs ts os ns.length fs.length)) := by
  have hmk := make_any Trym.underlying36 Trym.info25 ns.length hn (by decide)
  go_enter Trym.func16, Trym.ntmps16
  go_wp2
  go_loopw [10] (fun i wr => ∃ j : Nat, j ≤ fs.length ∧ i = .int .i64 j ∧ Below w.heap.size w wr ∧ RecsInv w.heap.size ns.length (recL fs ts os ns.length j) wr) (fun i _ => fs.length - (intOf i).toNat)
  case atStart =>
    refine ⟨0, Nat.zero_le _, rfl, (Below.refl _ _).alloc (Nat.le_refl _) _, ⟨List.replicate ns.length (.slice none 0 0), List.length_replicate, ?_, ?_, ?_⟩⟩
    · rw [heap_alloc_new]
      congr 2
      apply Array.ext'
      apply List.ext_getElem?
      intro i
      by_cases hi : i < ns.length
      · simp [madeCells, hi, Nat.mod_one]
      · rw [List.getElem?_eq_none (by simp [madeCells]; omega), List.getElem?_eq_none (by simp; omega)]
    · intro k v hv
      rw [List.getElem?_replicate] at hv
      split at hv
      · obtain rfl := Option.some.inj hv
        exact World.ownsRow_nil _ _ _ _
      · cases hv
    · intro k k' v v' g hv _ hg _
      rw [List.getElem?_replicate] at hv
      split at hv
      · obtain rfl := Option.some.inj hv
        simp [Value.ownBlock] at hg
      · cases hv
  case round =>
    obtain ⟨j, hj, rfl, hbel, ⟨vs, hvl, hvb, hvo, hvd⟩⟩ := hrel
    by_cases hlt : j < fs.length
    · obtain ⟨f, hf⟩ : ∃ f, fs[j]? = some f := ⟨_, List.getElem?_eq_getElem hlt⟩
      obtain ⟨b, off, rfl, hc⟩ := hr1.out j f hf
      have hcf := (hbel.cell (block_lt_of_cell hc)).trans hc
      have HB := hide hbel
      have HVL := hide hvl
      have HVB := hide hvb
      have HVO := hide hvo
      have HVD := hide hvd
      have HF := hide hf
      clear hbel hvl hvb hvo hvd hf hc hmk
      go_wp2_with fail
      refine (ownerAt_any a3 c3 os ns.length j wr (hr3.out.later HB.out)).mono ?_
      rintro e w1 ⟨rfl, rfl⟩
      cases hown : ownO os ns.length j with
      | none =>
        have HO := hide hown
        clear hown
        simp only [ownI]
        go_wp2_with fail
        go_roundw
        case rel =>
          refine ⟨j + 1, by omega, by go_num, HB.out, ⟨vs, HVL.out, HVB.out, fun k v hv => ?_, HVD.out⟩⟩
          rw [recL_out (by rw [HO.out]; exact fun h => by cases h)]
          exact HVO.out k v hv
        case measure => simp [intOf]; omega
      | some k =>
        have HO := hide hown
        have hkN : k < ns.length := ownO_lt hown
        clear hown
        simp only [ownI]
        have hk0 : (0 : Int) ≤ (k : Int) := Int.natCast_nonneg _
        have hk1 : (k : Int) < (ns.length : Int) := by omega
        have hkn0 : ¬ (k : Int) < 0 := by omega
        have hj0 : (0 : Int) ≤ (j : Int) := Int.natCast_nonneg _
        have hj1 : (j : Int) < (fs.length : Int) := by omega
        obtain ⟨v, hv⟩ : ∃ v, vs[k]? = some v := ⟨_, List.getElem?_eq_getElem (by rw [HVL.out]; exact hkN)⟩
        have hcv : w1.cell? ⟨w.heap.size, k, none⟩ = some v := by rw [cell_of_row _ _ _ _ _ _ HVB.out]; simpa using hv
        have hGlt : w.heap.size < w1.heap.size := lt_of_block HVB.out
        have hov := HVO.out k v hv
        obtain ⟨t, HT⟩ : ∃ t, Hid (t = tgt ts j) := ⟨_, hide rfl⟩
        have HOX : Hid (∀ y : World, y.heap = (w1.alloc (.cells #[.string f, .string t] 32)).heap → y.ownsRow (w.heap.size + 1) 32 2 v (recL fs ts os ns.length j k).length (flatR (recL fs ts os ns.length j k)) ∧ w.heap.size + 1 ≤ y.heap.size) := hide (fun y hy => by
          have h1 : (w1.alloc (.cells #[.string f, .string t] 32)).ownsRow (w.heap.size + 1) 32 2 v (recL fs ts os ns.length j k).length (flatR (recL fs ts os ns.length j k)) := hov.alloc _
          refine ⟨?_, by rw [hy]; simp; omega⟩
          unfold World.ownsRow at h1 ⊢
          rw [hy]; exact h1)
        have HNW : Hid (∀ y : World, y.heap = (w1.alloc (.cells #[.string f, .string t] 32)).heap → ∀ (i : Nat) (u : Value), (refCells (f, t))[i]? = some u → y.cell? ((⟨w1.heap.size, 0, none⟩ : Addr).add i) = some u) := hide (fun y hy i u hu => by
          rw [Addr.add_lit, Nat.zero_add]
          have : y.cell? ⟨w1.heap.size, i, none⟩ = (w1.alloc (.cells #[.string f, .string t] 32)).cell? ⟨w1.heap.size, i, none⟩ := World.cell?_of_block (by rw [hy])
          rw [this, World.cell?_alloc_at _ _ _ _ rfl]
          simpa [refCells] using hu)
        have HST : Hid (∀ y w' : World, y.heap = (w1.alloc (.cells #[.string f, .string t] 32)).heap → y.grownBy w' v.ownBlock → w'.cell? ⟨w.heap.size, k, none⟩ = some v ∧ w'.frozen? ⟨w.heap.size, k, none⟩ = false) := hide (fun y w' hy hg => by
          have hb1 : w'.heap[w.heap.size]? = w1.heap[w.heap.size]? := by
            rw [hg.block w.heap.size (by rw [hy]; simp; omega) (fun e => by have := (hov.lt w.heap.size e.symm).1; omega), hy]
            exact heap_alloc_old _ _ hGlt
          exact ⟨(World.cell?_of_block hb1).trans hcv, (World.frozen?_of_block hb1).trans (frozen_of_row _ _ _ _ _ HVB.out)⟩)
        have HV := hide hv
        have HOV := hide hov
        have hlen1 : (recL fs ts os ns.length j k).length ≤ 1048576 := Nat.le_trans (recL_length _ _ _ _ _ _) (by omega)
        obtain ⟨i32, hi32, hz32, hs32, hby32⟩ := info_parts Trym.info32
        have HI := hide hi32
        have HZ := hide hz32
        have HS := hide hs32
        have HBY := hide hby32
        clear hi32 hz32 hs32 hby32 hv hov
        go_wp2_with fail
        go_region_law (first | (refine step_append_own rfl _ _ 25 rfl (w.heap.size + 1) 32 i32 _ 2 32 Trym.underlying25 HI.out HZ.out HS.out HBY.out rfl (by decide) v (recL fs ts os ns.length j k).length (flatR (recL fs ts os ns.length j k)) rfl (HOX.out _ rfl).1 ⟨w1.heap.size, 0, none⟩ 1 1 (refCells (f, t)) rfl rfl (HNW.out _ rfl) (by intro u hu; simp [refCells] at hu; rcases hu with rfl | rfl <;> rfl) (by simp only [maxLen]; omega) (by omega) (HOX.out _ rfl).2 ?_; intro v' w2 hown hgb hat; obtain ⟨g', cap', rfl⟩ := own_form hown; obtain ⟨hst1, hst2⟩ := HST.out _ _ (by rfl) hgb) | (go_simp; go_at_call 19; refine (targetAt_any a2 c2 ts j _ (hr2.out.later (by first | exact HB.out.drew | exact HB.out))).mono ?_; rw [← HT.out]; rintro e w3 ⟨rfl, rfl⟩; go_wp2_with fail))
        all_goals (
          have HO2 := hide hown
          have HG2 := hide hgb
          have HA2 := hide hat
          clear hown hgb hat hst1 hst2)
        all_goals (
          go_wp2_with fail
          go_roundw)
        case' measure => (simp [intOf]; omega)
        case' measure => (simp [intOf]; omega)
        case' measure => (simp [intOf]; omega)
        case' measure => (simp [intOf]; omega)
        case' measure => (simp [intOf]; omega)
        case' measure => (simp [intOf]; omega)
        case' measure => (simp [intOf]; omega)
        case' measure => (simp [intOf]; omega)
        all_goals
          refine ⟨j + 1, by omega, by go_num, ?_, ?_⟩
          · refine (Below.grown (HB.out.alloc HB.out.size _).drew HG2.out (by have := HB.out.size; simp; omega) (fun i hi => ?_)).setCell (Nat.le_refl _) _
            have := (HOV.out.lt i hi).1
            omega
          · refine RecsInv.step hGlt HVL.out HVB.out HVO.out HVD.out hkN HV.out (f, t) (X := (w1.alloc (.cells #[.string f, .string t] 32)).drew) (fun i hi => heap_alloc_old _ _ hi) (by simp) HO2.out HG2.out HA2.out _ ?_ (fun i hi => ?_)
            · rw [recL_in HO.out HF.out, HT.out]
            · exact recL_out (by rw [HO.out]; exact fun h => hi (Option.some.inj h).symm)
    · obtain rfl : j = fs.length := by omega
      have HB := hide hbel
      have HV : Hid (RecsInv w.heap.size ns.length (recL fs ts os ns.length fs.length) wr) := hide ⟨vs, hvl, hvb, hvo, hvd⟩
      clear hbel hvl hvb hvo hvd hmk
      go_wp2
      go_ret
      exact ⟨rfl, HV.out, HB.out⟩

end Go.Proofs.Qxb6600877aMods
