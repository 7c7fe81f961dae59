import Derived.Test.Qxb6600877aModsM3
namespace Go.Proofs.Qxb6600877aMods
open Go.RowKit

def okT {α : Type} (_ : α) : Prop := True
def innerM (l : List RefP) : List (RefP × Value) := l.map fun x => (x, .bool true)
def outerM (ρ : ByteArray → Nat) (S : Idx) : List (ByteArray × Value) := (S.map (·.1)).map fun t => (t, .map (some (ρ t)))
theorem outerM_length (ρ : ByteArray → Nat) (S : Idx) : (outerM ρ S).length = S.length := by simp [outerM]
theorem innerM_length (l : List RefP) : (innerM l).length = l.length := by simp [innerM]
theorem putM_inner (x : RefP) (l : List RefP) : putM x (.bool true) (innerM l) = innerM (insR x l) := by
  induction l with
  | nil => rfl
  | cons y l ih =>
    simp only [innerM, List.map_cons, putM, insR] at *
    by_cases e : x = y
    · simp [e]
    · simp [e, ih]
theorem getM_inner (x : RefP) (l : List RefP) : getM x (innerM l) = some (.bool true) ↔ x ∈ l := by
  induction l with
  | nil => simp [innerM, getM]
  | cons y l ih =>
    simp only [innerM, List.map_cons, getM] at *
    by_cases e : x = y
    · simp [e]
    · simp [e, ih]
theorem getM_outer_some {ρ : ByteArray → Nat} {S : Idx} {t : ByteArray} (h : t ∈ S.map (·.1)) : getM t (outerM ρ S) = some (.map (some (ρ t))) := by
  unfold outerM
  generalize S.map (·.1) = L at h
  induction L with
  | nil => cases h
  | cons y l ih =>
    simp only [List.map_cons, getM]
    by_cases e : t = y
    · simp [e]
    · rw [if_neg e]; exact ih ((List.mem_cons.1 h).resolve_left e)
theorem getM_outer_none {ρ : ByteArray → Nat} {S : Idx} {t : ByteArray} (h : t ∉ S.map (·.1)) : getM t (outerM ρ S) = none := by
  rw [getM_none_iff]
  intro p hp
  obtain ⟨s, hs, rfl⟩ := List.mem_map.1 hp
  rintro rfl
  exact h hs

/-- The index in memory: the outer map in block r, the inner map of t in block ρ t; all from block B on. -/
structure IxR (w : World) (r B : Nat) (S : Idx) (ρ : ByteArray → Nat) : Prop where
  base : B ≤ r
  outer : MapIs w r okT strVal (outerM ρ S)
  inner : ∀ p ∈ S, B ≤ ρ p.1 ∧ ρ p.1 ≠ r ∧ MapIs w (ρ p.1) okT refVal (innerM p.2)
  inj : ∀ s ∈ S.map (·.1), ∀ t ∈ S.map (·.1), ρ s = ρ t → s = t
def IxAt (w : World) (r B : Nat) (S : Idx) : Prop := ∃ ρ, IxR w r B S ρ

theorem IxR.later {w w' : World} {r B : Nat} {S : Idx} {ρ : ByteArray → Nat} (h : IxR w r B S ρ) (hb : Below w.heap.size w w') : IxR w' r B S ρ :=
  ⟨h.base, h.outer.later hb, fun p hp => ⟨(h.inner p hp).1, (h.inner p hp).2.1, (h.inner p hp).2.2.later hb⟩, h.inj⟩
theorem IxAt.later {w w' : World} {r B : Nat} {S : Idx} (h : IxAt w r B S) (hb : Below w.heap.size w w') : IxAt w' r B S := by
  obtain ⟨ρ, h⟩ := h
  exact ⟨ρ, h.later hb⟩
theorem IxR.hit {w w1 : World} {r B : Nat} {S : Idx} {ρ : ByteArray → Nat} (h : IxR w r B S ρ) (hnd : (S.map (·.1)).Nodup) {t : ByteArray} {l : List RefP} (hl : (t, l) ∈ S) (x : RefP)
    (hm : MapIs w1 (ρ t) okT refVal (putM x (.bool true) (innerM l))) (ht : Turned (ρ t) w w1) : IxAt w1 r B (addI t x S) := by
  have htk : t ∈ S.map (·.1) := List.mem_map.2 ⟨_, hl, rfl⟩
  have ho : outerM ρ (addI t x S) = outerM ρ S := by unfold outerM; rw [addI_keys_in htk]
  refine ⟨ρ, h.base, ?_, ?_, by rw [addI_keys_in htk]; exact h.inj⟩
  · rw [ho]; exact h.outer.of_block (ht.block r (Ne.symm (h.inner _ hl).2.1))
  · intro p hp
    rcases (addI_mem hnd htk).1 hp with ⟨hp, hne⟩ | ⟨e1, l', hl', e2⟩
    · obtain ⟨h1, h2, h3⟩ := h.inner p hp
      exact ⟨h1, h2, h3.of_block (ht.block _ fun e => hne (h.inj _ (List.mem_map.2 ⟨p, hp, rfl⟩) _ htk e))⟩
    · obtain ⟨h1, h2, -⟩ := h.inner _ hl
      have hll : l' = l := by
        have a := getI_of_mem hnd hl
        have b := getI_of_mem hnd hl'
        simp only at a b
        rw [a] at b
        exact (Option.some.inj b).symm
      rw [e1, e2, hll]
      rw [putM_inner] at hm
      exact ⟨h1, h2, hm⟩
theorem IxR.new {w w2 : World} {r B g : Nat} {S : Idx} {ρ : ByteArray → Nat} (h : IxR w r B S ρ) {t : ByteArray} (htk : t ∉ S.map (·.1)) (x : RefP) (hB : B ≤ w.heap.size) (hg : w.heap.size ≤ g)
    (ho : MapIs w2 r okT strVal (putM t (.map (some g)) (outerM ρ S))) (hi : MapIs w2 g okT refVal (putM x (.bool true) [])) (hk : ∀ k, k < w.heap.size → k ≠ r → w2.heap[k]? = w.heap[k]?) : IxAt w2 r B (addI t x S) := by
  have hρ : ∀ p ∈ S, ρ p.1 < w.heap.size := fun p hp => (h.inner p hp).2.2.lt
  have hr := h.outer.lt
  rw [putM_new (getM_outer_none htk)] at ho
  rw [addI_new htk]
  refine ⟨fun s => if s = t then g else ρ s, h.base, ?_, ?_, ?_⟩
  · have : outerM (fun s => if s = t then g else ρ s) (S ++ [(t, [x])]) = outerM ρ S ++ [(t, .map (some g))] := by
      unfold outerM
      rw [List.map_append, List.map_append]
      congr 1
      · refine List.map_congr_left fun s hs => ?_
        have : s ≠ t := fun e => htk (e ▸ hs)
        simp [this]
      · simp
    rw [this]; exact ho
  · intro p hp
    rcases List.mem_append.1 hp with hp | hp
    · have hne : p.1 ≠ t := fun e => htk (List.mem_map.2 ⟨p, hp, e⟩)
      obtain ⟨h1, h2, h3⟩ := h.inner p hp
      simp only [hne, if_false]
      exact ⟨h1, h2, h3.of_block (hk _ (hρ p hp) h2)⟩
    · rw [List.mem_singleton.1 hp]
      simp only [if_true]
      exact ⟨by omega, by omega, hi⟩
  · have key : ∀ s ∈ (S ++ [(t, [x])]).map (·.1), s ≠ t → s ∈ S.map (·.1) := by
      intro s hs hne
      rw [List.map_append, List.mem_append] at hs
      rcases hs with hs | hs
      · exact hs
      · simp only [List.map_cons, List.map_nil, List.mem_singleton] at hs
        exact absurd hs hne
    have lt : ∀ s ∈ S.map (·.1), ρ s < w.heap.size := by
      intro s hs
      obtain ⟨p, hp, rfl⟩ := List.mem_map.1 hs
      exact hρ p hp
    intro s hs u hu e
    by_cases e1 : s = t
    · by_cases e2 : u = t
      · rw [e1, e2]
      · simp only [e1, if_true, e2, if_false] at e
        have := lt u (key u hu e2)
        omega
    · by_cases e2 : u = t
      · simp only [e1, if_false, e2, if_true] at e
        have := lt s (key s hs e1)
        omega
      · simp only [e1, e2, if_false] at e
        exact h.inj s (key s hs e1) u (key u hu e2) e

/-- A linked reference as a triple. -/
def lk (name : ByteArray) (q : RefP) : ByteArray × RefP := (q.2, (name, q.1))
theorem Trym.eqNil44 (w : World) (x : Option Nat) : (binOp .eql 44 (.map x) (.map none)).run Trym.prog w = .ok (.bool x.isNone) w := by
  exact run_eql_map_nil w _ _ _ x Trym.underlying44
attribute [local go_sem] Trym.eqNil44
theorem zero44 (w : World) : (zeroValue 44).run Trym.prog w = .ok (.map none) w := by kernel_rfl
theorem zero4 (w : World) : (zeroValue 4).run Trym.prog w = .ok (.bool false) w := by kernel_rfl

/-- What link leaves. -/
structure LinkPost (W0 : World) (r : Nat) (T : List (ByteArray × RefP)) (e : Ending) (w' : World) : Prop where
  form : e = .returned (.tuple #[])
  below : Below W0.heap.size W0 w'
  index : ∃ S, IxAt w' r W0.heap.size S ∧ IdxOk T S

set_option maxRecDepth 100000 in
set_option maxHeartbeats 1600000 in
theorem link_any (W0 : World) (r : Nat) (T : List (ByteArray × RefP)) (name : ByteArray) (a : Option Addr) (c : Nat) (qs : List RefP) (S : Idx) (w : World) (hrow : Hid (RefsAt W0 a qs)) (hn : qs.length ≤ 1048576) (hb : Hid (Below W0.heap.size W0 w)) (hix : Hid (IxAt w r W0.heap.size S)) (hok : Hid (IdxOk T S)) :
    Calls Trym.prog 23 #[.map (some r), .string name, .slice a qs.length c] w (LinkPost W0 r (T ++ qs.map (lk name))) := by
  have hmm := @run_makeMap Trym.prog
  go_enter Trym.func23, Trym.ntmps23
  go_wp2
  go_loopw [11] (fun i wr => ∃ k : Nat, k ≤ qs.length ∧ i = .int .i64 k ∧ Below W0.heap.size W0 wr ∧ ∃ S, IxAt wr r W0.heap.size S ∧ IdxOk (T ++ (qs.take k).map (lk name)) S) (fun i _ => qs.length - (intOf i).toNat)
  case atStart => exact ⟨0, Nat.zero_le _, rfl, hb.out, S, hix.out, by simpa using hok.out⟩
  case round =>
    obtain ⟨k, hk, rfl, hbel, S1, ⟨ρ, hR⟩, hI⟩ := hrel
    by_cases hlt : k < qs.length
    · obtain ⟨q, hq⟩ : ∃ q, qs[k]? = some q := ⟨_, List.getElem?_eq_getElem hlt⟩
      obtain ⟨b, off, rfl, c1, c2⟩ := hrow.out k q hq
      have d1 := (hbel.cell (block_lt_of_cell c1)).trans c1
      have d2 := (hbel.cell (block_lt_of_cell c2)).trans c2
      have hX := ((Below.refl wr.heap.size wr).alloc (Nat.le_refl _) (.cells #[.string q.1, .string q.2] 32))
      have hRX := hR.later hX
      have HTK : Hid ((qs.take (k + 1)).map (lk name) = (qs.take k).map (lk name) ++ [(q.2, (name, q.1))]) := by rw [List.take_add_one, hq, List.map_append]; rfl
      have HBX := hide (hbel.alloc hbel.size (.cells #[.string q.1, .string q.2] 32))
      have HRX := hide hRX
      have HI := hide hI
      have HOX := hide hRX.outer
      clear hR hI hX hRX hbel c1 c2 hq
      by_cases hin : q.2 ∈ S1.map (·.1)
      · have hg := getM_outer_some (ρ := ρ) hin
        have HG := hide hg
        obtain ⟨p, hp, hpe⟩ := List.mem_map.1 hin
        obtain ⟨pt, l⟩ := p
        simp only at hpe
        subst hpe
        have HP := hide hp
        have HIX := hide (HRX.out.inner _ hp).2.2
        clear hg hin hp hmm
        go_wp2_with (first | (at_lookup; refine wpList_lookup_val rfl 39 _ _ rfl keyStr Trym.underlying39 (zero44 _) r rfl q.2 trivial rfl HOX.out ?_; rw [HG.out]) | (at_mapUpdate; refine wpList_update rfl 44 _ _ _ rfl keyRef Trym.underlying44 (ρ q.2) rfl (name, q.1) trivial rfl (.bool true) rfl HIX.out ?_; intro w1 hm1 ht1))
        have hB1 : Below W0.heap.size W0 w1 := ht1.below HBX.out (HRX.out.inner _ HP.out).1
        have HIX1 := hide (HRX.out.hit HI.out.nodup HP.out (name, q.1) hm1 ht1)
        have HB1 := hide hB1
        clear hB1 hm1 ht1
        go_roundw
        case rel =>
          refine ⟨k + 1, by omega, by go_num, HB1.out, _, HIX1.out, ?_⟩
          rw [HTK.out, ← List.append_assoc]
          exact HI.out.add q.2 (name, q.1)
        case measure => simp [intOf]; omega
      · have HG := hide (getM_outer_none (ρ := ρ) hin)
        have HN := hide hin
        have hrlt : r < wr.heap.size + 1 := by have := HOX.out.lt; simpa using this
        have hrne0 : wr.heap.size ≠ r := by
          rintro rfl
          obtain ⟨es, cl, h1, -, -⟩ := HOX.out
          rw [heap_alloc_new] at h1
          cases h1
        have hrne1 : wr.heap.size + 1 ≠ r := by omega
        obtain ⟨X2, HX2⟩ : ∃ X2, Hid (X2 = (wr.alloc (.cells #[.string q.1, .string q.2] 32)).alloc (.map #[] 0)) := ⟨_, hide rfl⟩
        have hX2 : Below (wr.alloc (.cells #[.string q.1, .string q.2] 32)).heap.size (wr.alloc (.cells #[.string q.1, .string q.2] 32)) X2 := by rw [HX2.out]; exact (Below.refl _ _).alloc (Nat.le_refl _) _
        have HOX2 : Hid (MapIs ((wr.alloc (.cells #[.string q.1, .string q.2] 32)).alloc (.map #[] 0)) r okT strVal (outerM ρ S1)) := hide (by rw [← HX2.out]; exact HOX.out.later hX2)
        have HC : Hid (∀ w1, Turned r ((wr.alloc (.cells #[.string q.1, .string q.2] 32)).alloc (.map #[] 0)) w1 → w1.cell? ⟨wr.heap.size, 0, none⟩ = some (.string q.1)) := hide (fun w1 ht => by
          rw [World.cell?_of_block (ht.block wr.heap.size hrne0), cell_of_row _ _ _ _ _ _ (heap_alloc2_old _ _ _)]; rfl)
        have HMd : Hid (∀ w1, Turned r ((wr.alloc (.cells #[.string q.1, .string q.2] 32)).alloc (.map #[] 0)) w1 → MapIs w1 (wr.heap.size + 1) okT refVal []) := hide (fun w1 ht =>
          ⟨#[], 0, (ht.block _ hrne1).trans (heap_alloc2_new _ _ _), rfl, fun p hp => by cases hp⟩)
        have HR0 := hide (And.intro hrlt (And.intro hrne0 hrne1))
        clear hin hrlt hrne0 hrne1 hX2
        go_wp2_with (first | (at_lookup; refine wpList_lookup_val rfl 39 _ _ rfl keyStr Trym.underlying39 (zero44 _) r rfl q.2 trivial rfl HOX.out ?_; rw [HG.out]) | (at_mapUpdate; refine wpList_update rfl 39 _ _ _ rfl keyStr Trym.underlying39 r rfl q.2 trivial rfl (.map (some (wr.heap.size + 1))) rfl HOX2.out ?_; intro w1 hm1 ht1; have hd3 := HC.out _ ht1; have HM1 := hide hm1; have HT1 := hide ht1; clear hm1 ht1) | (at_mapUpdate; refine wpList_update rfl 44 _ _ _ rfl keyRef Trym.underlying44 (wr.heap.size + 1) rfl (name, q.1) trivial rfl (.bool true) rfl (HMd.out _ HT1.out) ?_; intro w2 hm2 ht2))
        have hB2 : Below W0.heap.size W0 w2 := by
          have h1 := HBX.out.size
          have h2 : (wr.alloc (.cells #[.string q.1, .string q.2] 32)).heap.size = wr.heap.size + 1 := by simp
          exact ht2.below (HT1.out.below (HBX.out.alloc HBX.out.size _) HRX.out.base) (by omega)
        have hix2 : IxAt w2 r W0.heap.size (addI q.2 (name, q.1) S1) := by
          have h1 := HBX.out.size
          have h2 : (wr.alloc (.cells #[.string q.1, .string q.2] 32)).heap.size = wr.heap.size + 1 := by simp
          refine HRX.out.new HN.out (name, q.1) h1 (g := wr.heap.size + 1) (by omega) ?_ hm2 ?_
          · exact HM1.out.of_block (ht2.block r (Ne.symm HR0.out.2.2))
          · intro k hk hkr
            rw [ht2.block k (by omega), HT1.out.block k hkr]
            exact heap_alloc_old _ _ hk
        have HB2 := hide hB2
        have HI2 := hide hix2
        clear hB2 hix2 hm2 ht2
        go_roundw
        case rel =>
          refine ⟨k + 1, by omega, by go_num, HB2.out, _, HI2.out, ?_⟩
          rw [HTK.out, ← List.append_assoc]
          exact HI.out.add q.2 (name, q.1)
        case measure => simp [intOf]; omega
    · obtain rfl : k = qs.length := by omega
      rw [List.take_length] at hI
      have HB1 := hide hbel
      have HR := hide hR
      have HI := hide hI
      clear hbel hR hI hmm
      go_wp2
      go_end0
      exact ⟨rfl, HB1.out, S1, ⟨ρ, HR.out⟩, HI.out⟩

end Go.Proofs.Qxb6600877aMods
