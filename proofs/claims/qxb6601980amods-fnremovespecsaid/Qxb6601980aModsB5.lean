import Derived.Test.Qxb6601980aModsB4
namespace Go.Proofs.Qxb6601980aMods
open Go.RowKit

theorem cloneTxs_any (a : Option Addr) (n c : Nat) (N : Nat → Nat) (w : World) (hnil : a = none → n = 0 ∧ c = 0) (hrow : TxsAt w a n N) (hn : n ≤ 1048576) (hN : ∀ i, i < n → N i ≤ 1048576) :
    Calls Trym.prog 11 #[.slice a n c] w (ClonedTxs w n N) := by
  cases a with
  | none => obtain ⟨rfl, rfl⟩ := hnil rfl; exact cloneTxs_nil N w
  | some ad => exact cloneTxs_some ad n c N w hrow hn hN

theorem TxsAt.later {w w' : World} {a : Option Addr} {n : Nat} {N : Nat → Nat} (h : TxsAt w a n N) (hb : Below w.heap.size w w') : TxsAt w' a n N := by
  intro i hi
  obtain ⟨b, off, x, y, ha, hc, hx, hby⟩ := h i hi
  exact ⟨b, off, x, y, ha, (hb.cell (block_lt_of_cell hc)).trans hc, hx, hby.later hb⟩

theorem TxsAt.heads {w : World} {a : Option Addr} {n : Nat} {N : Nat → Nat} (h : TxsAt w a n N) : ∀ i, i < n → ∃ b off a' c', a = some ⟨b, off, none⟩ ∧ w.cell? ⟨b, off + i, none⟩ = some (.slice a' (N i) c') := by
  intro i hi
  obtain ⟨b, off, x, y, ha, hc, -, -⟩ := h i hi
  exact ⟨b, off, x, y, ha, hc⟩

/-- The heads of a [][]byte: each a slice of the told length. -/
def HeadsAt (w : World) (a : Option Addr) (n : Nat) (N : Nat → Nat) : Prop := ∀ i, i < n → ∃ b off x y, a = some ⟨b, off, none⟩ ∧ w.cell? ⟨b, off + i, none⟩ = some (.slice x (N i) y)

theorem HeadsAt.later {w w' : World} {a : Option Addr} {n : Nat} {N : Nat → Nat} (h : HeadsAt w a n N) (hb : Below w.heap.size w w') : HeadsAt w' a n N := by
  intro i hi
  obtain ⟨b, off, x, y, ha, hc⟩ := h i hi
  exact ⟨b, off, x, y, ha, (hb.cell (block_lt_of_cell hc)).trans hc⟩

/-- The heads as a list of values: what an append takes over. -/
theorem HeadsAt.list {w : World} {a : Option Addr} {n : Nat} {N : Nat → Nat} (h : HeadsAt w a n N) :
    ∃ l : List Value, l.length = n ∧ (∀ ad, a = some ad → ∀ j u, l[j]? = some u → w.cell? (ad.add j) = some u) ∧ (∀ u ∈ l, u.oneCell' = true) ∧ ∀ i, i < n → ∃ x y, l[i]? = some (.slice x (N i) y) := by
  cases a with
  | none =>
    have hn : n = 0 := by
      rcases Nat.eq_zero_or_pos n with e | e
      · exact e
      · obtain ⟨_, _, _, _, h', _⟩ := h 0 e
        cases h'
    subst hn
    exact ⟨[], rfl, (fun _ h => by cases h), (fun _ h => by cases h), fun i hi => absurd hi (by omega)⟩
  | some ad =>
    refine ⟨(List.range n).map fun i => (w.cell? (ad.add i)).getD undef, by simp, ?_, ?_, ?_⟩
    · rintro ad' ⟨⟩ j u hu
      simp only [List.getElem?_map, Option.map_eq_some_iff] at hu
      obtain ⟨i, hi, rfl⟩ := hu
      have hj : j < n := by have := (List.getElem?_eq_some_iff.1 hi).1; simpa using this
      have : i = j := by simpa [hj] using hi.symm
      subst this
      obtain ⟨b, off, x, y, ha, hc⟩ := h i hj
      obtain rfl := Option.some.inj ha
      rw [Addr.add_lit, hc]
      rfl
    · intro u hu
      obtain ⟨i, hi, rfl⟩ := List.mem_map.1 hu
      obtain ⟨b, off, x, y, ha, hc⟩ := h i (by simpa using hi)
      obtain rfl := Option.some.inj ha
      rw [Addr.add_lit, hc]
      rfl
    · intro i hi
      obtain ⟨b, off, x, y, ha, hc⟩ := h i hi
      obtain rfl := Option.some.inj ha
      refine ⟨x, y, ?_⟩
      simp [hi, Addr.add_lit, hc]

theorem HeadsAt.of_owned {w : World} {base g n cap : Nat} {xs : List Value} {N : Nat → Nat} (h : w.ownsRow base 47 1 (.slice (some ⟨g, 0, none⟩) n cap) n xs) (hx : ∀ i, i < n → ∃ x y, xs[i]? = some (.slice x (N i) y)) :
    HeadsAt w (some ⟨g, 0, none⟩) n N := by
  intro i hi
  obtain ⟨x, y, e⟩ := hx i hi
  exact ⟨_, _, x, y, rfl, by rw [Nat.zero_add, h.cellAt i (by omega)]; exact e⟩

/-- Two functions laid end to end. -/
def joinN (n : Nat) (N M : Nat → Nat) (i : Nat) : Nat := if i < n then N i else M (i - n)

theorem sumN_congr {f g : Nat → Nat} {k : Nat} (h : ∀ i, i < k → f i = g i) : sumN f k = sumN g k := by
  induction k with
  | zero => rfl
  | succ k ih => simp only [sumN]; rw [ih (fun i hi => h i (by omega)), h k (by omega)]

theorem sumN_join (n : Nat) (N M : Nat → Nat) (m : Nat) : sumN (joinN n N M) (n + m) = sumN N n + sumN M m := by
  induction m with
  | zero => exact sumN_congr fun i hi => if_pos hi
  | succ m ih =>
    show sumN (joinN n N M) (n + m) + joinN n N M (n + m) = sumN N n + (sumN M m + M m)
    rw [ih]
    have : joinN n N M (n + m) = M m := by
      unfold joinN
      rw [if_neg (by omega), Nat.add_sub_cancel_left]
    omega

theorem heads_join {n m : Nat} {N M : Nat → Nat} {la lb : List Value} (hla : la.length = n) (ha : ∀ i, i < n → ∃ x y, la[i]? = some (.slice x (N i) y)) (hb : ∀ i, i < m → ∃ x y, lb[i]? = some (.slice x (M i) y)) :
    ∀ i, i < n + m → ∃ x y, (la ++ lb)[i]? = some (.slice x (joinN n N M i) y) := by
  intro i hi
  by_cases h : i < n
  · obtain ⟨x, y, e⟩ := ha i h
    exact ⟨x, y, by rw [List.getElem?_append_left (by omega), e]; simp [joinN, h]⟩
  · obtain ⟨x, y, e⟩ := hb (i - n) (by omega)
    exact ⟨x, y, by rw [List.getElem?_append_right (by omega), hla, e]; simp [joinN, h]⟩

theorem sumN_le {f : Nat → Nat} {k i : Nat} (h : i < k) : f i ≤ sumN f k := by
  have h1 : sumN f (i + 1) ≤ sumN f k := sumN_mono f h
  have h2 : sumN f (i + 1) = sumN f i + f i := rfl
  omega

/-- 'make([]T, 0, n)' of one-cell elements. -/
theorem make_zero {P : Program} {t e : TypeId} {z : Value} {bytes : Nat} (ht : P.underlying t = some (.slice e)) (hinfo : (P.info? e).map (fun i => (i.zero, i.size, i.bytes)) = some (some z, 1, bytes))
    (n : Nat) (hn : n ≤ 2097152) (hb : bytes ≤ 4096) (C : Int) (hC : C = n) (w : World) :
    (Instr.makeSlice t (.int .i64 0) (.int .i64 C)).run P w = .ok (.slice (some ⟨w.heap.size, 0, none⟩) 0 n) (w.alloc (.cells (madeCells z.cells n) e)) := by
  subst hC
  obtain ⟨i, hi, hz, hs, hby⟩ := info_parts hinfo
  have h1 : bytes * n ≤ 4096 * 2097152 := Nat.mul_le_mul hb hn
  have h2 : (i.bytes : Int) * (n : Int) ≤ 281474976710656 := by
    have h : ((i.bytes * n : Nat) : Int) ≤ 281474976710656 := by rw [hby]; omega
    rwa [Int.natCast_mul] at h
  have hr := run_make (P := P) w t e i z ht hi hz .i64 .i64 0 n (by omega) (by omega) h2 (by omega)
  simpa only [Int.toNat_natCast, Int.toNat_zero, hs, Nat.mul_one] using hr

theorem ret_true {b : Bool} (h : b = true) : Ending.returned (.bool b) = .returned (.bool true) := by rw [h]

set_option maxHeartbeats 800000 in
theorem batch_walk (a : Option Addr) (n c : Nat) (N : Nat → Nat) (b : Option Addr) (m d : Nat) (M : Nat → Nat) (w : World)
    (hna : Hid (a = none → n = 0 ∧ c = 0)) (ha : Hid (TxsAt w a n N)) (hnb : Hid (b = none → m = 0 ∧ d = 0)) (hb : Hid (TxsAt w b m M)) :
    Calls Trym.prog 3 #[.slice a n c, .slice b m d] w fun e w' => e = .returned (.bool true) ∧ Below w.heap.size w w' := by
  go_enter Trym.func3, Trym.ntmps3
  go_wp2_with fail
  refine (zzBatch_any a n c N b m d M w ha.out.heads hb.out.heads).mono ?_
  rintro e w' ⟨⟨ok, rfl, hok⟩, rfl⟩
  cases ok
  · clear hok
    go_wp2_with fail
    go_ret
    exact ⟨rfl, Below.refl _ _⟩
  have hle := hok rfl
  clear hok
  go_wp2_with fail
  refine (txsBytes_any a n c N _ ha.out.heads).mono ?_
  rintro e w' ⟨⟨t, ok, rfl, hok⟩, rfl⟩
  cases ok
  · clear hok
    go_wp2_with fail
    go_ret
    exact ⟨rfl, Below.refl _ _⟩
  obtain ⟨ht, hle1⟩ := hok rfl
  have ht0 : 0 ≤ t := by omega
  have ht1 : t ≤ 1048576 := by omega
  clear hok ht
  go_wp2_with fail
  refine (txsBytes_any b m d M _ hb.out.heads).mono ?_
  rintro e w' ⟨⟨t2, ok, rfl, hok⟩, rfl⟩
  cases ok
  · clear hok
    go_wp2_with fail
    go_ret
    exact ⟨rfl, Below.refl _ _⟩
  obtain ⟨ht, hle2⟩ := hok rfl
  have ht02 : 0 ≤ t2 := by omega
  have ht12 : t2 ≤ 1048576 := by omega
  clear hok ht
  by_cases hsum : (1048576 : Int) < t + t2
  · go_wp2_with fail
    go_ret
    exact ⟨rfl, Below.refl _ _⟩
  have hNa : ∀ i, i < n → N i ≤ 1048576 := fun i hi => by have := sumN_le (f := N) hi; omega
  have hMb : ∀ i, i < m → M i ≤ 1048576 := fun i hi => by have := sumN_le (f := M) hi; omega
  have HN : Hid (∀ i, i < n → N i ≤ 1048576) := hNa
  have HM : Hid (∀ i, i < m → M i ≤ 1048576) := hMb
  clear hNa hMb
  go_wp2_with fail
  refine (cloneTxs_any a n c N _ hna.out ha.out (by omega) HN.out).mono ?_
  rintro e w1 ⟨⟨a1, c1, rfl, hn1, hh1⟩, hb1⟩
  have HB1 : Hid (Below w'.heap.size w' w1) := hb1
  have Ha1 : Hid (HeadsAt w1 a1 n N) := hh1
  have Hn1 : Hid (a1 = none → n = 0 ∧ c1 = 0) := hn1
  clear hb1 hh1 hn1
  go_wp2_with fail
  refine (cloneTxs_any b m d M _ hnb.out (hb.out.later HB1.out) (by omega) HM.out).mono ?_
  rintro e w2 ⟨⟨b1, d1, rfl, hn1, hh1⟩, hb1⟩
  have HB2 : Hid (Below w1.heap.size w1 w2) := hb1
  have Hb1 : Hid (HeadsAt w2 b1 m M) := hh1
  have Ha2 : Hid (HeadsAt w2 a1 n N) := Ha1.out.later hb1
  have Hm1 : Hid (b1 = none → m = 0 ∧ d1 = 0) := hn1
  clear hb1 hh1 hn1
  have hmk := make_zero Trym.underlying22 Trym.info47 (n + m) (by omega) (by decide) ((n : Int) + (m : Int)) (by omega)
  obtain ⟨i, hi, -, hsz, -⟩ := info_parts Trym.info47
  have HI : Hid (Trym.prog.info? 47 = some i) := hi
  have HS : Hid (i.size = 1) := hsz
  clear hi hsz
  have hown0 := World.ownsRow_made (base := w2.heap.size) (e := 47) (size := 1) w2 (madeCells (Value.slice none 0 0).cells (n + m)) (n + m) (Nat.le_refl _) (by unfold maxLen; omega) (by rw [size_madeCells, Nat.mul_one])
  have HO : Hid ((w2.alloc (.cells (madeCells (Value.slice none 0 0).cells (n + m)) 47)).ownsRow w2.heap.size 47 1 (.slice (some ⟨w2.heap.size, 0, none⟩) 0 (n + m)) 0 []) := hown0
  clear hown0
  have Ha3 : HeadsAt (w2.alloc (.cells (madeCells (Value.slice none 0 0).cells (n + m)) 47)) a1 n N := Ha2.out.later ((Below.refl _ _).alloc (Nat.le_refl _) _)
  obtain ⟨la, hla, hlac, hla1, hlax⟩ := Ha3.list
  have HLC := hide hlac
  have HL1 := hide hla1
  have HLX := hide hlax
  clear Ha3 hlac hla1 hlax
  go_wp2_with (at_builtin; refine wpList_append_fits_any _ rfl _ _ 22 rfl w2.heap.size 47 i 1 Trym.underlying22 HI.out HS.out w2.heap.size 0 (n + m) [] rfl HO.out a1 n c1 la rfl (by rw [hla, Nat.mul_one]) Hn1.out HLC.out HL1.out (by omega) ?_)
  intro w3 hown3 hg3
  have HG3 : Hid (Below w2.heap.size w2 w3) := hide (((Below.refl _ _).alloc (Nat.le_refl _) _).grown hg3 (by simp) (fun k hk => by cases hk; exact Nat.le_refl _))
  have HO3 := hide hown3
  have Hb3 : HeadsAt w3 b1 m M := Hb1.out.later HG3.out
  obtain ⟨lb, hlb, hlbc, hlb1, hlbx⟩ := Hb3.list
  have HBC := hide hlbc
  have HB1' := hide hlb1
  have HBX := hide hlbx
  clear hown3 hg3 Hb3 hlbc hlb1 hlbx
  go_wp2_with (at_builtin; refine wpList_append_fits_any _ rfl _ _ 22 rfl w2.heap.size 47 i 1 Trym.underlying22 HI.out HS.out w2.heap.size n (n + m) la rfl HO3.out b1 m d1 lb rfl (by rw [hlb, Nat.mul_one]) Hm1.out HBC.out HB1'.out (by omega) ?_)
  intro w4 hown4 hg4
  have HG4 : Hid (Below w2.heap.size w2 w4) := hide (HG3.out.grown hg4 (by have := HG3.out.size; omega) (fun k hk => by cases hk; exact Nat.le_refl _))
  have HO4 := hide hown4
  clear hown4 hg4
  have Hab : Hid (HeadsAt w4 (some ⟨w2.heap.size, 0, none⟩) (n + m) (joinN n N M)) := HeadsAt.of_owned HO4.out (heads_join hla HLX.out HBX.out)
  have hown0 := World.ownsRow_made (base := w4.heap.size) (e := 47) (size := 1) w4 (madeCells (Value.slice none 0 0).cells (n + m)) (n + m) (Nat.le_refl _) (by unfold maxLen; omega) (by rw [size_madeCells, Nat.mul_one])
  have HO5 : Hid ((w4.alloc (.cells (madeCells (Value.slice none 0 0).cells (n + m)) 47)).ownsRow w4.heap.size 47 1 (.slice (some ⟨w4.heap.size, 0, none⟩) 0 (n + m)) 0 []) := hown0
  clear hown0 HO HO3 HO4 HLC HBC
  have Hb5 : HeadsAt (w4.alloc (.cells (madeCells (Value.slice none 0 0).cells (n + m)) 47)) b1 m M := (Hb1.out.later HG4.out).later ((Below.refl _ _).alloc (Nat.le_refl _) _)
  obtain ⟨lb2, hlb2, hlbc2, hlb12, hlbx2⟩ := Hb5.list
  have HBC2 := hide hlbc2
  have HB12 := hide hlb12
  have HBX2 := hide hlbx2
  clear Hb5 hlbc2 hlb12 hlbx2
  go_wp2_with (at_builtin; refine wpList_append_fits_any _ rfl _ _ 22 rfl w4.heap.size 47 i 1 Trym.underlying22 HI.out HS.out w4.heap.size 0 (n + m) [] rfl HO5.out b1 m d1 lb2 rfl (by rw [hlb2, Nat.mul_one]) Hm1.out HBC2.out HB12.out (by omega) ?_)
  intro w5 hown5 hg5
  have HG5 : Hid (Below w4.heap.size w4 w5) := hide (((Below.refl _ _).alloc (Nat.le_refl _) _).grown hg5 (by simp) (fun k hk => by cases hk; exact Nat.le_refl _))
  have HO6 := hide hown5
  have Ha5 : HeadsAt w5 a1 n N := (Ha2.out.later HG4.out).later HG5.out
  obtain ⟨la2, hla2, hlac2, hla12, hlax2⟩ := Ha5.list
  have HAC2 := hide hlac2
  have HA12 := hide hla12
  have HAX2 := hide hlax2
  clear hown5 hg5 Ha5 hlac2 hla12 hlax2
  go_wp2_with (at_builtin; refine wpList_append_fits_any _ rfl _ _ 22 rfl w4.heap.size 47 i 1 Trym.underlying22 HI.out HS.out w4.heap.size m (n + m) lb2 rfl HO6.out a1 n c1 la2 rfl (by rw [hla2, Nat.mul_one]) Hn1.out HAC2.out HA12.out (by omega) ?_)
  intro w6 hown6 hg6
  have HG6 : Hid (Below w4.heap.size w4 w6) := hide (HG5.out.grown hg6 (by have := HG5.out.size; omega) (fun k hk => by cases hk; exact Nat.le_refl _))
  have HO7 := hide hown6
  clear hown6 hg6
  have Hba : Hid (HeadsAt w6 (some ⟨w4.heap.size, 0, none⟩) (m + n) (joinN m M N)) := HeadsAt.of_owned HO7.out (heads_join hlb2 HBX2.out HAX2.out)
  have Hab6 : Hid (HeadsAt w6 (some ⟨w2.heap.size, 0, none⟩) (n + m) (joinN n N M)) := Hab.out.later HG6.out
  have Ha6 : Hid (HeadsAt w6 a1 n N) := (Ha2.out.later HG4.out).later HG6.out
  have Hb6 : Hid (HeadsAt w6 b1 m M) := (Hb1.out.later HG4.out).later HG6.out
  have hj1 := sumN_join n N M m
  have hj2 := sumN_join m M N n
  have HBW : Hid (Below w'.heap.size w' w6) := hide (((HB1.out.trans (HB2.out.mono HB1.out.size)).trans (HG4.out.mono (Nat.le_trans HB1.out.size HB2.out.size))).trans (HG6.out.mono (Nat.le_trans HB1.out.size (Nat.le_trans HB2.out.size HG4.out.size))))
  clear HO5 HO6 HO7 HBC2 HAC2 HG3 HG4 HG5 HG6 HB1 HB2 hmk
  go_wp2_with fail
  refine (zzBatchSize_any _ _ _ (joinN n N M) _ Hab6 (by omega) (by omega)).mono ?_
  rintro e w' ⟨rfl, rfl⟩
  go_wp2_with fail
  refine (zzBatchSize_any _ _ _ N _ Ha6 (by omega) (by omega)).mono ?_
  rintro e w7 ⟨rfl, rfl⟩
  go_wp2_with fail
  refine (zzBatchSize_any _ _ _ M _ Hb6 (by omega) (by omega)).mono ?_
  rintro e w8 ⟨rfl, rfl⟩
  go_wp2_with fail
  refine (zzBatchSize_any _ _ _ (joinN m M N) _ Hba (by omega) (by omega)).mono ?_
  rintro e w9 ⟨rfl, rfl⟩
  go_wp2_with fail
  go_ret
  exact ⟨ret_true (beq_iff_eq.2 (by omega)), HBW.out⟩

end Go.Proofs.Qxb6601980aMods
