import Derived.Test.Qxb6600877aModsA3
namespace Go.Proofs.Qxb6600877aMods
open Go.RowKit

theorem zzSame_at (a : Option Addr) (n c : Nat) (rs : List RefP) (b : Option Addr) (m d : Nat) (qs : List RefP) (w : World) (hrow : RefsAt w a rs) (hrow2 : RefsAt w b qs) (hn : rs.length = n) (hm : qs.length = m) (hb : n ≤ 1048576) :
    Calls Trym.prog 10 #[.slice a n c, .slice b m d] w fun e w' => e = .returned (.bool (decide (rs = qs))) ∧ Below w.heap.size w w' := by
  subst hn hm
  refine (zzSame_any a c rs b d qs w hrow hrow2 hb).mono ?_
  rintro e w' ⟨rfl, m, rfl⟩
  exact ⟨rfl, below_drewN (Below.refl _ _) m⟩

theorem flatR_setF {rs : List RefP} {i : Nat} {r : RefP} (h : rs[i]? = some r) (f : ByteArray) : (flatR rs).set (i * 2) (.string f) = flatR (rs.set i (f, r.2)) := by
  have hi := (List.getElem?_eq_some_iff.1 h).1
  rw [← flatR_set (f, r.2) hi]
  obtain ⟨-, h2⟩ := flatR_get h
  apply List.ext_getElem?
  intro j
  simp only [List.getElem?_set]
  by_cases hj : i * 2 + 1 = j
  · subst hj
    rw [if_pos rfl, if_neg (by omega), h2, if_pos (by simp [flatR_length]; omega)]
  · rw [if_neg hj]
theorem flatR_setT {rs : List RefP} {i : Nat} {r : RefP} (h : rs[i]? = some r) (t : ByteArray) : (flatR rs).set (i * 2 + 1) (.string t) = flatR (rs.set i (r.1, t)) := by
  have hi := (List.getElem?_eq_some_iff.1 h).1
  rw [← flatR_set (r.1, t) hi]
  obtain ⟨h1, -⟩ := flatR_get h
  apply List.ext_getElem?
  intro j
  simp only [List.getElem?_set]
  by_cases hj : i * 2 + 1 = j
  · subst hj
    rw [if_pos rfl, if_pos rfl]
    simp [flatR_length]
  · rw [if_neg hj, if_neg hj]
    by_cases hk : i * 2 = j
    · subst hk
      rw [if_pos rfl, h1, if_pos (by rw [flatR_length]; omega)]
    · rw [if_neg hk]
theorem RefRow.setF {w : World} {g : Nat} {rs : List RefP} (h : RefRow w g rs) {i : Nat} {r : RefP} (hr : rs[i]? = some r) (f : ByteArray) : RefRow (w.setCell ⟨g, i * 2, none⟩ (.string f)) g (rs.set i (f, r.2)) := by
  unfold RefRow
  rw [heap_setCell_same _ _ _ _ _ _ h, ← flatR_setF hr f]
  simp
theorem RefRow.setT {w : World} {g : Nat} {rs : List RefP} (h : RefRow w g rs) {i : Nat} {r : RefP} (hr : rs[i]? = some r) (t : ByteArray) : RefRow (w.setCell ⟨g, i * 2 + 1, none⟩ (.string t)) g (rs.set i (r.1, t)) := by
  unfold RefRow
  rw [heap_setCell_same _ _ _ _ _ _ h, ← flatR_setT hr t]
  simp

theorem set_same_iff {rs : List RefP} {i : Nat} {r : RefP} (hr : rs[i]? = some r) (q : RefP) : rs = rs.set i q ↔ q = r := by
  have hi := (List.getElem?_eq_some_iff.1 hr).1
  constructor
  · intro h
    have h1 : rs[i]? = (rs.set i q)[i]? := by rw [← h]
    rw [hr, List.getElem?_set, if_pos rfl, if_pos hi] at h1
    exact (Option.some.inj h1).symm
  · rintro rfl
    apply List.ext_getElem?
    intro j
    rw [List.getElem?_set]
    by_cases hj : i = j
    · subst hj; rw [if_pos rfl, if_pos hi, hr]
    · rw [if_neg hj]
theorem hash_ne (t : ByteArray) : t ++ (⟨#[35]⟩ : ByteArray) ≠ t := by
  intro h
  have := congrArg ByteArray.size h
  rw [ByteArray.size_append] at this
  have h1 : ByteArray.size ⟨#[35]⟩ = 1 := rfl
  omega

set_option maxRecDepth 100000 in
set_option maxHeartbeats 1600000 in
theorem reflexive_walk (a : Option Addr) (c : Nat) (fs : List ByteArray) (b : Option Addr) (d : Nat) (ts : List ByteArray) (iv : Int) (nt nf : ByteArray) (w : World) (hrow : Hid (StrsAt w a fs)) (hrow2 : Hid (StrsAt w b ts)) :
    Calls Trym.prog 4 #[.slice a fs.length c, .slice b ts.length d, .int .i64 iv, .string nt, .string nf] w fun e w' => e = .returned (.bool true) ∧ Below w.heap.size w w' := by
  go_enter Trym.func4, Trym.ntmps4
  go_wp2_with fail
  refine (zzReflexive_any _ a c fs b d ts nt nf w hrow hrow2).mono ?_
  rintro e w' ⟨⟨ok, rfl, hok⟩, rfl⟩
  cases ok
  · clear hok
    go_wp2_with fail
    go_ret
    exact ⟨rfl, Below.refl _ _⟩
  have hle := hok rfl
  have hn : fs.length ≤ 1048576 := by omega
  have hm : ts.length ≤ 1048576 := by omega
  have hnt : nt.size ≤ 1048576 := by omega
  have hnf : nf.size ≤ 1048576 := by omega
  have HSf : Hid (∀ s ∈ fs, s.size ≤ 1048576) := hide (fun s hs => by have := sumS_mem hs; omega)
  have HSt : Hid (∀ s ∈ ts, s.size ≤ 1048576) := hide (fun s hs => by have := sumS_mem hs; omega)
  clear hok hle
  go_wp2_with fail
  refine (bytesOfStrings_any 0 a c fs w' (by decide) (by decide) hrow hn HSf).mono ?_
  rintro e w1 ⟨⟨v1, rfl, p1, q1⟩, rfl⟩
  go_wp2_with fail
  refine (bytesOfStrings_any v1 b d ts w1 p1 q1 hrow2 hm HSt).mono ?_
  rintro e w2 ⟨⟨v2, rfl, p2, q2⟩, rfl⟩
  go_wp2_with fail
  refine (bytesOfString_any v2 nt w2 p2 q2 hnt).mono ?_
  rintro e w3 ⟨⟨v3, rfl, p3, q3⟩, rfl⟩
  go_wp2_with fail
  refine (bytesOfString_any v3 nf w3 p3 q3 hnf).mono ?_
  rintro e w4 ⟨⟨v4, rfl, p4, q4⟩, rfl⟩
  clear p1 q1 p2 q2 p3 q3 p4 q4
  by_cases hv : (1048576 : Int) < v4
  · go_wp2_with fail
    go_ret
    exact ⟨rfl, Below.refl _ _⟩
  obtain ⟨rs, HRS⟩ : ∃ rs, Hid (rs = refsL fs ts) := ⟨_, rfl⟩
  have hrl : rs.length = fs.length := by rw [HRS.out, refsL_length]

  go_wp2_with fail
  refine (refsOf_any a c fs b d ts w4 hrow hrow2 hn).mono ?_
  rw [← HRS.out]
  rintro e wA ⟨rfl, hA, hbA⟩
  obtain ⟨ga, hga⟩ : ∃ g, g = w4.heap.size := ⟨_, rfl⟩
  rw [← hga] at hA ⊢
  have HA := hide hA
  have HBA := hide hbA
  clear hA hbA hga
  go_wp2_with fail
  refine (refsOf_any a c fs b d ts wA (hrow.out.later HBA.out) (hrow2.out.later HBA.out) hn).mono ?_
  rw [← HRS.out]
  rintro e wC ⟨rfl, hC, hbC⟩
  obtain ⟨gc, hgc⟩ : ∃ g, g = wA.heap.size := ⟨_, rfl⟩
  rw [← hgc] at hC ⊢
  have HC := hide hC
  have HP := hide hbC
  clear hC hbC hgc
  go_wp2_with fail
  refine (zzSame_at _ _ _ rs _ _ _ rs wC (HA.out.later HP.out).refs HC.out.refs hrl hrl hn).mono ?_
  rintro e w5 ⟨rfl, hb5⟩
  rw [show decide (rs = rs) = true from decide_eq_true rfl]
  have HC5 := hide (HC.out.later hb5)
  have HP5 := hide (HP.out.trans (hb5.mono HP.out.size))
  clear hb5
  go_wp2_with fail
  refine (zzSame_at _ _ _ rs _ _ _ rs w5 HC5.out.refs (HA.out.later HP5.out).refs hrl hrl hn).mono ?_
  rintro e w6 ⟨rfl, hb6⟩
  rw [show decide (rs = rs) = true from decide_eq_true rfl]
  have HP6 := hide (HP5.out.trans (hb6.mono HP5.out.size))
  clear hb6 HC HC5
  go_wp2_with fail
  refine (zzSame_at _ _ _ [] _ _ _ [] w6 RefsAt.nil RefsAt.nil rfl rfl (by decide)).mono ?_
  rintro e w7 ⟨rfl, hb7⟩
  rw [show decide (([] : List RefP) = []) = true from rfl]
  have HP7 := hide (HP6.out.trans (hb7.mono HP6.out.size))
  clear hb7
  go_wp2_with fail
  refine (zzSame_at _ _ _ [] _ _ _ [] w7 RefsAt.nil RefsAt.nil rfl rfl (by decide)).mono ?_
  rintro e w8 ⟨rfl, hb8⟩
  rw [show decide (([] : List RefP) = []) = true from rfl]
  have HP8 := hide (HP7.out.trans (hb8.mono HP7.out.size))
  clear hb8
  go_wp2_with fail
  refine (refsOf_any a c fs b d ts w8 (hrow.out.later (HBA.out.trans (HP8.out.mono HBA.out.size))) (hrow2.out.later (HBA.out.trans (HP8.out.mono HBA.out.size))) hn).mono ?_
  rw [← HRS.out]
  rintro e w9 ⟨rfl, hL, hb9⟩
  obtain ⟨gl, hgl⟩ : ∃ g, g = w8.heap.size := ⟨_, rfl⟩
  rw [← hgl] at hL ⊢
  have HP9 := hide (HP8.out.trans (hb9.mono HP8.out.size))
  have HL := hide hL
  have hgl2 : wA.heap.size ≤ gl := by rw [hgl]; exact HP8.out.size
  clear hL hb9 hgl
  obtain ⟨i32, hi32, hz32, hs32, hby32⟩ := info_parts Trym.info32
  have HI := hide hi32
  have HZ := hide hz32
  have HS := hide hs32
  have HBY := hide hby32
  clear hi32 hz32 hs32 hby32
  have hLX := HL.out.later ((Below.refl w9.heap.size w9).alloc (Nat.le_refl _) (.cells #[.string ⟨#[]⟩, .string ⟨#[]⟩] 32))
  have HO : Hid ((w9.alloc (.cells #[.string ⟨#[]⟩, .string ⟨#[]⟩] 32)).ownsRow wA.heap.size 32 2 (.slice (some ⟨gl, 0, none⟩) fs.length fs.length) fs.length (flatR rs)) :=
    hide ⟨by rw [flatR_length, hrl], .inr ⟨gl, fs.length, (flatR rs).toArray, rfl, hgl2, hLX, Nat.le_refl _, Nat.le_trans hn (by decide), by simp [flatR_length, hrl], by rw [← hrl, ← flatR_length]; simp⟩⟩
  have HNW : Hid (∀ j u, ([.string ⟨#[]⟩, .string ⟨#[]⟩] : List Value)[j]? = some u → (w9.alloc (.cells #[.string ⟨#[]⟩, .string ⟨#[]⟩] 32)).cell? ((⟨w9.heap.size, 0, none⟩ : Addr).add j) = some u) := hide (fun j u hj => by
    rw [Addr.add_lit, Nat.zero_add, World.cell?_alloc_at _ _ _ _ rfl]
    simpa using hj)
  clear hLX
  go_wp2_with (at_builtin; refine wpList_append_own _ rfl _ _ 25 rfl wA.heap.size 32 i32 _ 2 32 Trym.underlying25 HI.out HZ.out HS.out HBY.out rfl (by decide) (.slice (some ⟨gl, 0, none⟩) fs.length fs.length) fs.length (flatR rs) rfl HO.out ⟨w9.heap.size, 0, none⟩ 1 1 [.string ⟨#[]⟩, .string ⟨#[]⟩] rfl rfl HNW.out (by intro u hu; simp at hu; rw [hu]; rfl) (by simp only [maxLen]; omega) (by omega) (by have := HP9.out.size; simp; omega) ?_; intro v' w10 hown hgb _hnil)
  obtain ⟨-, hown2⟩ := hown
  rcases hown2 with ⟨-, h0⟩ | ⟨g2, cap2, cur, rfl, -, -, -, -, -, -⟩
  · exact absurd h0 (by omega)
  have HP10 : Hid (Below wA.heap.size wA w10) := hide (Below.grown (HP9.out.alloc HP9.out.size _) hgb (by have := HP9.out.size; simp; omega) (fun k hk => by
    have : gl = k := by simpa [Value.ownBlock] using hk
    omega))
  clear hgb HO HNW HL
  go_wp2_with fail
  refine (zzSame_len _ _ _ _ _ _ w10 (by show fs.length ≠ fs.length + 1; omega)).mono ?_
  rintro e w11 ⟨rfl, rfl⟩
  go_wp2_with fail
  refine (zzSame_len _ _ _ _ _ _ w11 (by show fs.length + 1 ≠ fs.length; omega)).mono ?_
  rintro e w12 ⟨rfl, rfl⟩
  have HBE : Hid (Below w4.heap.size w4 w12) := hide (HBA.out.trans (HP10.out.mono HBA.out.size))
  by_cases hi0 : iv < 0
  · go_wp2_with fail
    go_ret
    exact ⟨rfl, HBE.out⟩
  by_cases hi1 : (fs.length : Int) ≤ iv
  · go_wp2_with fail
    go_ret
    exact ⟨rfl, HBE.out⟩
  obtain ⟨i, rfl⟩ : ∃ i : Nat, iv = (i : Int) := ⟨iv.toNat, by omega⟩
  have hin : i < fs.length := by omega
  have hii : (i : Int) < (fs.length : Int) := by omega
  have hi00 : (0 : Int) ≤ (i : Int) := Int.natCast_nonneg _
  have hilt : i ≤ fs.length := by omega
  have hiil : (i : Int) ≤ (fs.length : Int) := by omega
  clear hi0 hi1
  go_wp2_with fail
  refine (zzSame_len _ _ _ _ _ _ w12 (by show i ≠ fs.length; omega)).mono ?_
  rintro e w13 ⟨rfl, rfl⟩
  go_wp2_with fail
  refine (zzSame_len _ _ _ _ _ _ w13 (by show fs.length ≠ i; omega)).mono ?_
  rintro e w14 ⟨rfl, rfl⟩
  obtain ⟨r, hr⟩ : ∃ r, rs[i]? = some r := ⟨_, List.getElem?_eq_getElem (by omega)⟩
  have hr1 : r.1.size ≤ 1048576 := by
    obtain ⟨f, hf⟩ : ∃ f, fs[i]? = some f := ⟨_, List.getElem?_eq_getElem hin⟩
    rw [HRS.out, refsL_get hf] at hr
    obtain rfl := Option.some.inj hr
    exact HSf.out f (List.mem_of_getElem? hf)
  have hr2 : r.2.size ≤ 1048576 := by
    obtain ⟨f, hf⟩ : ∃ f, fs[i]? = some f := ⟨_, List.getElem?_eq_getElem hin⟩
    rw [HRS.out, refsL_get hf] at hr
    obtain rfl := Option.some.inj hr
    cases ht : ts[i]? with
    | none => exact (by decide : ByteArray.size ⟨#[]⟩ ≤ 1048576)
    | some t => exact HSt.out t (List.mem_of_getElem? ht)
  have HR := hide hr
  clear hr
  go_wp2_with fail
  refine (refsOf_any a c fs b d ts w14 (hrow.out.later HBE.out) (hrow2.out.later HBE.out) hn).mono ?_
  rw [← HRS.out]
  rintro e wx20 ⟨rfl, hX20, hbx20⟩
  obtain ⟨gx20, hgx20⟩ : ∃ g, g = w14.heap.size := ⟨_, rfl⟩
  rw [← hgx20] at hX20 ⊢
  have hgA20 : wA.heap.size ≤ gx20 := by rw [hgx20]; exact HP10.out.size
  have hpx20 : Below wA.heap.size wA wx20 := HP10.out.trans (hbx20.mono HP10.out.size)
  have hc20 := (hX20.get HR.out).2
  have hf20 : wx20.frozen? ⟨gx20, i * 2 + 1, none⟩ = false := frozen_of_row _ _ _ _ _ hX20
  obtain ⟨Y20, HY20⟩ : ∃ Y, Hid (Y = wx20.setCell ⟨gx20, i * 2 + 1, none⟩ (.string (r.2 ++ (⟨#[35]⟩ : ByteArray)))) := ⟨_, rfl⟩
  have HXY20 : Hid (RefRow Y20 gx20 (rs.set i (r.1, r.2 ++ (⟨#[35]⟩ : ByteArray)))) := hide (by rw [HY20.out]; exact hX20.setT HR.out (r.2 ++ (⟨#[35]⟩ : ByteArray)))
  have HPY20 : Hid (Below wA.heap.size wA Y20) := hide (by rw [HY20.out]; exact hpx20.setCell hgA20 _)
  clear hX20 hbx20 hgx20 hpx20 hgA20
  go_wp2_with fail
  rw [← HY20.out]
  refine (zzSame_at _ _ _ rs _ _ _ (rs.set i (r.1, r.2 ++ (⟨#[35]⟩ : ByteArray))) Y20 (HA.out.later HPY20.out).refs HXY20.out.refs hrl (by rw [List.length_set, hrl]) hn).mono ?_
  have hno20 : ¬ rs = rs.set i (r.1, r.2 ++ (⟨#[35]⟩ : ByteArray)) := fun h => hash_ne r.2 (congrArg (·.2) ((set_same_iff HR.out _).1 h))
  rintro e w20a ⟨rfl, hb20a⟩
  rw [decide_eq_false hno20]
  have HP20a := hide (HPY20.out.trans (hb20a.mono HPY20.out.size))
  have HX20a := hide (HXY20.out.later hb20a)
  clear hb20a hno20 hc20 hf20
  go_wp2_with fail
  refine (zzSame_at _ _ _ (rs.set i (r.1, r.2 ++ (⟨#[35]⟩ : ByteArray))) _ _ _ rs w20a HX20a.out.refs (HA.out.later HP20a.out).refs (by rw [List.length_set, hrl]) hrl hn).mono ?_
  have hno20 : ¬ rs.set i (r.1, r.2 ++ (⟨#[35]⟩ : ByteArray)) = rs := fun h => hash_ne r.2 (congrArg (·.2) ((set_same_iff HR.out _).1 h.symm))
  rintro e w20b ⟨rfl, hb20b⟩
  rw [decide_eq_false hno20]
  have HP20b := hide (HP20a.out.trans (hb20b.mono HP20a.out.size))
  have HBE20 : Hid (Below w4.heap.size w4 w20b) := hide (HBA.out.trans (HP20b.out.mono HBA.out.size))
  clear hb20b hno20
  go_wp2_with fail
  refine (refsOf_any a c fs b d ts w20b (hrow.out.later HBE20.out) (hrow2.out.later HBE20.out) hn).mono ?_
  rw [← HRS.out]
  rintro e wx21 ⟨rfl, hX21, hbx21⟩
  obtain ⟨gx21, hgx21⟩ : ∃ g, g = w20b.heap.size := ⟨_, rfl⟩
  rw [← hgx21] at hX21 ⊢
  have hgA21 : wA.heap.size ≤ gx21 := by rw [hgx21]; exact HP20b.out.size
  have hpx21 : Below wA.heap.size wA wx21 := HP20b.out.trans (hbx21.mono HP20b.out.size)
  have hc21 := (hX21.get HR.out).1
  have hf21 : wx21.frozen? ⟨gx21, i * 2, none⟩ = false := frozen_of_row _ _ _ _ _ hX21
  obtain ⟨Y21, HY21⟩ : ∃ Y, Hid (Y = wx21.setCell ⟨gx21, i * 2, none⟩ (.string (r.1 ++ (⟨#[35]⟩ : ByteArray)))) := ⟨_, rfl⟩
  have HXY21 : Hid (RefRow Y21 gx21 (rs.set i (r.1 ++ (⟨#[35]⟩ : ByteArray), r.2))) := hide (by rw [HY21.out]; exact hX21.setF HR.out (r.1 ++ (⟨#[35]⟩ : ByteArray)))
  have HPY21 : Hid (Below wA.heap.size wA Y21) := hide (by rw [HY21.out]; exact hpx21.setCell hgA21 _)
  clear hX21 hbx21 hgx21 hpx21 hgA21
  go_wp2_with fail
  rw [← HY21.out]
  refine (zzSame_at _ _ _ rs _ _ _ (rs.set i (r.1 ++ (⟨#[35]⟩ : ByteArray), r.2)) Y21 (HA.out.later HPY21.out).refs HXY21.out.refs hrl (by rw [List.length_set, hrl]) hn).mono ?_
  have hno21 : ¬ rs = rs.set i (r.1 ++ (⟨#[35]⟩ : ByteArray), r.2) := fun h => hash_ne r.1 (congrArg (·.1) ((set_same_iff HR.out _).1 h))
  rintro e w21a ⟨rfl, hb21a⟩
  rw [decide_eq_false hno21]
  have HP21a := hide (HPY21.out.trans (hb21a.mono HPY21.out.size))
  have HX21a := hide (HXY21.out.later hb21a)
  clear hb21a hno21 hc21 hf21
  go_wp2_with fail
  refine (zzSame_at _ _ _ (rs.set i (r.1 ++ (⟨#[35]⟩ : ByteArray), r.2)) _ _ _ rs w21a HX21a.out.refs (HA.out.later HP21a.out).refs (by rw [List.length_set, hrl]) hrl hn).mono ?_
  have hno21 : ¬ rs.set i (r.1 ++ (⟨#[35]⟩ : ByteArray), r.2) = rs := fun h => hash_ne r.1 (congrArg (·.1) ((set_same_iff HR.out _).1 h.symm))
  rintro e w21b ⟨rfl, hb21b⟩
  rw [decide_eq_false hno21]
  have HP21b := hide (HP21a.out.trans (hb21b.mono HP21a.out.size))
  have HBE21 : Hid (Below w4.heap.size w4 w21b) := hide (HBA.out.trans (HP21b.out.mono HBA.out.size))
  clear hb21b hno21
  go_wp2_with fail
  refine (refsOf_any a c fs b d ts w21b (hrow.out.later HBE21.out) (hrow2.out.later HBE21.out) hn).mono ?_
  rw [← HRS.out]
  rintro e wx22 ⟨rfl, hX22, hbx22⟩
  obtain ⟨gx22, hgx22⟩ : ∃ g, g = w21b.heap.size := ⟨_, rfl⟩
  rw [← hgx22] at hX22 ⊢
  have hgA22 : wA.heap.size ≤ gx22 := by rw [hgx22]; exact HP21b.out.size
  have hpx22 : Below wA.heap.size wA wx22 := HP21b.out.trans (hbx22.mono HP21b.out.size)
  have hc22 := (hX22.get HR.out).2
  have hf22 : wx22.frozen? ⟨gx22, i * 2 + 1, none⟩ = false := frozen_of_row _ _ _ _ _ hX22
  obtain ⟨Y22, HY22⟩ : ∃ Y, Hid (Y = wx22.setCell ⟨gx22, i * 2 + 1, none⟩ (.string (nt))) := ⟨_, rfl⟩
  have HXY22 : Hid (RefRow Y22 gx22 (rs.set i (r.1, nt))) := hide (by rw [HY22.out]; exact hX22.setT HR.out (nt))
  have HPY22 : Hid (Below wA.heap.size wA Y22) := hide (by rw [HY22.out]; exact hpx22.setCell hgA22 _)
  clear hX22 hbx22 hgx22 hpx22 hgA22
  have hca22 := ((HA.out.later HPY22.out).get HR.out).2
  rw [HY22.out] at hca22
  have hbe22 : (nt.toList == r.2.toList) = decide (nt = r.2) := by
    rw [Bool.eq_iff_iff, beq_iff_eq, decide_eq_true_iff, bytes_toList_inj]
  obtain ⟨B22, HB22⟩ : ∃ B, Hid (B = decide (nt = r.2)) := ⟨_, rfl⟩
  rw [← HB22.out] at hbe22
  go_wp2_with fail
  rw [← HY22.out]
  refine (zzSame_at _ _ _ rs _ _ _ (rs.set i (r.1, nt)) Y22 (HA.out.later HPY22.out).refs HXY22.out.refs hrl (by rw [List.length_set, hrl]) hn).mono ?_
  have hno22 : decide (rs = rs.set i (r.1, nt)) = B22 := by
    rw [HB22.out]; refine decide_eq_decide.2 ((set_same_iff HR.out _).trans ?_)
    constructor
    · intro h; exact congrArg (·.2) h
    · intro h; rw [h]
  rintro e w22a ⟨rfl, hb22a⟩
  rw [hno22]
  have HP22a := hide (HPY22.out.trans (hb22a.mono HPY22.out.size))
  have HX22a := hide (HXY22.out.later hb22a)
  clear hb22a hc22 hf22 hca22
  go_wp2_with fail
  refine (zzSame_at _ _ _ (rs.set i (r.1, nt)) _ _ _ rs w22a HX22a.out.refs (HA.out.later HP22a.out).refs (by rw [List.length_set, hrl]) hrl hn).mono ?_
  rw [show decide (rs.set i (r.1, nt) = rs) = B22 by rw [← hno22]; exact decide_eq_decide.2 eq_comm]
  rintro e w22b ⟨rfl, hb22b⟩
  have HP22b := hide (HP22a.out.trans (hb22b.mono HP22a.out.size))
  have HBE22 : Hid (Below w4.heap.size w4 w22b) := hide (HBA.out.trans (HP22b.out.mono HBA.out.size))
  clear hb22b hno22 hbe22
  go_wp2_with fail
  refine (refsOf_any a c fs b d ts w22b (hrow.out.later HBE22.out) (hrow2.out.later HBE22.out) hn).mono ?_
  rw [← HRS.out]
  rintro e wx23 ⟨rfl, hX23, hbx23⟩
  obtain ⟨gx23, hgx23⟩ : ∃ g, g = w22b.heap.size := ⟨_, rfl⟩
  rw [← hgx23] at hX23 ⊢
  have hgA23 : wA.heap.size ≤ gx23 := by rw [hgx23]; exact HP22b.out.size
  have hpx23 : Below wA.heap.size wA wx23 := HP22b.out.trans (hbx23.mono HP22b.out.size)
  have hc23 := (hX23.get HR.out).1
  have hf23 : wx23.frozen? ⟨gx23, i * 2, none⟩ = false := frozen_of_row _ _ _ _ _ hX23
  obtain ⟨Y23, HY23⟩ : ∃ Y, Hid (Y = wx23.setCell ⟨gx23, i * 2, none⟩ (.string (nf))) := ⟨_, rfl⟩
  have HXY23 : Hid (RefRow Y23 gx23 (rs.set i (nf, r.2))) := hide (by rw [HY23.out]; exact hX23.setF HR.out (nf))
  have HPY23 : Hid (Below wA.heap.size wA Y23) := hide (by rw [HY23.out]; exact hpx23.setCell hgA23 _)
  clear hX23 hbx23 hgx23 hpx23 hgA23
  have hca23 := ((HA.out.later HPY23.out).get HR.out).1
  rw [HY23.out] at hca23
  have hbe23 : (nf.toList == r.1.toList) = decide (nf = r.1) := by
    rw [Bool.eq_iff_iff, beq_iff_eq, decide_eq_true_iff, bytes_toList_inj]
  obtain ⟨B23, HB23⟩ : ∃ B, Hid (B = decide (nf = r.1)) := ⟨_, rfl⟩
  rw [← HB23.out] at hbe23
  go_wp2_with fail
  rw [← HY23.out]
  refine (zzSame_at _ _ _ rs _ _ _ (rs.set i (nf, r.2)) Y23 (HA.out.later HPY23.out).refs HXY23.out.refs hrl (by rw [List.length_set, hrl]) hn).mono ?_
  have hno23 : decide (rs = rs.set i (nf, r.2)) = B23 := by
    rw [HB23.out]; refine decide_eq_decide.2 ((set_same_iff HR.out _).trans ?_)
    constructor
    · intro h; exact congrArg (·.1) h
    · intro h; rw [h]
  rintro e w23a ⟨rfl, hb23a⟩
  rw [hno23]
  have HP23a := hide (HPY23.out.trans (hb23a.mono HPY23.out.size))
  have HX23a := hide (HXY23.out.later hb23a)
  clear hb23a hc23 hf23 hca23
  go_wp2_with fail
  refine (zzSame_at _ _ _ (rs.set i (nf, r.2)) _ _ _ rs w23a HX23a.out.refs (HA.out.later HP23a.out).refs (by rw [List.length_set, hrl]) hrl hn).mono ?_
  rw [show decide (rs.set i (nf, r.2) = rs) = B23 by rw [← hno23]; exact decide_eq_decide.2 eq_comm]
  rintro e w23b ⟨rfl, hb23b⟩
  have HP23b := hide (HP23a.out.trans (hb23b.mono HP23a.out.size))
  have HBE23 : Hid (Below w4.heap.size w4 w23b) := hide (HBA.out.trans (HP23b.out.mono HBA.out.size))
  clear hb23b hno23 hbe23
  go_wp2_with fail
  go_ret
  exact ⟨rfl, HBE23.out⟩

end Go.Proofs.Qxb6600877aMods
