import Derived.Test.Qxb6600877aModsL3
namespace Go.Proofs.Qxb6600877aMods
open Go.RowKit

theorem RecsInv.at {G N : Nat} {R : Nat → List RefP} {w : World} (h : RecsInv G N R w) {k : Nat} (hk : k < N) :
    ∃ a c, w.cell? ⟨G, k, none⟩ = some (.slice a (R k).length c) ∧ RefsAt w a (R k) ∧ ((a = none ∧ R k = [] ∧ c = 0) ∨ ∃ g, a = some ⟨g, 0, none⟩ ∧ (R k).length ≤ c) := by
  obtain ⟨vs, hl, hb, ho, -⟩ := h
  obtain ⟨v, hv⟩ : ∃ v, vs[k]? = some v := ⟨_, List.getElem?_eq_getElem (by omega)⟩
  have hc : w.cell? ⟨G, k, none⟩ = some v := by rw [cell_of_row _ _ _ _ _ _ hb]; simpa using hv
  have hown := ho k v hv
  rcases hown.2 with ⟨rfl, hn⟩ | ⟨g, cap, cur, rfl, -, -, hcap, -⟩
  · have hR : R k = [] := List.eq_nil_of_length_eq_zero hn
    refine ⟨none, 0, ?_, ?_, Or.inl ⟨rfl, hR, rfl⟩⟩
    · rw [hR]; exact hc
    · rw [hR]; exact RefsAt.nil
  · refine ⟨some ⟨g, 0, none⟩, cap, hc, ?_, Or.inr ⟨g, rfl, hcap⟩⟩
    intro i r hr
    have hi := (List.getElem?_eq_some_iff.1 hr).1
    obtain ⟨e1, e2⟩ := flatR_get hr
    refine ⟨g, 0, rfl, ?_, ?_⟩
    · rw [Nat.zero_add, hown.cellAt _ (by omega)]; exact e1
    · rw [Nat.zero_add, hown.cellAt _ (by omega)]; exact e2

theorem RefsAt.drop {w : World} {g : Nat} {rs : List RefP} (h : RefsAt w (some ⟨g, 0, none⟩) rs) (k : Nat) : RefsAt w (some ⟨g, k * 2, none⟩) (rs.drop k) := by
  intro i r hr
  rw [List.getElem?_drop] at hr
  obtain ⟨b, off, ha, h1, h2⟩ := h _ r hr
  obtain ⟨rfl, rfl⟩ : g = b ∧ 0 = off := by simpa using ha
  refine ⟨g, k * 2, rfl, ?_, ?_⟩
  · rw [show k * 2 + i * 2 = 0 + (k + i) * 2 by omega]; exact h1
  · rw [show k * 2 + i * 2 + 1 = 0 + (k + i) * 2 + 1 by omega]; exact h2

/-- The triples of record i. -/
def trip (ns : List ByteArray) (R : Nat → List RefP) (i : Nat) : List (ByteArray × RefP) := (R i).map (lk ((ns[i]?).getD ⟨#[]⟩))
/-- T holds the triples of the records from lo on and below hi. -/
def Trips (ns : List ByteArray) (R : Nat → List RefP) (lo hi : Nat) (T : List (ByteArray × RefP)) : Prop := ∀ y, y ∈ T ↔ ∃ i, lo ≤ i ∧ i < hi ∧ y ∈ trip ns R i
theorem Trips.nil (ns : List ByteArray) (R : Nat → List RefP) (k : Nat) : Trips ns R k k [] := fun y => by
  constructor
  · intro h; cases h
  · rintro ⟨i, h1, h2, -⟩; omega
theorem Trips.up {ns : List ByteArray} {R : Nat → List RefP} {lo k : Nat} {T : List (ByteArray × RefP)} {s : ByteArray} (h : Trips ns R lo k T) (hk : lo ≤ k) (hs : ns[k]? = some s) : Trips ns R lo (k + 1) (T ++ (R k).map (lk s)) := by
  have e : trip ns R k = (R k).map (lk s) := by unfold trip; rw [hs]; rfl
  intro y
  rw [List.mem_append, h y, ← e]
  constructor
  · rintro (⟨i, h1, h2, h3⟩ | h3)
    · exact ⟨i, h1, by omega, h3⟩
    · exact ⟨k, hk, by omega, h3⟩
  · rintro ⟨i, h1, h2, h3⟩
    by_cases e : i = k
    · subst e; exact Or.inr h3
    · exact Or.inl ⟨i, h1, by omega, h3⟩
theorem Trips.down {ns : List ByteArray} {R : Nat → List RefP} {k N : Nat} {T : List (ByteArray × RefP)} {s : ByteArray} (h : Trips ns R (k + 1) N T) (hk : k < N) (hs : ns[k]? = some s) (n : Nat) : Trips ns R k N (T ++ ((R k).drop n).map (lk s) ++ ((R k).take n).map (lk s)) := by
  have e : trip ns R k = (R k).map (lk s) := by unfold trip; rw [hs]; rfl
  have e2 : ∀ y, y ∈ trip ns R k ↔ y ∈ ((R k).drop n).map (lk s) ∨ y ∈ ((R k).take n).map (lk s) := by
    intro y
    rw [e]
    conv => lhs; rw [← List.take_append_drop n (R k)]
    rw [List.map_append, List.mem_append, or_comm]
  intro y
  rw [List.append_assoc, List.mem_append, List.mem_append, ← e2, h y]
  constructor
  · rintro (⟨i, h1, h2, h3⟩ | h3)
    · exact ⟨i, by omega, h2, h3⟩
    · exact ⟨k, Nat.le_refl _, hk, h3⟩
  · rintro ⟨i, h1, h2, h3⟩
    by_cases e : i = k
    · subst e; exact Or.inr h3
    · exact Or.inl ⟨i, by omega, h2, h3⟩
theorem Trips.again {ns : List ByteArray} {R : Nat → List RefP} {k N : Nat} {T : List (ByteArray × RefP)} {s : ByteArray} (h : Trips ns R 0 N T) (hk : k < N) (hs : ns[k]? = some s) : Trips ns R 0 N (T ++ (R k).map (lk s)) := by
  have e : trip ns R k = (R k).map (lk s) := by unfold trip; rw [hs]; rfl
  intro y
  rw [List.mem_append, ← e, h y]
  constructor
  · rintro (h3 | h3)
    · exact h3
    · exact ⟨k, Nat.zero_le _, hk, h3⟩
  · exact Or.inl

theorem IxAt.empty (w : World) : IxAt (w.alloc (.map #[] 0)) w.heap.size w.heap.size [] :=
  ⟨fun _ => 0, Nat.le_refl _, MapIs.made _, fun _ hp => (List.not_mem_nil hp).elim, fun _ hs => (List.not_mem_nil hs).elim⟩

/-- An index that holds the triples of the records from lo on and below hi. -/
structure IxInv (W0 : World) (r : Nat) (ns : List ByteArray) (R : Nat → List RefP) (lo hi : Nat) (wr : World) : Prop where
  below : Below W0.heap.size W0 wr
  index : ∃ S T, IxAt wr r W0.heap.size S ∧ IdxOk T S ∧ Trips ns R lo hi T

theorem mem_recL {fs ts : List ByteArray} {os : List Int} {N j k i : Nat} {f : ByteArray} (hi : i < j) (h : ownO os N i = some k) (hf : fs[i]? = some f) : (f, tgt ts i) ∈ recL fs ts os N j k := by
  unfold recL
  refine List.mem_map.2 ⟨i, List.mem_filter.2 ⟨List.mem_range.2 hi, decide_eq_true h⟩, ?_⟩
  rw [hf]; rfl
/-- What an index says of a triple that it holds. -/
theorem ix_facts {X : World} {r B : Nat} {S : Idx} {ρ : ByteArray → Nat} {T : List (ByteArray × RefP)} (h : IxR X r B S ρ) (hk : IdxOk T S) {t : ByteArray} {x : RefP} (hy : (t, x) ∈ T) :
    ∃ l : List RefP, (Instr.lookup 39 (.map (some r)) (.string t) false).run Trym.prog X = .ok (.map (some (ρ t))) X ∧ (Instr.lookup 44 (.map (some (ρ t))) (.agg #[.string x.1, .string x.2]) false).run Trym.prog X = .ok (.bool true) X ∧ (t, l) ∈ S ∧ (Builtin.len_ #[44] 3 #[.map (some (ρ t))]).run Trym.prog X = .ok (.int .i64 l.length) X := by
  have htk : t ∈ S.map (·.1) := (hk.keys t).2 ⟨x, hy⟩
  obtain ⟨⟨pt, l⟩, hp, hpe⟩ := List.mem_map.1 htk
  simp only at hpe
  subst hpe
  have h1 := run_lookup_of keyStr Trym.underlying39 (zero44 X) h.outer (k := pt) trivial false
  rw [getM_outer_some htk] at h1
  have hin := (h.inner _ hp).2.2
  have h2 := run_lookup_of keyRef Trym.underlying44 (zero4 X) hin (k := x) trivial false
  rw [(getM_inner x l).2 ((hk.mem _ hp x).2 hy)] at h2
  have h3 := run_len_of (t := 44) (P := Trym.prog) Trym.underlying44 hin 3
  rw [innerM_length] at h3
  exact ⟨l, h1, h2, hp, h3⟩

set_option maxRecDepth 100000 in
set_option maxHeartbeats 3200000 in
theorem split_walk (a : Option Addr) (c : Nat) (ns : List ByteArray) (a1 : Option Addr) (c1 : Nat) (fs : List ByteArray) (a2 : Option Addr) (c2 : Nat) (ts : List ByteArray) (a3 : Option Addr) (c3 : Nat) (os : List Int) (w : World)
    (hr0 : Hid (StrsAt w a ns)) (hr1 : Hid (StrsAt w a1 fs)) (hr2 : Hid (StrsAt w a2 ts)) (hr3 : Hid (IntsAt w a3 os)) :
    Calls Trym.prog 6 #[.slice a ns.length c, .slice a1 fs.length c1, .slice a2 ts.length c2, .slice a3 os.length c3] w fun e w' => e = .returned (.bool true) ∧ Below w.heap.size w w' := by
  go_enter Trym.func6, Trym.ntmps6
  go_wp2_with fail
  refine (zzSplit_any a c ns a1 c1 fs a2 c2 ts a3 os.length c3 w hr0 hr1 hr2).mono ?_
  rintro e w' ⟨⟨ok, rfl, hok⟩, rfl⟩
  cases ok
  · clear hok
    go_wp2_with fail
    go_ret
    exact ⟨rfl, Below.refl _ _⟩
  have hle := hok rfl
  have n1 : ns.length ≤ 1048576 := by omega
  have n2 : fs.length ≤ 1048576 := by omega
  have n3 : ts.length ≤ 1048576 := by omega
  have n4 : os.length ≤ 1048576 := by omega
  have H1 : Hid (∀ s ∈ ns, s.size ≤ 1048576) := hide (fun s hs => by have := sumS_mem hs; omega)
  have H2 : Hid (∀ s ∈ fs, s.size ≤ 1048576) := hide (fun s hs => by have := sumS_mem hs; omega)
  have H3 : Hid (∀ s ∈ ts, s.size ≤ 1048576) := hide (fun s hs => by have := sumS_mem hs; omega)
  clear hok hle
  go_wp2_with fail
  refine (bytesOfStrings_any 0 a c ns w' (by decide) (by decide) hr0 n1 H1).mono ?_
  rintro e w1 ⟨⟨v1, rfl, p1, q1⟩, rfl⟩
  go_wp2_with fail
  refine (bytesOfStrings_any v1 a1 c1 fs w1 p1 q1 hr1 n2 H2).mono ?_
  rintro e w2 ⟨⟨v2, rfl, p2, q2⟩, rfl⟩
  go_wp2_with fail
  refine (bytesOfStrings_any v2 a2 c2 ts w2 p2 q2 hr2 n3 H3).mono ?_
  rintro e w3 ⟨⟨v3, rfl, p3, q3⟩, rfl⟩
  go_wp2_with fail
  refine (bytesOfInts_any v3 a3 os.length c3 w3 p3 q3 n4).mono ?_
  rintro e w4 ⟨⟨v4, rfl, p4, q4⟩, rfl⟩
  clear p1 q1 p2 q2 p3 q3 p4 q4
  by_cases hv : (1048576 : Int) < v4
  · go_wp2_with fail
    go_ret
    exact ⟨rfl, Below.refl _ _⟩
  by_cases hv2 : (4096 : Int) < (fs.length : Int)
  · go_wp2_with fail
    go_ret
    exact ⟨rfl, Below.refl _ _⟩
  go_wp2_with fail
  refine (buildRecords_any a c ns a1 c1 fs a2 c2 ts a3 c3 os w4 hr1 hr2 hr3 n1 n2).mono ?_
  rintro e wB ⟨rfl, hrec, hbB⟩
  obtain ⟨G, hG⟩ : ∃ G, G = w4.heap.size := ⟨_, rfl⟩
  rw [← hG] at hrec ⊢
  obtain ⟨R, HR⟩ : ∃ R, Hid (R = recL fs ts os ns.length fs.length) := ⟨_, hide rfl⟩
  rw [← HR.out] at hrec
  have HRl : Hid (∀ k, (R k).length ≤ 1048576) := hide (fun k => by rw [HR.out]; exact Nat.le_trans (recL_length _ _ _ _ _ _) n2)
  have HREC := hide hrec
  have HBB := hide hbB
  clear hrec hbB hG hv hv2
  have hmm := @run_makeMap Trym.prog
  go_wp2
  go_loopw [11] (fun i wr => ∃ k : Nat, k ≤ ns.length ∧ i = .int .i64 k ∧ IxInv wB wB.heap.size ns R 0 k wr) (fun i _ => ns.length - (intOf i).toNat)
  case atStart => exact ⟨0, Nat.zero_le _, rfl, ⟨(Below.refl _ _).alloc (Nat.le_refl _) _, [], [], IxAt.empty _, IdxOk.nil, Trips.nil _ _ _⟩⟩
  case round =>
    obtain ⟨k, hk, rfl, ⟨hbel, S, T, hix, hok, htr⟩⟩ := hrel
    by_cases hlt : k < ns.length
    · obtain ⟨s, hs⟩ : ∃ s, ns[k]? = some s := ⟨_, List.getElem?_eq_getElem hlt⟩
      obtain ⟨b, off, hab, hc⟩ := (hr0.out.later HBB.out) k s hs
      subst hab
      obtain ⟨ra, rc, hcr, hrefs, -⟩ := HREC.out.at hlt
      have d1 := (hbel.cell (block_lt_of_cell hc)).trans hc
      have d2 := (hbel.cell (block_lt_of_cell hcr)).trans hcr
      have HC1 := hide hc
      have HC2 := hide hcr
      have hi0 : (0 : Int) ≤ (k : Int) := Int.natCast_nonneg _
      have hi1 : (k : Int) < (ns.length : Int) := by omega
      have HREF := hide hrefs
      have HB := hide hbel
      have HIX := hide hix
      have HOK := hide hok
      have HTR := hide htr
      have HS := hide hs
      have HL := HRl.out k
      clear hc hcr hrefs hbel hix hok htr hs hmm
      go_wp2_with fail
      go_region_held3 (fun y => y.cell? ⟨b, off + k, none⟩ = some (.string s) ∧ y.cell? ⟨G, k, none⟩ = some (.slice ra (R k).length rc))
        (first | exact ⟨by simpa using d1, by simpa using d2⟩ | exact ⟨(hb2.cell (block_lt_of_cell HC1.out)).trans HC1.out, (hb2.cell (block_lt_of_cell HC2.out)).trans HC2.out⟩)
        (first | (go_at_call 17; refine (zzLink_any wB wB.heap.size T s ra _ rc (R k) S _ HREF.out rfl HL HB.out.drew (HIX.out.later (Below.refl _ _).drew) HOK.out).mono ?_; rintro e w2 ⟨rfl, hb2, hix2⟩))
      have HB2 := hide hb2
      have HI2 := hide hix2
      clear hb2 hix2
      go_wp2_with fail
      go_roundw
      case rel =>
        obtain ⟨S2, h1, h2⟩ := HI2.out
        exact ⟨k + 1, by omega, by go_num, ⟨HB2.out, S2, _, h1, h2, HTR.out.up (Nat.zero_le _) HS.out⟩⟩
      case measure => simp [intOf]; omega
    · obtain rfl : k = ns.length := by omega
      obtain ⟨w5, rfl⟩ : ∃ w5, w5 = wr := ⟨_, rfl⟩
      have HB5 := hide hbel
      have HIX1 := hide hix
      have HOK1 := hide hok
      have HTR1 := hide htr
      clear hbel hix hok htr
      have HN5 : Hid (StrsAt w5 a ns) := hide ((hr0.out.later HBB.out).later HB5.out)
      go_wp2
      go_loopw [13] (fun i wr => ∃ k : Nat, k ≤ ns.length ∧ i = .int .i64 ((k : Int) - 1) ∧ IxInv w5 w5.heap.size ns R k ns.length wr) (fun i _ => (intOf i + 1).toNat)
      case atStart => exact ⟨ns.length, Nat.le_refl _, rfl, ⟨(Below.refl _ _).alloc (Nat.le_refl _) _, [], [], IxAt.empty _, IdxOk.nil, Trips.nil _ _ _⟩⟩
      case round =>
        obtain ⟨k, hk, rfl, ⟨hbel, S2, T2, hix, hok, htr⟩⟩ := hrel
        cases k with
        | succ m =>
          have hlt : m < ns.length := by omega
          obtain ⟨s, hs⟩ : ∃ s, ns[m]? = some s := ⟨_, List.getElem?_eq_getElem hlt⟩
          obtain ⟨b, off, hab, hc⟩ := HN5.out m s hs
          obtain ⟨ra, rc, hcr, hrefs, hform⟩ := HREC.out.at hlt
          have hcr5 := (HB5.out.cell (block_lt_of_cell hcr)).trans hcr
          have hrefs5 := hrefs.later HB5.out
          have d1 := (hbel.cell (block_lt_of_cell hc)).trans hc
          have d2 := (hbel.cell (block_lt_of_cell hcr5)).trans hcr5
          have HC1 := hide hc
          have HC2 := hide hcr5
          have hi0 : (0 : Int) ≤ (m : Int) := Int.natCast_nonneg _
          have hi1 : (m : Int) < (ns.length : Int) := by omega
          have HREF := hide hrefs5
          have HB := hide hbel
          have HIX := hide hix
          have HOK := hide hok
          have HTR := hide htr
          have HS := hide hs
          have HL := HRl.out m
          rw [show ((m + 1 : Nat) : Int) - 1 = (m : Int) by omega]
          clear hc hcr hcr5 hrefs hrefs5 hbel hix hok htr hs hmm
          rcases hform with ⟨rfl, hRn, rfl⟩ | ⟨g, rfl, hcap⟩
          · rw [hRn] at d2 HREF HC2
            have HRN := hide hRn
            clear hRn
            subst hab
            go_wp2_with fail
            go_region_held3 (fun y => y.cell? ⟨b, off + m, none⟩ = some (.string s) ∧ y.cell? ⟨G, m, none⟩ = some (.slice none 0 0))
              (first | exact ⟨by simpa using d1, by simpa using d2⟩ | exact ⟨(hb2.cell (block_lt_of_cell HC1.out)).trans HC1.out, (hb2.cell (block_lt_of_cell HC2.out)).trans HC2.out⟩)
              (first | (go_at_call 17; refine (zzLink_any w5 w5.heap.size T2 s _ _ _ [] S2 _ RefsAt.nil rfl (by first | omega | decide | simp) HB.out.drew (HIX.out.later (Below.refl _ _).drew) HOK.out).mono ?_; rintro e w6 ⟨rfl, hb2, hix2⟩))
            obtain ⟨S3, hix3, hok3⟩ := hix2
            have HB3 := hide hb2
            have HIX3 := hide hix3
            have HOK3 := hide hok3
            have d1' := (hb2.cell (block_lt_of_cell HC1.out)).trans HC1.out
            have d2' := (hb2.cell (block_lt_of_cell HC2.out)).trans HC2.out
            clear hb2 hix3 hok3 d1 d2
            go_wp2_with fail
            go_region_held3 (fun y => y.cell? ⟨b, off + m, none⟩ = some (.string s) ∧ y.cell? ⟨G, m, none⟩ = some (.slice none 0 0))
              (first | exact ⟨by simpa using d1', by simpa using d2'⟩ | exact ⟨(hb2.cell (block_lt_of_cell HC1.out)).trans HC1.out, (hb2.cell (block_lt_of_cell HC2.out)).trans HC2.out⟩)
              (first | (go_at_call 17; refine (zzLink_any w5 w5.heap.size _ s _ _ _ [] S3 _ RefsAt.nil rfl (by first | omega | decide | simp) HB3.out.drew (HIX3.out.later (Below.refl _ _).drew) HOK3.out).mono ?_; rintro e w7 ⟨rfl, hb2, hix2⟩))
            have HB4 := hide hb2
            have HIX4 := hide hix2
            clear hb2 hix2
            go_wp2_with fail
            go_roundw
            case rel =>
              obtain ⟨S4, h1, h2⟩ := HIX4.out
              exact ⟨m, by omega, rfl, ⟨HB4.out, S4, _, h1, h2, by have h3 := HTR.out.down hlt HS.out 0; rw [HRN.out] at h3; exact h3⟩⟩
            case measure => simp [intOf]
          · obtain ⟨n, hnR⟩ : ∃ n, n = (R m).length := ⟨_, rfl⟩
            rw [← hnR] at d2 hcap HC2 HL
            have HNR := hide hnR
            clear hnR
            subst hab
            have htd : ((n : Int)).tdiv 2 = ((n / 2 : Nat) : Int) := rfl
            obtain ⟨h, hh⟩ : ∃ h, h = n / 2 := ⟨_, rfl⟩
            rw [← hh] at htd
            have hh0 : (0 : Int) ≤ (h : Int) := Int.natCast_nonneg _
            have hh1 : (h : Int) ≤ (n : Int) := by omega
            have hh2 : (h : Int) ≤ (rc : Int) := by omega
            have hh3 : h ≤ n := by omega
            have hh4 : h ≤ rc := by omega
            by_cases hrc : rc = h
            · have hn0 : n = 0 := by omega
              have hh00 : h = 0 := by omega
              have HRN : Hid (R m = []) := hide (List.eq_nil_of_length_eq_zero (by rw [← HNR.out, hn0]))
              have hrc0 : rc = 0 := by omega
              clear HNR htd hh hcap hh0 hh1 hh2 hh3 hh4 hrc
              subst hn0 hrc0
              clear hh00
              go_wp2_with fail
              go_region_held3 (fun y => y.cell? ⟨b, off + m, none⟩ = some (.string s) ∧ y.cell? ⟨G, m, none⟩ = some (.slice (some ⟨g, 0, none⟩) 0 0))
                (first | exact ⟨by simpa using d1, by simpa using d2⟩ | exact ⟨(hb2.cell (block_lt_of_cell HC1.out)).trans HC1.out, (hb2.cell (block_lt_of_cell HC2.out)).trans HC2.out⟩)
                (first | (go_at_call 17; refine (zzLink_any w5 w5.heap.size T2 s _ _ _ [] S2 _ RefsAt.nil rfl (by first | omega | decide | simp) HB.out.drew (HIX.out.later (Below.refl _ _).drew) HOK.out).mono ?_; rintro e w6 ⟨rfl, hb2, hix2⟩))
              obtain ⟨S3, hix3, hok3⟩ := hix2
              have HB3 := hide hb2
              have HIX3 := hide hix3
              have HOK3 := hide hok3
              have d1' := (hb2.cell (block_lt_of_cell HC1.out)).trans HC1.out
              have d2' := (hb2.cell (block_lt_of_cell HC2.out)).trans HC2.out
              clear hb2 hix3 hok3 d1 d2
              go_wp2_with fail
              go_region_held3 (fun y => y.cell? ⟨b, off + m, none⟩ = some (.string s) ∧ y.cell? ⟨G, m, none⟩ = some (.slice (some ⟨g, 0, none⟩) 0 0))
                (first | exact ⟨by simpa using d1', by simpa using d2'⟩ | exact ⟨(hb2.cell (block_lt_of_cell HC1.out)).trans HC1.out, (hb2.cell (block_lt_of_cell HC2.out)).trans HC2.out⟩)
                (first | (go_at_call 17; refine (zzLink_any w5 w5.heap.size _ s _ _ _ [] S3 _ RefsAt.nil rfl (by first | omega | decide | simp) HB3.out.drew (HIX3.out.later (Below.refl _ _).drew) HOK3.out).mono ?_; rintro e w7 ⟨rfl, hb2, hix2⟩))
              have HB4 := hide hb2
              have HIX4 := hide hix2
              clear hb2 hix2
              go_wp2_with fail
              go_roundw
              case rel =>
                obtain ⟨S4, h1, h2⟩ := HIX4.out
                exact ⟨m, by omega, rfl, ⟨HB4.out, S4, _, h1, h2, by have h3 := HTR.out.down hlt HS.out 0; rw [HRN.out] at h3; exact h3⟩⟩
              case measure => simp [intOf]
            · clear hh
              go_wp2_with fail
              go_region_held3 (fun y => y.cell? ⟨b, off + m, none⟩ = some (.string s) ∧ y.cell? ⟨G, m, none⟩ = some (.slice (some ⟨g, 0, none⟩) n rc))
                (first | exact ⟨by simpa using d1, by simpa using d2⟩ | exact ⟨(hb2.cell (block_lt_of_cell HC1.out)).trans HC1.out, (hb2.cell (block_lt_of_cell HC2.out)).trans HC2.out⟩)
                (first | (go_at_call 17; refine (zzLink_any w5 w5.heap.size T2 s _ _ _ ((R m).drop h) S2 _ (HREF.out.drop h) (by rw [List.length_drop, ← HNR.out]) (by omega) HB.out.drew (HIX.out.later (Below.refl _ _).drew) HOK.out).mono ?_; rintro e w6 ⟨rfl, hb2, hix2⟩))
              obtain ⟨S3, hix3, hok3⟩ := hix2
              have HB3 := hide hb2
              have HIX3 := hide hix3
              have HOK3 := hide hok3
              have d1' := (hb2.cell (block_lt_of_cell HC1.out)).trans HC1.out
              have d2' := (hb2.cell (block_lt_of_cell HC2.out)).trans HC2.out
              clear hb2 hix3 hok3 d1 d2
              go_wp2_with fail
              go_region_held3 (fun y => y.cell? ⟨b, off + m, none⟩ = some (.string s) ∧ y.cell? ⟨G, m, none⟩ = some (.slice (some ⟨g, 0, none⟩) n rc))
                (first | exact ⟨by simpa using d1', by simpa using d2'⟩ | exact ⟨(hb2.cell (block_lt_of_cell HC1.out)).trans HC1.out, (hb2.cell (block_lt_of_cell HC2.out)).trans HC2.out⟩)
                (first | (go_at_call 17; refine (zzLink_any w5 w5.heap.size _ s _ _ _ ((R m).take h) S3 _ (HREF.out.take h) (by rw [List.length_take, ← HNR.out, Nat.min_eq_left hh3]) (by omega) HB3.out.drew (HIX3.out.later (Below.refl _ _).drew) HOK3.out).mono ?_; rintro e w7 ⟨rfl, hb2, hix2⟩))
              have HB4 := hide hb2
              have HIX4 := hide hix2
              clear hb2 hix2
              go_wp2_with fail
              go_roundw
              case rel =>
                obtain ⟨S4, h1, h2⟩ := HIX4.out
                exact ⟨m, by omega, rfl, ⟨HB4.out, S4, _, h1, h2, HTR.out.down hlt HS.out h⟩⟩
              case measure => simp [intOf]
        | zero =>
          obtain ⟨w8, rfl⟩ : ∃ w8, w8 = wr := ⟨_, rfl⟩
          have HI8 : Hid (IxInv w5 w5.heap.size ns R 0 ns.length w8) := hide ⟨hbel, S2, T2, hix, hok, htr⟩
          rw [show ((0 : Nat) : Int) - 1 = -1 from rfl]
          clear hbel hix hok htr hmm
          go_wp2
          go_loopw [15] (fun i wr => ∃ k : Nat, k ≤ ns.length ∧ i = .int .i64 k ∧ IxInv w5 w5.heap.size ns R 0 ns.length wr) (fun i _ => ns.length - (intOf i).toNat)
          case atStart => exact ⟨0, Nat.zero_le _, rfl, HI8.out⟩
          case round =>
            obtain ⟨k, hk, rfl, ⟨hbel, S3, T3, hix, hok, htr⟩⟩ := hrel
            by_cases hlt : k < ns.length
            · obtain ⟨s, hs⟩ : ∃ s, ns[k]? = some s := ⟨_, List.getElem?_eq_getElem hlt⟩
              obtain ⟨b, off, hab, hc⟩ := HN5.out k s hs
              obtain ⟨ra, rc, hcr0, hrefs0, -⟩ := HREC.out.at hlt
              have hcr := (HB5.out.cell (block_lt_of_cell hcr0)).trans hcr0
              have d1 := (hbel.cell (block_lt_of_cell hc)).trans hc
              have d2 := (hbel.cell (block_lt_of_cell hcr)).trans hcr
              have HC1 := hide hc
              have HC2 := hide hcr
              have hi0 : (0 : Int) ≤ (k : Int) := Int.natCast_nonneg _
              have hi1 : (k : Int) < (ns.length : Int) := by omega
              have HREF := hide (hrefs0.later HB5.out)
              have HB := hide hbel
              have HIX := hide hix
              have HOK := hide hok
              have HTR := hide htr
              have HS := hide hs
              have HL := HRl.out k
              subst hab
              clear hc hcr hcr0 hrefs0 hbel hix hok htr hs
              go_wp2_with fail
              go_region_held3 (fun y => y.cell? ⟨b, off + k, none⟩ = some (.string s) ∧ y.cell? ⟨G, k, none⟩ = some (.slice ra (R k).length rc))
                (first | exact ⟨by simpa using d1, by simpa using d2⟩ | exact ⟨(hb2.cell (block_lt_of_cell HC1.out)).trans HC1.out, (hb2.cell (block_lt_of_cell HC2.out)).trans HC2.out⟩)
                (first | (go_at_call 17; refine (zzLink_any w5 w5.heap.size T3 s ra _ rc (R k) S3 _ HREF.out rfl HL HB.out.drew (HIX.out.later (Below.refl _ _).drew) HOK.out).mono ?_; rintro e w2 ⟨rfl, hb2, hix2⟩))
              have HB2 := hide hb2
              have HI2 := hide hix2
              clear hb2 hix2
              go_wp2_with fail
              go_roundw
              case rel =>
                obtain ⟨S4, h1, h2⟩ := HI2.out
                exact ⟨k + 1, by omega, by go_num, ⟨HB2.out, S4, _, h1, h2, HTR.out.again hlt HS.out⟩⟩
              case measure => simp [intOf]; omega
            · obtain rfl : k = ns.length := by omega
              obtain ⟨w9, rfl⟩ : ∃ w9, w9 = wr := ⟨_, rfl⟩
              have hok1 : IdxOk T3 S := HOK1.out.congr (fun y => (HTR1.out y).trans (htr y).symm)
              have hSS : S.length = S3.length := hok1.length hok
              obtain ⟨ρ1, hix1⟩ := HIX1.out.later hbel
              obtain ⟨ρ2, hix3⟩ := hix
              have hl1 := run_len_of (t := 39) (P := Trym.prog) Trym.underlying39 hix1.outer 3
              have hl2 := run_len_of (t := 39) (P := Trym.prog) Trym.underlying39 hix3.outer 3
              rw [outerM_length] at hl1 hl2
              have hne : ((S.length : Int) != (S3.length : Int)) = false := by simp [hSS]
              have HX1 := hide hix1
              have HX2 := hide hix3
              have HK1 := hide hok1
              have HK2 := hide hok
              have HT3 := hide htr
              have HB9 : Hid (Below w4.heap.size w4 w9) := hide (HBB.out.trans ((HB5.out.trans (hbel.mono HB5.out.size)).mono HBB.out.size))
              clear hok1 hSS hix1 hix3 hok htr hbel
              go_wp2_with fail
              clear hl1 hl2 hne
              go_loopw [16] (fun i wr => ∃ k : Nat, k ≤ fs.length ∧ i = .int .i64 k ∧ Below w9.heap.size w9 wr) (fun i _ => fs.length - (intOf i).toNat)
              case atStart => exact ⟨0, Nat.zero_le _, rfl, Below.refl _ _⟩
              case round =>
                obtain ⟨k, hk, rfl, hbel⟩ := hrel
                by_cases hlt : k < fs.length
                · obtain ⟨f, hf⟩ : ∃ f, fs[k]? = some f := ⟨_, List.getElem?_eq_getElem hlt⟩
                  have hbw : Below w4.heap.size w4 wr := HB9.out.trans (hbel.mono HB9.out.size)
                  have HBW := hide hbw
                  have HB := hide hbel
                  obtain ⟨b1, o1, hab1, hc1⟩ := hr1.out k f hf
                  have e1 := (hbw.cell (block_lt_of_cell hc1)).trans hc1
                  have HF := hide hf
                  clear hbel hbw hf hc1
                  go_wp2_with fail
                  refine (ownerAt_any a3 c3 os ns.length k wr (hr3.out.later HBW.out)).mono ?_
                  rintro e w10 ⟨rfl, rfl⟩
                  cases hown : ownO os ns.length k with
                  | none =>
                    clear hown
                    simp only [ownI]
                    go_wp2_with fail
                    go_roundw
                    case rel => exact ⟨k + 1, by omega, by go_num, HB.out⟩
                    case measure => simp [intOf]; omega
                  | some oi =>
                    have hoN : oi < ns.length := ownO_lt hown
                    obtain ⟨nm, hnm⟩ : ∃ nm, ns[oi]? = some nm := ⟨_, List.getElem?_eq_getElem hoN⟩
                    obtain ⟨b0, o0, hab0, hc0⟩ := hr0.out oi nm hnm
                    have e0 := (HBW.out.cell (block_lt_of_cell hc0)).trans hc0
                    have hyT : (tgt ts k, (nm, f)) ∈ T3 := by
                      refine (HT3.out _).2 ⟨oi, Nat.zero_le _, hoN, ?_⟩
                      unfold trip
                      rw [hnm, HR.out]
                      exact List.mem_map.2 ⟨(f, tgt ts k), mem_recL hlt hown HF.out, rfl⟩
                    obtain ⟨X, HX⟩ : ∃ X, Hid (X = (w10.alloc (.cells #[.string nm, .string f] 46)).drew) := ⟨_, hide rfl⟩
                    have hBX : Below w9.heap.size w9 X := by rw [HX.out]; exact (HB.out.alloc HB.out.size _).drew
                    obtain ⟨t, ht⟩ : ∃ t, t = tgt ts k := ⟨_, rfl⟩
                    rw [← ht] at hyT
                    obtain ⟨l1, A1, B1, C1⟩ := ix_facts (HX1.out.later hBX) HK1.out hyT
                    obtain ⟨l2, A2, B2, C2⟩ := ix_facts (HX2.out.later hBX) HK2.out hyT
                    have hlen : ((l1.length : Int) != (l2.length : Int)) = false := by
                      have := HK1.out.inner_len HK2.out C1.1 C2.1
                      simp [this]
                    have D1 := C1.2
                    have D2 := C2.2
                    have x0 : X.cell? ⟨w10.heap.size, 0, none⟩ = some (.string nm) := by rw [HX.out]; simp
                    have x1 : X.cell? ⟨w10.heap.size, 1, none⟩ = some (.string f) := by rw [HX.out]; simp
                    have HBX := hide hBX
                    have HTT := hide ht
                    have hi0 : (0 : Int) ≤ (k : Int) := Int.natCast_nonneg _
                    have hi1 : (k : Int) < (fs.length : Int) := by omega
                    have hj0 : (0 : Int) ≤ (oi : Int) := Int.natCast_nonneg _
                    have hj1 : (oi : Int) < (ns.length : Int) := by omega
                    have hjn : ¬ (oi : Int) < 0 := by omega
                    have HNE := hide (And.intro (Nat.ne_of_lt (block_lt_of_cell e0)) (Nat.ne_of_lt (block_lt_of_cell e1)))
                    subst hab0 hab1
                    clear hown hnm hc0 hyT C1 C2 hBX ht
                    simp only [ownI]
                    go_wp2_with fail
                    refine (targetAt_any a2 c2 ts k w10 (hr2.out.later HBW.out)).mono ?_
                    rw [← HTT.out]
                    rintro e w11 ⟨rfl, rfl⟩
                    have hn0 := World.new_ne w11 _ e0
                    have hn1 := World.new_ne w11 _ e1
                    go_wp2_with fail
                    go_region_held3 (fun y => y.cell? ⟨b0, o0 + oi, none⟩ = some (.string nm) ∧ y.cell? ⟨b1, o1 + k, none⟩ = some (.string f))
                      (go_keep) (fail)
                    rw [← HX.out]
                    clear hn0 hn1 e0 e1
                    go_wp2_with fail
                    go_roundw
                    case rel => exact ⟨k + 1, by omega, by go_num, HBX.out⟩
                    case measure => simp [intOf]; omega
                · have HB := hide hbel
                  clear hbel
                  go_wp2
                  go_ret
                  exact ⟨rfl, HB9.out.trans (HB.out.mono HB9.out.size)⟩

end Go.Proofs.Qxb6600877aMods
