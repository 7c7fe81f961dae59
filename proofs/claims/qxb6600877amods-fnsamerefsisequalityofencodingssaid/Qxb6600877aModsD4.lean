import Derived.Test.Qxb6600877aModsD3
namespace Go.Proofs.Qxb6600877aMods
open Go.RowKit

set_option maxHeartbeats 3200000 in
theorem zzEncodings_any (a : Option Addr) (c : Nat) (fs : List ByteArray) (a2 : Option Addr) (c2 : Nat) (ts : List ByteArray) (a3 : Option Addr) (c3 : Nat) (gs : List ByteArray) (a4 : Option Addr) (c4 : Nat) (us : List ByteArray) (w : World) (hr1 : Hid (StrsAt w a fs)) (hr2 : Hid (StrsAt w a2 ts)) (hr3 : Hid (StrsAt w a3 gs)) (hr4 : Hid (StrsAt w a4 us)) :
    Calls Trym.prog 7 #[.slice a fs.length c, .slice a2 ts.length c2, .slice a3 gs.length c3, .slice a4 us.length c4] w fun e w' => Bounded (fs.length + sumS fs + ts.length + sumS ts + gs.length + sumS gs + us.length + sumS us) e ∧ w' = w := by
  by_cases hbig : (1048576 : Int) < (fs.length : Int)
  · go_enter Trym.func7, Trym.ntmps7
    go_wp2
    go_ret
    exact ⟨Bounded.no, rfl⟩
  go_enter Trym.func7, Trym.ntmps7
  go_wp2
  go_loop [9, 10] (fun s i => ∃ k : Nat, k ≤ fs.length ∧ i = .int .i64 k ∧ s = .int .i64 (fs.length + sumS (fs.take k)) ∧ fs.length + sumS (fs.take k) ≤ 1048576) (fun _ i => fs.length - (intOf i).toNat)
  case atStart => exact ⟨0, Nat.zero_le _, rfl, by simp [sumS], by simp [sumS]; omega⟩
  case round =>
    obtain ⟨k, hk, rfl, rfl, hle0⟩ := hrel
    by_cases hlt : k < fs.length
    · obtain ⟨s, hs⟩ : ∃ s, fs[k]? = some s := ⟨_, List.getElem?_eq_getElem hlt⟩
      obtain ⟨b1, off, rfl, hcell⟩ := hr1.out k s hs
      have HS := hide (sumS_take_succ hs)
      clear hs
      by_cases hfit : (1048576 : Int) < s.size
      · go_wp2
        go_ret
        exact ⟨Bounded.no, rfl⟩
      by_cases hfit2 : (1048576 : Int) < fs.length + sumS (fs.take k) + s.size
      · go_wp2
        go_ret
        exact ⟨Bounded.no, rfl⟩
      · go_wp2
        go_round
        case rel => exact ⟨k + 1, by omega, by go_num, by rw [HS.out]; go_num, by rw [HS.out]; omega⟩
        case measure => simp [intOf]; omega
    obtain rfl : k = fs.length := by omega
    rw [List.take_length] at hle0 ⊢
    generalize hT0 : fs.length + sumS fs = T0 at hle0 ⊢
    rw [show (fs.length : Int) + (sumS fs : Int) = (T0 : Int) by omega]
    by_cases h50 : (1048576 : Int) < (ts.length : Int)
    · go_wp2
      go_ret
      exact ⟨Bounded.no, rfl⟩
    by_cases h60 : (1048576 : Int) < (T0 : Int) + (ts.length : Int)
    · go_wp2
      go_ret
      exact ⟨Bounded.no, rfl⟩
    go_wp2
    go_loop [9, 11] (fun s i => ∃ k : Nat, k ≤ ts.length ∧ i = .int .i64 k ∧ s = .int .i64 ((T0 : Int) + ts.length + sumS (ts.take k)) ∧ T0 + ts.length + sumS (ts.take k) ≤ 1048576) (fun _ i => ts.length - (intOf i).toNat)
    case atStart => exact ⟨0, Nat.zero_le _, rfl, by simp [sumS], by simp [sumS]; omega⟩
    case round =>
      obtain ⟨k, hk, rfl, rfl, hle1⟩ := hrel
      by_cases hlt : k < ts.length
      · obtain ⟨s, hs⟩ : ∃ s, ts[k]? = some s := ⟨_, List.getElem?_eq_getElem hlt⟩
        obtain ⟨b1, off, rfl, hcell⟩ := hr2.out k s hs
        have HS := hide (sumS_take_succ hs)
        clear hs
        by_cases hfit : (1048576 : Int) < s.size
        · go_wp2
          go_ret
          exact ⟨Bounded.no, rfl⟩
        by_cases hfit2 : (1048576 : Int) < (T0 : Int) + ts.length + sumS (ts.take k) + s.size
        · go_wp2
          go_ret
          exact ⟨Bounded.no, rfl⟩
        · go_wp2
          go_round
          case rel => exact ⟨k + 1, by omega, by go_num, by rw [HS.out]; go_num, by rw [HS.out]; omega⟩
          case measure => simp [intOf]; omega
      obtain rfl : k = ts.length := by omega
      rw [List.take_length] at hle1 ⊢
      generalize hT1 : T0 + ts.length + sumS ts = T1 at hle1 ⊢
      rw [show (T0 : Int) + (ts.length : Int) + (sumS ts : Int) = (T1 : Int) by omega]
      by_cases h51 : (1048576 : Int) < (gs.length : Int)
      · go_wp2
        go_ret
        exact ⟨Bounded.no, rfl⟩
      by_cases h61 : (1048576 : Int) < (T1 : Int) + (gs.length : Int)
      · go_wp2
        go_ret
        exact ⟨Bounded.no, rfl⟩
      go_wp2
      go_loop [9, 12] (fun s i => ∃ k : Nat, k ≤ gs.length ∧ i = .int .i64 k ∧ s = .int .i64 ((T1 : Int) + gs.length + sumS (gs.take k)) ∧ T1 + gs.length + sumS (gs.take k) ≤ 1048576) (fun _ i => gs.length - (intOf i).toNat)
      case atStart => exact ⟨0, Nat.zero_le _, rfl, by simp [sumS], by simp [sumS]; omega⟩
      case round =>
        obtain ⟨k, hk, rfl, rfl, hle2⟩ := hrel
        by_cases hlt : k < gs.length
        · obtain ⟨s, hs⟩ : ∃ s, gs[k]? = some s := ⟨_, List.getElem?_eq_getElem hlt⟩
          obtain ⟨b1, off, rfl, hcell⟩ := hr3.out k s hs
          have HS := hide (sumS_take_succ hs)
          clear hs
          by_cases hfit : (1048576 : Int) < s.size
          · go_wp2
            go_ret
            exact ⟨Bounded.no, rfl⟩
          by_cases hfit2 : (1048576 : Int) < (T1 : Int) + gs.length + sumS (gs.take k) + s.size
          · go_wp2
            go_ret
            exact ⟨Bounded.no, rfl⟩
          · go_wp2
            go_round
            case rel => exact ⟨k + 1, by omega, by go_num, by rw [HS.out]; go_num, by rw [HS.out]; omega⟩
            case measure => simp [intOf]; omega
        obtain rfl : k = gs.length := by omega
        rw [List.take_length] at hle2 ⊢
        generalize hT2 : T1 + gs.length + sumS gs = T2 at hle2 ⊢
        rw [show (T1 : Int) + (gs.length : Int) + (sumS gs : Int) = (T2 : Int) by omega]
        by_cases h52 : (1048576 : Int) < (us.length : Int)
        · go_wp2
          go_ret
          exact ⟨Bounded.no, rfl⟩
        by_cases h62 : (1048576 : Int) < (T2 : Int) + (us.length : Int)
        · go_wp2
          go_ret
          exact ⟨Bounded.no, rfl⟩
        go_wp2
        go_loop [9, 13] (fun s i => ∃ k : Nat, k ≤ us.length ∧ i = .int .i64 k ∧ s = .int .i64 ((T2 : Int) + us.length + sumS (us.take k)) ∧ T2 + us.length + sumS (us.take k) ≤ 1048576) (fun _ i => us.length - (intOf i).toNat)
        case atStart => exact ⟨0, Nat.zero_le _, rfl, by simp [sumS], by simp [sumS]; omega⟩
        case round =>
          obtain ⟨k, hk, rfl, rfl, hle3⟩ := hrel
          by_cases hlt : k < us.length
          · obtain ⟨s, hs⟩ : ∃ s, us[k]? = some s := ⟨_, List.getElem?_eq_getElem hlt⟩
            obtain ⟨b1, off, rfl, hcell⟩ := hr4.out k s hs
            have HS := hide (sumS_take_succ hs)
            clear hs
            by_cases hfit : (1048576 : Int) < s.size
            · go_wp2
              go_ret
              exact ⟨Bounded.no, rfl⟩
            by_cases hfit2 : (1048576 : Int) < (T2 : Int) + us.length + sumS (us.take k) + s.size
            · go_wp2
              go_ret
              exact ⟨Bounded.no, rfl⟩
            · go_wp2
              go_round
              case rel => exact ⟨k + 1, by omega, by go_num, by rw [HS.out]; go_num, by rw [HS.out]; omega⟩
              case measure => simp [intOf]; omega
          obtain rfl : k = us.length := by omega
          rw [List.take_length] at hle3 ⊢
          generalize hT3 : T2 + us.length + sumS us = T3 at hle3 ⊢
          rw [show (T2 : Int) + (us.length : Int) + (sumS us : Int) = (T3 : Int) by omega]
          go_wp2
          go_ret
          exact ⟨Bounded.yes (by omega), rfl⟩

theorem sumR_le {l : List RefP} (h : ∀ r ∈ l, r.1.size ≤ 1048576 ∧ r.2.size ≤ 1048576) : sumR l ≤ l.length * 2097152 := by
  induction l with
  | nil => simp [sumR]
  | cons r l ih =>
    have h1 := ih (fun q hq => h q (by simp [hq]))
    obtain ⟨a1, a2⟩ := h r (by simp)
    simp only [sumR, List.length_cons]
    omega
theorem refsL_sizes {fs ts : List ByteArray} (hf : ∀ s ∈ fs, s.size ≤ 1048576) (ht : ∀ s ∈ ts, s.size ≤ 1048576) : ∀ r ∈ refsL fs ts, r.1.size ≤ 1048576 ∧ r.2.size ≤ 1048576 := by
  intro r hr
  obtain ⟨i, hi⟩ := List.getElem?_of_mem hr
  have hil : i < fs.length := by have := (List.getElem?_eq_some_iff.1 hi).1; rwa [refsL_length] at this
  obtain ⟨f, hff⟩ : ∃ f, fs[i]? = some f := ⟨_, List.getElem?_eq_getElem hil⟩
  rw [refsL_get hff] at hi
  obtain rfl := Option.some.inj hi
  refine ⟨hf f (List.mem_of_getElem? hff), ?_⟩
  cases h : ts[i]? with
  | none => exact (by decide : ByteArray.size ⟨#[]⟩ ≤ 1048576)
  | some t => exact ht t (List.mem_of_getElem? h)

theorem zzSame_at (a : Option Addr) (n c : Nat) (rs : List RefP) (b : Option Addr) (m d : Nat) (qs : List RefP) (w : World) (hrow : RefsAt w a rs) (hrow2 : RefsAt w b qs) (hn : rs.length = n) (hm : qs.length = m) (hb : n ≤ 1048576) :
    Calls Trym.prog 10 #[.slice a n c, .slice b m d] w fun e w' => e = .returned (.bool (decide (rs = qs))) ∧ Below w.heap.size w w' := by
  subst hn hm
  refine (zzSame_any a c rs b d qs w hrow hrow2 hb).mono ?_
  rintro e w' ⟨rfl, m, rfl⟩
  exact ⟨rfl, below_drewN (Below.refl _ _) m⟩
theorem encode_at (a : Option Addr) (n c : Nat) (rs : List RefP) (w : World) (hrow : RefsAt w a rs) (hl : rs.length = n) (hn : n ≤ 1048576) (hS : ∀ r ∈ rs, r.1.size ≤ 1048576 ∧ r.2.size ≤ 1048576) :
    Calls Trym.prog 11 #[.slice a n c] w (EncPost rs w) := by
  subst hl
  have h1 := encB_len hS
  have h2 := sumR_le hS
  exact encodeRefs_any a c rs w hrow hn hS (by omega)

set_option maxRecDepth 100000 in
set_option maxHeartbeats 1600000 in
theorem encodings_walk (a : Option Addr) (c : Nat) (fs : List ByteArray) (a2 : Option Addr) (c2 : Nat) (ts : List ByteArray) (a3 : Option Addr) (c3 : Nat) (gs : List ByteArray) (a4 : Option Addr) (c4 : Nat) (us : List ByteArray) (w : World) (hr1 : Hid (StrsAt w a fs)) (hr2 : Hid (StrsAt w a2 ts)) (hr3 : Hid (StrsAt w a3 gs)) (hr4 : Hid (StrsAt w a4 us)) :
    Calls Trym.prog 3 #[.slice a fs.length c, .slice a2 ts.length c2, .slice a3 gs.length c3, .slice a4 us.length c4] w fun e w' => e = .returned (.bool true) ∧ Below w.heap.size w w' := by
  go_enter Trym.func3, Trym.ntmps3
  go_wp2_with fail
  refine (zzEncodings_any a c fs a2 c2 ts a3 c3 gs a4 c4 us w hr1 hr2 hr3 hr4).mono ?_
  rintro e w' ⟨⟨ok, rfl, hok⟩, rfl⟩
  cases ok
  · clear hok
    go_wp2_with fail
    go_ret
    exact ⟨rfl, Below.refl _ _⟩
  have hle := hok rfl
  have n1 : fs.length ≤ 1048576 := by omega
  have n2 : ts.length ≤ 1048576 := by omega
  have n3 : gs.length ≤ 1048576 := by omega
  have n4 : us.length ≤ 1048576 := by omega
  have H1 : Hid (∀ s ∈ fs, s.size ≤ 1048576) := hide (fun s hs => by have := sumS_mem hs; omega)
  have H2 : Hid (∀ s ∈ ts, s.size ≤ 1048576) := hide (fun s hs => by have := sumS_mem hs; omega)
  have H3 : Hid (∀ s ∈ gs, s.size ≤ 1048576) := hide (fun s hs => by have := sumS_mem hs; omega)
  have H4 : Hid (∀ s ∈ us, s.size ≤ 1048576) := hide (fun s hs => by have := sumS_mem hs; omega)
  clear hok hle
  go_wp2_with fail
  refine (bytesOfStrings_any 0 a c fs w' (by decide) (by decide) hr1 n1 H1).mono ?_
  rintro e w1 ⟨⟨v1, rfl, p1, q1⟩, rfl⟩
  go_wp2_with fail
  refine (bytesOfStrings_any v1 a2 c2 ts w1 p1 q1 hr2 n2 H2).mono ?_
  rintro e w2 ⟨⟨v2, rfl, p2, q2⟩, rfl⟩
  go_wp2_with fail
  refine (bytesOfStrings_any v2 a3 c3 gs w2 p2 q2 hr3 n3 H3).mono ?_
  rintro e w3 ⟨⟨v3, rfl, p3, q3⟩, rfl⟩
  go_wp2_with fail
  refine (bytesOfStrings_any v3 a4 c4 us w3 p3 q3 hr4 n4 H4).mono ?_
  rintro e w4 ⟨⟨v4, rfl, p4, q4⟩, rfl⟩
  clear p1 q1 p2 q2 p3 q3 p4 q4
  by_cases hv : (1048576 : Int) < v4
  · go_wp2_with fail
    go_ret
    exact ⟨rfl, Below.refl _ _⟩
  obtain ⟨rs, HRS⟩ : ∃ rs, Hid (rs = refsL fs ts) := ⟨_, rfl⟩
  have hrl : rs.length = fs.length := by rw [HRS.out, refsL_length]
  have HSr : Hid (∀ r ∈ rs, r.1.size ≤ 1048576 ∧ r.2.size ≤ 1048576) := hide (by rw [HRS.out]; exact refsL_sizes H1.out H2.out)
  obtain ⟨qs, HQS⟩ : ∃ qs, Hid (qs = refsL gs us) := ⟨_, rfl⟩
  have hql : qs.length = gs.length := by rw [HQS.out, refsL_length]
  have HSq : Hid (∀ r ∈ qs, r.1.size ≤ 1048576 ∧ r.2.size ≤ 1048576) := hide (by rw [HQS.out]; exact refsL_sizes H3.out H4.out)
  go_wp2_with fail
  refine (refsOf_any a c fs a2 c2 ts w4 hr1 hr2 n1).mono ?_
  rw [← HRS.out]
  rintro e wA ⟨rfl, hA, hbA⟩
  obtain ⟨ga, hga⟩ : ∃ g, g = w4.heap.size := ⟨_, rfl⟩
  rw [← hga] at hA ⊢
  have HA := hide hA
  have HBA := hide hbA
  clear hA hbA hga
  go_wp2_with fail
  refine (refsOf_any a3 c3 gs a4 c4 us wA (hr3.out.later HBA.out) (hr4.out.later HBA.out) n3).mono ?_
  rw [← HQS.out]
  rintro e wC ⟨rfl, hC, hbC⟩
  obtain ⟨gc, hgc⟩ : ∃ g, g = wA.heap.size := ⟨_, rfl⟩
  rw [← hgc] at hC ⊢
  have HC := hide hC
  have HP := hide hbC
  clear hC hbC hgc
  obtain ⟨E, HE⟩ : ∃ E, Hid (E = decide (rs = qs)) := ⟨_, rfl⟩
  go_wp2_with fail
  refine (zzSame_at _ _ _ rs _ _ _ qs wC (HA.out.later HP.out).refs HC.out.refs hrl hql n1).mono ?_
  rw [← HE.out]
  rintro e w5 ⟨rfl, hb5⟩
  have HA5 := hide ((HA.out.later HP.out).later hb5)
  have HC5 := hide (HC.out.later hb5)
  have HP5 := hide (HP.out.trans (hb5.mono HP.out.size))
  clear hb5
  go_wp2_with fail
  refine (encode_at _ _ _ rs w5 HA5.out.refs hrl n1 HSr.out).mono ?_
  rintro e w6 ⟨rfl, hb6⟩
  have HC6 := hide (HC5.out.later hb6)
  have HP6 := hide (HP5.out.trans (hb6.mono HP5.out.size))
  clear hb6
  go_wp2_with fail
  refine (encode_at _ _ _ qs w6 HC6.out.refs hql n3 HSq.out).mono ?_
  rintro e w7 ⟨rfl, hb7⟩
  have HP7 := hide (HP6.out.trans (hb7.mono HP6.out.size))
  clear hb7
  have hbe : ((strOfNums (encB rs)).toList == (strOfNums (encB qs)).toList) = E := by
    rw [HE.out, Bool.eq_iff_iff, beq_iff_eq, decide_eq_true_iff, bytes_toList_inj, enc_text_iff]
  go_wp2_with fail
  go_ret
  exact ⟨ret_true (by simp), HBA.out.trans (HP7.out.mono HBA.out.size)⟩

end Go.Proofs.Qxb6600877aMods
