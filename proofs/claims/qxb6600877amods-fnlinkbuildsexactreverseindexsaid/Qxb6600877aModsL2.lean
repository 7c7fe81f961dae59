import Derived.Test.Qxb6600877aModsL1
namespace Go.Proofs.Qxb6600877aMods
open Go.RowKit

/-! ### []int -/
def IntsAt (w : World) (a : Option Addr) (os : List Int) : Prop := ∀ i o, os[i]? = some o → ∃ b off, a = some ⟨b, off, none⟩ ∧ w.cell? ⟨b, off + i, none⟩ = some (.int .i64 o)
theorem IntsAt.later {w w' : World} {a : Option Addr} {os : List Int} (h : IntsAt w a os) (hb : Below w.heap.size w w') : IntsAt w' a os := by
  intro i s hs
  obtain ⟨b, off, ha, hc⟩ := h i s hs
  exact ⟨b, off, ha, (hb.cell (block_lt_of_cell hc)).trans hc⟩

/-- The record that holds reference i. -/
def ownO (os : List Int) (N i : Nat) : Option Nat := match os[i]? with
  | none => none
  | some o => if 0 ≤ o ∧ o < N then some o.toNat else none
def ownI : Option Nat → Int
  | none => -1
  | some k => k
theorem ownO_lt {os : List Int} {N i k : Nat} (h : ownO os N i = some k) : k < N := by
  unfold ownO at h
  split at h
  · cases h
  · split at h
    · rename_i o _ ho
      obtain rfl := Option.some.inj h
      omega
    · cases h
def tgt (ts : List ByteArray) (i : Nat) : ByteArray := (ts[i]?).getD ⟨#[]⟩

set_option maxHeartbeats 800000 in
theorem ownerAt_any (a : Option Addr) (c : Nat) (os : List Int) (N i : Nat) (w : World) (hrow : Hid (IntsAt w a os)) :
    Calls Trym.prog 18 #[.slice a os.length c, .int .i64 N, .int .i64 i] w fun e w' => e = .returned (.int .i64 (ownI (ownO os N i))) ∧ w' = w := by
  by_cases hlt : i < os.length
  · obtain ⟨o, ho⟩ : ∃ o, os[i]? = some o := ⟨_, List.getElem?_eq_getElem hlt⟩
    obtain ⟨b, off, rfl, hc⟩ := hrow.out i o ho
    have hle : ¬ (os.length : Int) ≤ (i : Int) := by omega
    have HO := hide ho
    clear ho
    by_cases h0 : o < 0
    · go_enter Trym.func18, Trym.ntmps18
      go_wp2
      go_ret
      refine ⟨?_, rfl⟩
      have : ownO os N i = none := by unfold ownO; rw [HO.out]; simp; omega
      rw [this]; rfl
    by_cases h1 : (N : Int) ≤ o
    · go_enter Trym.func18, Trym.ntmps18
      go_wp2
      go_ret
      refine ⟨?_, rfl⟩
      have : ownO os N i = none := by unfold ownO; rw [HO.out]; simp; omega
      rw [this]; rfl
    · go_enter Trym.func18, Trym.ntmps18
      go_wp2
      go_ret
      refine ⟨?_, rfl⟩
      have : ownO os N i = some o.toNat := by unfold ownO; rw [HO.out]; simp; omega
      rw [this]
      exact ret_int (by simp [ownI]; omega)
  · have hle : (os.length : Int) ≤ (i : Int) := by omega
    have HO : Hid (os[i]? = none) := List.getElem?_eq_none (by omega)
    go_enter Trym.func18, Trym.ntmps18
    go_wp2
    go_ret
    refine ⟨?_, rfl⟩
    have : ownO os N i = none := by unfold ownO; rw [HO.out]
    rw [this]; rfl

set_option maxHeartbeats 800000 in
theorem targetAt_any (a : Option Addr) (c : Nat) (ts : List ByteArray) (i : Nat) (w : World) (hrow : Hid (StrsAt w a ts)) :
    Calls Trym.prog 19 #[.slice a ts.length c, .int .i64 i] w fun e w' => e = .returned (.string (tgt ts i)) ∧ w' = w := by
  by_cases hlt : i < ts.length
  · obtain ⟨t, ht⟩ : ∃ t, ts[i]? = some t := ⟨_, List.getElem?_eq_getElem hlt⟩
    obtain ⟨b, off, rfl, hc⟩ := hrow.out i t ht
    have HT := hide ht
    clear ht
    go_enter Trym.func19, Trym.ntmps19
    go_wp2
    go_ret
    exact ⟨by unfold tgt; rw [HT.out]; rfl, rfl⟩
  · have HT : Hid (ts[i]? = none) := List.getElem?_eq_none (by omega)
    go_enter Trym.func19, Trym.ntmps19
    go_wp2
    go_ret
    exact ⟨by unfold tgt; rw [HT.out]; rfl, rfl⟩

set_option maxHeartbeats 1600000 in
theorem bytesOfInts_any (t : Int) (a : Option Addr) (n c : Nat) (w : World) (h0 : 0 ≤ t) (_h1 : t ≤ 1048577) (hn : n ≤ 1048576) :
    Calls Trym.prog 15 #[.int .i64 t, .slice a n c] w fun e w' => Counts e ∧ w' = w := by
  have hn0 : ¬ t < 0 := by omega
  by_cases hb : (1048576 : Int) < t
  · go_enter Trym.func15, Trym.ntmps15
    go_wp2
    go_ret
    exact ⟨Counts.big, rfl⟩
  have hq : (1048576 - t).tdiv 8 = (1048576 - t) / 8 := Int.tdiv_eq_ediv_of_nonneg (by omega)
  by_cases hf : (1048576 - t) / 8 < (n : Int)
  · go_enter Trym.func15, Trym.ntmps15
    go_wp2
    go_ret
    exact ⟨Counts.big, rfl⟩
  go_enter Trym.func15, Trym.ntmps15
  go_wp2
  go_ret
  exact ⟨⟨_, rfl, by omega, by omega⟩, rfl⟩

set_option maxHeartbeats 400000 in
theorem zzLink_any (W0 : World) (r : Nat) (T : List (ByteArray × RefP)) (name : ByteArray) (a : Option Addr) (n c : Nat) (qs : List RefP) (S : Idx) (w : World) (hrow : Hid (RefsAt W0 a qs)) (hl : qs.length = n) (hn : n ≤ 1048576) (hb : Hid (Below W0.heap.size W0 w)) (hix : Hid (IxAt w r W0.heap.size S)) (hok : Hid (IdxOk T S)) :
    Calls Trym.prog 17 #[.map (some r), .string name, .slice a n c] w (LinkPost W0 r (T ++ qs.map (lk name))) := by
  subst hl
  go_enter Trym.func17, Trym.ntmps17
  go_wp2_with fail
  refine (link_any W0 r T name a c qs S w hrow hn hb hix hok).mono ?_
  rintro e w' hp
  obtain ⟨rfl, h1, h2⟩ := hp
  have H1 := hide h1
  have H2 := hide h2
  clear h1 h2
  go_wp2_with fail
  go_end0
  exact ⟨rfl, H1.out, H2.out⟩

set_option maxHeartbeats 3200000 in
theorem zzExact_any (a : Option Addr) (c : Nat) (fs : List ByteArray) (a2 : Option Addr) (c2 : Nat) (ts : List ByteArray) (a3 : Option Addr) (c3 : Nat) (gs : List ByteArray) (a4 : Option Addr) (n4 c4 : Nat) (w : World) (hr1 : Hid (StrsAt w a fs)) (hr2 : Hid (StrsAt w a2 ts)) (hr3 : Hid (StrsAt w a3 gs)) :
    Calls Trym.prog 14 #[.slice a fs.length c, .slice a2 ts.length c2, .slice a3 gs.length c3, .slice a4 n4 c4] w fun e w' => Bounded (fs.length + sumS fs + ts.length + sumS ts + gs.length + sumS gs + n4) e ∧ w' = w := by
  by_cases hbig : (1048576 : Int) < (fs.length : Int)
  · go_enter Trym.func14, Trym.ntmps14
    go_wp2
    go_ret
    exact ⟨Bounded.no, rfl⟩
  go_enter Trym.func14, Trym.ntmps14
  go_wp2
  go_loop [9, 10] (fun s i => ∃ k : Nat, k ≤ fs.length ∧ i = .int .i64 k ∧ s = .int .i64 (fs.length + sumS (fs.take k)) ∧ fs.length + sumS (fs.take k) ≤ 1048576) (fun _ i => fs.length - (intOf i).toNat)
  case atStart => exact ⟨0, Nat.zero_le _, rfl, by simp [sumS], by simp [sumS]; omega⟩
  case round =>
    obtain ⟨k, hk, rfl, rfl, hle0⟩ := hrel
    by_cases hlt : k < fs.length
    · obtain ⟨s, hs⟩ : ∃ s, fs[k]? = some s := ⟨_, List.getElem?_eq_getElem hlt⟩
      obtain ⟨b1, off, rfl, hcell⟩ := hr1.out k s hs
      have HS := hide (sumS_take_succ hs)
      clear hs
      by_cases hfit : (1048576 : Int) < s.size
      · go_wp2
        go_ret
        exact ⟨Bounded.no, rfl⟩
      by_cases hfit2 : (1048576 : Int) < fs.length + sumS (fs.take k) + s.size
      · go_wp2
        go_ret
        exact ⟨Bounded.no, rfl⟩
      · go_wp2
        go_round
        case rel => exact ⟨k + 1, by omega, by go_num, by rw [HS.out]; go_num, by rw [HS.out]; omega⟩
        case measure => simp [intOf]; omega
    obtain rfl : k = fs.length := by omega
    rw [List.take_length] at hle0 ⊢
    generalize hT0 : fs.length + sumS fs = T0 at hle0 ⊢
    rw [show (fs.length : Int) + (sumS fs : Int) = (T0 : Int) by omega]
    by_cases h50 : (1048576 : Int) < (ts.length : Int)
    · go_wp2
      go_ret
      exact ⟨Bounded.no, rfl⟩
    by_cases h60 : (1048576 : Int) < (T0 : Int) + (ts.length : Int)
    · go_wp2
      go_ret
      exact ⟨Bounded.no, rfl⟩
    go_wp2
    go_loop [9, 11] (fun s i => ∃ k : Nat, k ≤ ts.length ∧ i = .int .i64 k ∧ s = .int .i64 ((T0 : Int) + ts.length + sumS (ts.take k)) ∧ T0 + ts.length + sumS (ts.take k) ≤ 1048576) (fun _ i => ts.length - (intOf i).toNat)
    case atStart => exact ⟨0, Nat.zero_le _, rfl, by simp [sumS], by simp [sumS]; omega⟩
    case round =>
      obtain ⟨k, hk, rfl, rfl, hle1⟩ := hrel
      by_cases hlt : k < ts.length
      · obtain ⟨s, hs⟩ : ∃ s, ts[k]? = some s := ⟨_, List.getElem?_eq_getElem hlt⟩
        obtain ⟨b1, off, rfl, hcell⟩ := hr2.out k s hs
        have HS := hide (sumS_take_succ hs)
        clear hs
        by_cases hfit : (1048576 : Int) < s.size
        · go_wp2
          go_ret
          exact ⟨Bounded.no, rfl⟩
        by_cases hfit2 : (1048576 : Int) < (T0 : Int) + ts.length + sumS (ts.take k) + s.size
        · go_wp2
          go_ret
          exact ⟨Bounded.no, rfl⟩
        · go_wp2
          go_round
          case rel => exact ⟨k + 1, by omega, by go_num, by rw [HS.out]; go_num, by rw [HS.out]; omega⟩
          case measure => simp [intOf]; omega
      obtain rfl : k = ts.length := by omega
      rw [List.take_length] at hle1 ⊢
      generalize hT1 : T0 + ts.length + sumS ts = T1 at hle1 ⊢
      rw [show (T0 : Int) + (ts.length : Int) + (sumS ts : Int) = (T1 : Int) by omega]
      by_cases h51 : (1048576 : Int) < (gs.length : Int)
      · go_wp2
        go_ret
        exact ⟨Bounded.no, rfl⟩
      by_cases h61 : (1048576 : Int) < (T1 : Int) + (gs.length : Int)
      · go_wp2
        go_ret
        exact ⟨Bounded.no, rfl⟩
      go_wp2
      go_loop [9, 12] (fun s i => ∃ k : Nat, k ≤ gs.length ∧ i = .int .i64 k ∧ s = .int .i64 ((T1 : Int) + gs.length + sumS (gs.take k)) ∧ T1 + gs.length + sumS (gs.take k) ≤ 1048576) (fun _ i => gs.length - (intOf i).toNat)
      case atStart => exact ⟨0, Nat.zero_le _, rfl, by simp [sumS], by simp [sumS]; omega⟩
      case round =>
        obtain ⟨k, hk, rfl, rfl, hle2⟩ := hrel
        by_cases hlt : k < gs.length
        · obtain ⟨s, hs⟩ : ∃ s, gs[k]? = some s := ⟨_, List.getElem?_eq_getElem hlt⟩
          obtain ⟨b1, off, rfl, hcell⟩ := hr3.out k s hs
          have HS := hide (sumS_take_succ hs)
          clear hs
          by_cases hfit : (1048576 : Int) < s.size
          · go_wp2
            go_ret
            exact ⟨Bounded.no, rfl⟩
          by_cases hfit2 : (1048576 : Int) < (T1 : Int) + gs.length + sumS (gs.take k) + s.size
          · go_wp2
            go_ret
            exact ⟨Bounded.no, rfl⟩
          · go_wp2
            go_round
            case rel => exact ⟨k + 1, by omega, by go_num, by rw [HS.out]; go_num, by rw [HS.out]; omega⟩
            case measure => simp [intOf]; omega
        obtain rfl : k = gs.length := by omega
        rw [List.take_length] at hle2 ⊢
        generalize hT2 : T1 + gs.length + sumS gs = T2 at hle2 ⊢
        rw [show (T1 : Int) + (gs.length : Int) + (sumS gs : Int) = (T2 : Int) by omega]
        by_cases h52 : (1048576 : Int) < (n4 : Int)
        · go_wp2
          go_ret
          exact ⟨Bounded.no, rfl⟩
        by_cases h62 : (1048576 : Int) < (T2 : Int) + (n4 : Int)
        · go_wp2
          go_ret
          exact ⟨Bounded.no, rfl⟩
        go_wp2
        go_ret
        exact ⟨Bounded.yes (by omega), rfl⟩

set_option maxHeartbeats 3200000 in
theorem zzSplit_any (a : Option Addr) (c : Nat) (fs : List ByteArray) (a2 : Option Addr) (c2 : Nat) (ts : List ByteArray) (a3 : Option Addr) (c3 : Nat) (gs : List ByteArray) (a4 : Option Addr) (n4 c4 : Nat) (w : World) (hr1 : Hid (StrsAt w a fs)) (hr2 : Hid (StrsAt w a2 ts)) (hr3 : Hid (StrsAt w a3 gs)) :
    Calls Trym.prog 20 #[.slice a fs.length c, .slice a2 ts.length c2, .slice a3 gs.length c3, .slice a4 n4 c4] w fun e w' => Bounded (fs.length + sumS fs + ts.length + sumS ts + gs.length + sumS gs + n4) e ∧ w' = w := by
  by_cases hbig : (1048576 : Int) < (fs.length : Int)
  · go_enter Trym.func20, Trym.ntmps20
    go_wp2
    go_ret
    exact ⟨Bounded.no, rfl⟩
  go_enter Trym.func20, Trym.ntmps20
  go_wp2
  go_loop [9, 10] (fun s i => ∃ k : Nat, k ≤ fs.length ∧ i = .int .i64 k ∧ s = .int .i64 (fs.length + sumS (fs.take k)) ∧ fs.length + sumS (fs.take k) ≤ 1048576) (fun _ i => fs.length - (intOf i).toNat)
  case atStart => exact ⟨0, Nat.zero_le _, rfl, by simp [sumS], by simp [sumS]; omega⟩
  case round =>
    obtain ⟨k, hk, rfl, rfl, hle0⟩ := hrel
    by_cases hlt : k < fs.length
    · obtain ⟨s, hs⟩ : ∃ s, fs[k]? = some s := ⟨_, List.getElem?_eq_getElem hlt⟩
      obtain ⟨b1, off, rfl, hcell⟩ := hr1.out k s hs
      have HS := hide (sumS_take_succ hs)
      clear hs
      by_cases hfit : (1048576 : Int) < s.size
      · go_wp2
        go_ret
        exact ⟨Bounded.no, rfl⟩
      by_cases hfit2 : (1048576 : Int) < fs.length + sumS (fs.take k) + s.size
      · go_wp2
        go_ret
        exact ⟨Bounded.no, rfl⟩
      · go_wp2
        go_round
        case rel => exact ⟨k + 1, by omega, by go_num, by rw [HS.out]; go_num, by rw [HS.out]; omega⟩
        case measure => simp [intOf]; omega
    obtain rfl : k = fs.length := by omega
    rw [List.take_length] at hle0 ⊢
    generalize hT0 : fs.length + sumS fs = T0 at hle0 ⊢
    rw [show (fs.length : Int) + (sumS fs : Int) = (T0 : Int) by omega]
    by_cases h50 : (1048576 : Int) < (ts.length : Int)
    · go_wp2
      go_ret
      exact ⟨Bounded.no, rfl⟩
    by_cases h60 : (1048576 : Int) < (T0 : Int) + (ts.length : Int)
    · go_wp2
      go_ret
      exact ⟨Bounded.no, rfl⟩
    go_wp2
    go_loop [9, 11] (fun s i => ∃ k : Nat, k ≤ ts.length ∧ i = .int .i64 k ∧ s = .int .i64 ((T0 : Int) + ts.length + sumS (ts.take k)) ∧ T0 + ts.length + sumS (ts.take k) ≤ 1048576) (fun _ i => ts.length - (intOf i).toNat)
    case atStart => exact ⟨0, Nat.zero_le _, rfl, by simp [sumS], by simp [sumS]; omega⟩
    case round =>
      obtain ⟨k, hk, rfl, rfl, hle1⟩ := hrel
      by_cases hlt : k < ts.length
      · obtain ⟨s, hs⟩ : ∃ s, ts[k]? = some s := ⟨_, List.getElem?_eq_getElem hlt⟩
        obtain ⟨b1, off, rfl, hcell⟩ := hr2.out k s hs
        have HS := hide (sumS_take_succ hs)
        clear hs
        by_cases hfit : (1048576 : Int) < s.size
        · go_wp2
          go_ret
          exact ⟨Bounded.no, rfl⟩
        by_cases hfit2 : (1048576 : Int) < (T0 : Int) + ts.length + sumS (ts.take k) + s.size
        · go_wp2
          go_ret
          exact ⟨Bounded.no, rfl⟩
        · go_wp2
          go_round
          case rel => exact ⟨k + 1, by omega, by go_num, by rw [HS.out]; go_num, by rw [HS.out]; omega⟩
          case measure => simp [intOf]; omega
      obtain rfl : k = ts.length := by omega
      rw [List.take_length] at hle1 ⊢
      generalize hT1 : T0 + ts.length + sumS ts = T1 at hle1 ⊢
      rw [show (T0 : Int) + (ts.length : Int) + (sumS ts : Int) = (T1 : Int) by omega]
      by_cases h51 : (1048576 : Int) < (gs.length : Int)
      · go_wp2
        go_ret
        exact ⟨Bounded.no, rfl⟩
      by_cases h61 : (1048576 : Int) < (T1 : Int) + (gs.length : Int)
      · go_wp2
        go_ret
        exact ⟨Bounded.no, rfl⟩
      go_wp2
      go_loop [9, 12] (fun s i => ∃ k : Nat, k ≤ gs.length ∧ i = .int .i64 k ∧ s = .int .i64 ((T1 : Int) + gs.length + sumS (gs.take k)) ∧ T1 + gs.length + sumS (gs.take k) ≤ 1048576) (fun _ i => gs.length - (intOf i).toNat)
      case atStart => exact ⟨0, Nat.zero_le _, rfl, by simp [sumS], by simp [sumS]; omega⟩
      case round =>
        obtain ⟨k, hk, rfl, rfl, hle2⟩ := hrel
        by_cases hlt : k < gs.length
        · obtain ⟨s, hs⟩ : ∃ s, gs[k]? = some s := ⟨_, List.getElem?_eq_getElem hlt⟩
          obtain ⟨b1, off, rfl, hcell⟩ := hr3.out k s hs
          have HS := hide (sumS_take_succ hs)
          clear hs
          by_cases hfit : (1048576 : Int) < s.size
          · go_wp2
            go_ret
            exact ⟨Bounded.no, rfl⟩
          by_cases hfit2 : (1048576 : Int) < (T1 : Int) + gs.length + sumS (gs.take k) + s.size
          · go_wp2
            go_ret
            exact ⟨Bounded.no, rfl⟩
          · go_wp2
            go_round
            case rel => exact ⟨k + 1, by omega, by go_num, by rw [HS.out]; go_num, by rw [HS.out]; omega⟩
            case measure => simp [intOf]; omega
        obtain rfl : k = gs.length := by omega
        rw [List.take_length] at hle2 ⊢
        generalize hT2 : T1 + gs.length + sumS gs = T2 at hle2 ⊢
        rw [show (T1 : Int) + (gs.length : Int) + (sumS gs : Int) = (T2 : Int) by omega]
        by_cases h52 : (1048576 : Int) < (n4 : Int)
        · go_wp2
          go_ret
          exact ⟨Bounded.no, rfl⟩
        by_cases h62 : (1048576 : Int) < (T2 : Int) + (n4 : Int)
        · go_wp2
          go_ret
          exact ⟨Bounded.no, rfl⟩
        go_wp2
        go_ret
        exact ⟨Bounded.yes (by omega), rfl⟩

end Go.Proofs.Qxb6600877aMods
