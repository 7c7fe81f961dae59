import Derived.Test.Qxb6601980aModsH1
namespace Go.Proofs.Qxb6601980aMods
open Go.RowKit

theorem Trym.eqNil42 (w : World) (a : Option Addr) (n c n' c' : Nat) : (binOp .eql 42 (.slice a n c) (.slice none n' c')).run Trym.prog w = .ok (.bool a.isNone) w :=
  Lib.run_eql_slice_nil w 42 50 a n c n' c' Trym.underlying42
attribute [local go_sem] Trym.eqNil42

theorem queuedSize_any (a : Option Addr) (n c : Nat) (w : World) (hn : n ≤ 1048576) :
    Calls Trym.prog 31 #[.slice a n c] w fun e w' => e = .returned (.int .i64 ((n : Int) + 160)) ∧ w' = w := by
  go_enter Trym.func31, Trym.ntmps31
  go_wp2
  go_ret
  exact ⟨ret_int (by go_num), rfl⟩

/-- A [][32]byte's keys. -/
def KeysIn (w : World) (a : Option Addr) (ks : List (List Int)) : Prop := ∀ i k, ks[i]? = some k → k.length = 32 ∧ ∃ b off, a = some ⟨b, off, none⟩ ∧ w.rangeAt b (off + i * 32) (keyCells k)
theorem KeysIn.later {w w' : World} {a : Option Addr} {ks : List (List Int)} (h : KeysIn w a ks) (hb : Below w.heap.size w w') : KeysIn w' a ks := by
  intro i k hk
  obtain ⟨h1, b, off, ha, hr⟩ := h i k hk
  exact ⟨h1, b, off, ha, rangeAt_later hb hr⟩

set_option maxHeartbeats 1600000 in
theorem zzRemove_any (x0 x2 x3 x4 : Value) (a : Option Addr) (c : Nat) (es : List Ent) (b5 : Option Addr) (c5 n5 : Nat) (w : World) (hrow : Hid (EntsAt w a es)) :
    Calls Trym.prog 29 #[x0, .slice a es.length c, x2, x3, x4, .slice b5 n5 c5] w fun e w' => Bounded' (es.length + 32 * es.length + sumL (lensOf es) + n5 + 32 * n5) e ∧ w' = w := by
  by_cases hbig : (1048576 : Int) < (es.length : Int)
  · go_enter Trym.func29, Trym.ntmps29
    go_wp2
    go_ret
    exact ⟨Bounded'.no, rfl⟩
  go_enter Trym.func29, Trym.ntmps29
  go_wp2
  go_loop [13, 14] (fun s i => ∃ k : Nat, k ≤ es.length ∧ i = .int .i64 k ∧ s = .int .i64 (es.length + 32 * k + sumL (lensOf (es.take k))) ∧ es.length + 32 * k + sumL (lensOf (es.take k)) ≤ 1048576) (fun _ i => es.length - (intOf i).toNat)
  case atStart => exact ⟨0, Nat.zero_le _, rfl, by simp [lensOf, sumL], by simp [lensOf, sumL]; omega⟩
  case round =>
    obtain ⟨k, hk, rfl, rfl, hle⟩ := hrel
    by_cases hlt : k < es.length
    · obtain ⟨e, he⟩ : ∃ e, es[k]? = some e := ⟨_, List.getElem?_eq_getElem hlt⟩
      obtain ⟨b, off, rfl, hr⟩ := hrow.out k e he
      have hcell := rangeAt_tx hr
      have HS := hide (sumL_take_succ he)
      clear hr he
      by_cases hfit0 : (1048576 : Int) < es.length + 32 * k + sumL (lensOf (es.take k)) + 32
      · go_wp2
        go_ret
        exact ⟨Bounded'.no, rfl⟩
      by_cases hfit : (1048576 : Int) < e.n
      · go_wp2
        go_ret
        exact ⟨Bounded'.no, rfl⟩
      by_cases hfit2 : (1048576 : Int) < es.length + 32 * k + sumL (lensOf (es.take k)) + 32 + e.n
      · go_wp2
        go_ret
        exact ⟨Bounded'.no, rfl⟩
      · go_wp2
        go_round
        case rel => exact ⟨k + 1, by omega, by go_num, by rw [HS.out]; go_num, by rw [HS.out]; omega⟩
        case measure => simp [intOf]; omega
    obtain rfl : k = es.length := by omega
    rw [List.take_length] at hle ⊢
    generalize hT : es.length + 32 * es.length + sumL (lensOf es) = T at hle ⊢
    rw [show (es.length : Int) + 32 * (es.length : Int) + (sumL (lensOf es) : Int) = (T : Int) by omega]
    by_cases h5 : (1048576 : Int) < (n5 : Int)
    · go_wp2
      go_ret
      exact ⟨Bounded'.no, rfl⟩
    by_cases h6 : (1048576 : Int) < (T : Int) + (n5 : Int)
    · go_wp2
      go_ret
      exact ⟨Bounded'.no, rfl⟩
    go_wp2
    go_loop [13, 15] (fun s i => ∃ k : Nat, k ≤ n5 ∧ i = .int .i64 k ∧ s = .int .i64 ((T : Int) + n5 + 32 * k) ∧ T + n5 + 32 * k ≤ 1048576) (fun _ i => n5 - (intOf i).toNat)
    case atStart => exact ⟨0, Nat.zero_le _, rfl, by go_num, by omega⟩
    case round =>
      obtain ⟨k, hk, rfl, rfl, hle2⟩ := hrel
      by_cases hlt : k < n5
      · by_cases hfit0 : (1048576 : Int) < (T : Int) + n5 + 32 * k + 32
        · go_wp2
          go_ret
          exact ⟨Bounded'.no, rfl⟩
        · go_wp2
          go_round
          case rel => exact ⟨k + 1, by omega, by go_num, by go_num, by omega⟩
          case measure => simp [intOf]; omega
      obtain rfl : k = n5 := by omega
      go_wp2
      go_ret
      exact ⟨Bounded'.yes (by omega), rfl⟩

/-- What cloneKeys leaves. -/
structure ClonedKeys (w : World) (ks : List (List Int)) (e : Ending) (w' : World) : Prop where
  form : ∃ a, e = .returned (.slice a ks.length ks.length) ∧ KeysIn w' a ks
  below : Below w.heap.size w w'

theorem cloneKeys_nil (w : World) : Calls Trym.prog 30 #[.slice none 0 0] w (ClonedKeys w []) := by
  go_enter Trym.func30, Trym.ntmps30
  go_wp2
  go_ret
  exact ⟨⟨none, rfl, fun i k h => by simp at h⟩, Below.refl _ _⟩

set_option maxRecDepth 100000 in
set_option maxHeartbeats 1600000 in
theorem cloneKeys_some (ad : Addr) (c : Nat) (ks : List (List Int)) (w : World) (hrow : Hid (KeysIn w (some ad) ks)) (hn : ks.length ≤ 1048576) :
    Calls Trym.prog 30 #[.slice (some ad) ks.length c] w (ClonedKeys w ks) := by
  have hmk := make_any Trym.underlying42 Trym.info50 ks.length hn (by decide)
  go_enter Trym.func30, Trym.ntmps30
  go_wp2
  go_loopw [12] (fun i wr => ∃ k : Nat, k ≤ ks.length ∧ i = .int .i64 k ∧ Below w.heap.size w wr ∧ (∃ C, wr.heap[w.heap.size]? = some (.cells C 50 (0, 0)) ∧ C.size = ks.length * 32) ∧ KeysIn wr (some ⟨w.heap.size, 0, none⟩) (ks.take k)) (fun i _ => ks.length - (intOf i).toNat)
  case atStart =>
    refine ⟨0, Nat.zero_le _, rfl, (Below.refl _ _).alloc (Nat.le_refl _) _, ⟨_, heap_alloc_new _ _, size_madeCells _ _⟩, ?_⟩
    intro i e h; simp at h
  case round =>
    obtain ⟨k, hk, rfl, hbel, ⟨C, hC, hCs⟩, hkeys⟩ := hrel
    by_cases hlt : k < ks.length
    · obtain ⟨e, he⟩ : ∃ e, ks[k]? = some e := ⟨_, List.getElem?_eq_getElem hlt⟩
      obtain ⟨hlen, b, off, hab, hr⟩ := hrow.out k e he
      obtain rfl := Option.some.inj hab
      have HR := hide (rangeAt_later hbel hr)
      have hth : wr.there w.heap.size (k * 32) (keyCells e).toArray.size := by
        intro j hj
        have hj2 : j < 32 := by simpa [keyCells_length, hlen] using hj
        rw [cell_of_row _ _ _ _ _ _ hC, frozen_of_row _ _ _ _ _ hC]
        exact ⟨by rw [Array.getElem?_eq_getElem (by rw [hCs]; omega)]; rfl, rfl⟩
      have HTh := hide hth
      have HB := hide hbel
      have H1 := hide hC
      have H2 := hide hCs
      have H5 := hide hkeys
      have HE := hide he
      have HL := hide hlen
      clear hr hth hbel hC hCs hkeys he hmk hlen
      go_wp2_with (first | (refine wpList_load_mid rfl 50 _ rfl _ _ rfl (keyCells e) _ HR.out Trym.underlying50 rfl (by rw [Trym.size50, keyCells_length, HL.out]) ?_) | (refine wpList_store_mid rfl 50 _ _ rfl _ _ (keyCells e).toArray rfl rfl HTh.out (by rw [Trym.size50]; simp [keyCells_length, HL.out]) (all_oneCell_toArray (keyCells_one _)) ?_))
      go_roundw
      case rel =>
        have hkk : (ks.take k).length = k := by simp; omega
        have hcs := heap_setCells_same w.heap.size 50 (keyCells e) (k * 32) wr C H1.out
        refine ⟨k + 1, by omega, by go_num, below_setCells HB.out (Nat.le_refl _) _ _, ⟨_, hcs, by rw [size_putRow]; exact H2.out⟩, ?_⟩
        intro i x hx
        rw [List.take_add_one, HE.out] at hx
        by_cases hik : i < k
        · rw [List.getElem?_append_left (by omega)] at hx
          obtain ⟨hxl, b', off', hab', hr'⟩ := H5.out i x hx
          obtain ⟨rfl, rfl⟩ : w.heap.size = b' ∧ 0 = off' := by simpa using hab'
          refine ⟨hxl, _, _, rfl, World.rangeAt_setCells_apart hr' _ _ _ (Or.inr (Or.inl ?_))⟩
          rw [keyCells_length, hxl]; omega
        · rw [List.getElem?_append_right (by omega), hkk] at hx
          have hi2 : i = k := by
            have := (List.getElem?_eq_some_iff.1 hx).1
            simp at this; omega
          subst hi2
          have : x = e := by simpa using hx.symm
          subst this
          refine ⟨HL.out, _, _, rfl, ?_⟩
          rw [Nat.zero_add]
          exact World.rangeAt_setCells_same _ _ _ _ (by simpa using HTh.out)
      case measure => simp [intOf]; omega
    · obtain rfl : k = ks.length := by omega
      rw [List.take_length] at hkeys
      have HB := hide hbel
      have H5 := hide hkeys
      clear hbel hC hkeys hmk hCs
      go_wp2
      go_ret
      exact ⟨⟨_, rfl, H5.out⟩, HB.out⟩

theorem cloneKeys_any (a : Option Addr) (c : Nat) (ks : List (List Int)) (w : World) (hnil : a = none → ks = [] ∧ c = 0) (hrow : KeysIn w a ks) (hn : ks.length ≤ 1048576) :
    Calls Trym.prog 30 #[.slice a ks.length c] w (ClonedKeys w ks) := by
  cases a with
  | none =>
    obtain ⟨rfl, rfl⟩ := hnil rfl
    exact cloneKeys_nil w
  | some ad => exact cloneKeys_some ad c ks w hrow hn

end Go.Proofs.Qxb6601980aMods
