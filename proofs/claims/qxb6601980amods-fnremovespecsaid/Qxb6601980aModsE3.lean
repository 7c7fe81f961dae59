import Derived.Test.Qxb6601980aModsE2
namespace Go.Proofs.Qxb6601980aMods
open Go.RowKit

theorem EntsAt.at {w : World} {a : Option Addr} {es : List Ent} (h : EntsAt w a es) {k : Nat} (hk : k < es.length) : ∃ e b off, es[k]? = some e ∧ a = some ⟨b, off, none⟩ ∧ w.rangeAt b (off + k * 33) (entCells e) := by
  obtain ⟨b, off, ha, hr⟩ := h k _ (List.getElem?_eq_getElem hk)
  exact ⟨_, b, off, List.getElem?_eq_getElem hk, ha, hr⟩

theorem cell_ent_tx (w : World) (e : Ent) (t : TypeId) : (w.alloc (.cells (entCells e).toArray t)).cell? ⟨w.heap.size, 32, none⟩ = some (.slice e.a e.n e.c) := by
  rw [World.cell?_alloc_at _ _ _ _ rfl]
  simpa using entCells_tx e

set_option maxHeartbeats 800000 in
theorem entsBytes_any (a : Option Addr) (c : Nat) (es : List Ent) (w : World) (hrow : Hid (EntsAt w a es)) :
    Calls Trym.prog 14 #[.slice a es.length c] w fun e w' => Counted (56 * es.length + sumL (lensOf es)) e ∧ Below w.heap.size w w' := by
  by_cases hbig : (1048576 : Int) < (es.length : Int)
  · go_enter Trym.func14, Trym.ntmps14
    go_wp2
    go_ret2
    exact ⟨Counted.no, Below.refl _ _⟩
  by_cases hbig2 : (1048576 : Int) < 56 * (es.length : Int)
  · go_enter Trym.func14, Trym.ntmps14
    go_wp2
    go_ret2
    exact ⟨Counted.no, Below.refl _ _⟩
  go_enter Trym.func14, Trym.ntmps14
  go_wp2
  go_loopw [4, 17] (fun s i wr => ∃ k : Nat, k ≤ es.length ∧ i = .int .i64 k ∧ s = .int .i64 (56 * es.length + sumL (lensOf (es.take k))) ∧ 56 * es.length + sumL (lensOf (es.take k)) ≤ 1048576 ∧ Below w.heap.size w wr) (fun _ i _ => es.length - (intOf i).toNat)
  case atStart => exact ⟨0, Nat.zero_le _, rfl, by simp [lensOf, sumL], by simp [lensOf, sumL]; omega, Below.refl _ _⟩
  case round =>
    obtain ⟨k, hk, rfl, rfl, hle, hbel⟩ := hrel
    by_cases hlt : k < es.length
    · obtain ⟨e, b, off, he, rfl, hr⟩ := hrow.out.at hlt
      have HR := hide (rangeAt_later hbel hr)
      have HS := hide (sumL_take_succ he)
      have HB := hide hbel
      have htx := cell_ent_tx wr e 53
      clear hr he hbel
      by_cases hfit : (1048576 : Int) - (56 * es.length + sumL (lensOf (es.take k))) < e.n
      · go_wp2_with (first | (refine wpList_load_mid rfl 53 _ rfl _ _ rfl (entCells e) _ HR.out Trym.underlying53 rfl (by rw [Trym.size53, entCells_length]) ?_) | (refine wpList_alloc_row rfl 53 rfl _ _ _ Trym.info53 ?_) | (refine wpList_store_new rfl 53 _ _ rfl rfl (entCells e) rfl rfl (by simp [entCells_length]) (by rw [Trym.size53, entCells_length]) (entCells_one e) ?_))
        go_ret2
        exact ⟨Counted.no, HB.out.alloc HB.out.size _⟩
      · go_wp2_with (first | (refine wpList_load_mid rfl 53 _ rfl _ _ rfl (entCells e) _ HR.out Trym.underlying53 rfl (by rw [Trym.size53, entCells_length]) ?_) | (refine wpList_alloc_row rfl 53 rfl _ _ _ Trym.info53 ?_) | (refine wpList_store_new rfl 53 _ _ rfl rfl (entCells e) rfl rfl (by simp [entCells_length]) (by rw [Trym.size53, entCells_length]) (entCells_one e) ?_))
        go_roundw
        case rel => exact ⟨k + 1, by omega, by go_num, by rw [HS.out]; go_num, by rw [HS.out]; omega, HB.out.alloc HB.out.size _⟩
        case measure => simp [intOf]; omega
    · obtain rfl : k = es.length := by omega
      go_wp2
      go_ret2
      exact ⟨Counted.yes (by simp) (by simpa using hle), hbel⟩

end Go.Proofs.Qxb6601980aMods
