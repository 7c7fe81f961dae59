import Derived.Test.Qxb6600877aModsA2
namespace Go.Proofs.Qxb6600877aMods
open Go.RowKit

theorem bytes_toList_inj {a b : ByteArray} : a.toList = b.toList ↔ a = b := by
  constructor
  · intro h
    rw [ByteArray.toList_eq, ByteArray.toList_eq] at h
    exact ByteArray.ext (Array.ext' h)
  · rintro rfl; rfl
theorem Trym.guard32 : Trym.prog.eqGuardType Trym.prog.depth 32 = false := by kernel_rfl
theorem run_equal32 (w : World) (a b c d : ByteArray) : (Op.equalIn 10000 32 (.agg #[.string a, .string b]) (.agg #[.string c, .string d])).run Trym.prog w = .ok (decide ((a, b) = (c, d))) w := by
  have hf : Trym.prog.underlying 32 = some (.struct (Trym.prog.fieldsOf 32)) := by kernel_rfl
  have hs : Trym.prog.stoodInHeld 32 = false := by kernel_rfl
  have hu9 := Trym.underlying9
  have h := run_equalIn_struct (P := Trym.prog) w 9999 32 #[.string a, .string b] #[.string c, .string d] hf hs
  rw [show 10000 = 9999 + 1 from rfl, h]
  rw [Trym.underlying32] at hf
  have hfl : Trym.prog.fieldsOf 32 = _ := (TypeDesc.struct.inj (Option.some.inj hf)).symm
  rw [hfl]
  simp [go_sem, Op.eqFields, bytes_toList_inj]
  by_cases h1 : a = c
  · by_cases h2 : b = d <;> simp [h1, h2]
  · simp [h1]

theorem take_eq_next {α : Type} {l m : List α} {k : Nat} {x : α} (h : l.take k = m.take k) (hl : l[k]? = some x) (hm : m[k]? = some x) : l.take (k + 1) = m.take (k + 1) := by
  rw [List.take_add_one, List.take_add_one, h, hl, hm]

set_option maxRecDepth 100000 in
set_option maxHeartbeats 1600000 in
/-- sameRefs. -/
theorem sameRefs_any (a : Option Addr) (c : Nat) (rs : List RefP) (b : Option Addr) (d : Nat) (qs : List RefP) (w : World) (hrow : Hid (RefsAt w a rs)) (hrow2 : Hid (RefsAt w b qs)) (hn : rs.length ≤ 1048576) :
    Calls Trym.prog 21 #[.slice a rs.length c, .slice b qs.length d] w fun e w' => e = .returned (.bool (decide (rs = qs))) ∧ ∃ m, w' = w.drewN m := by
  by_cases hlen : rs.length = qs.length
  · have hne : ((rs.length : Int) != (qs.length : Int)) = false := by simp [hlen]
    have HL := hide hlen
    clear hlen
    go_enter Trym.func21, Trym.ntmps21
    go_wp2
    go_loopw [13] (fun i wr => ∃ k : Nat, k ≤ rs.length ∧ i = .int .i64 k ∧ (∃ m, wr = w.drewN m) ∧ rs.take k = qs.take k) (fun i _ => rs.length - (intOf i).toNat)
    case atStart => exact ⟨0, Nat.zero_le _, rfl, ⟨0, rfl⟩, by simp⟩
    case round =>
      obtain ⟨k, hk, rfl, ⟨m, hwm⟩, htk⟩ := hrel
      have hbel : Below w.heap.size w wr := by rw [hwm]; exact below_drewN (Below.refl _ _) m
      have HW := hide hwm
      have HT := hide htk
      clear hwm htk
      by_cases hlt : k < rs.length
      · obtain ⟨r, hr⟩ : ∃ r, rs[k]? = some r := ⟨_, List.getElem?_eq_getElem hlt⟩
        obtain ⟨q, hq⟩ : ∃ q, qs[k]? = some q := ⟨_, List.getElem?_eq_getElem (by have := HL.out; omega)⟩
        obtain ⟨b1, o1, rfl, c1, c2⟩ := hrow.out k r hr
        obtain ⟨b2, o2, rfl, c3, c4⟩ := hrow2.out k q hq
        have d1 := (hbel.cell (block_lt_of_cell c1)).trans c1
        have d2 := (hbel.cell (block_lt_of_cell c2)).trans c2
        have d3 := (hbel.cell (block_lt_of_cell c3)).trans c3
        have d4 := (hbel.cell (block_lt_of_cell c4)).trans c4
        have hi0 : (0 : Int) ≤ (k : Int) := Int.natCast_nonneg _
        have hi1 : (k : Int) < (rs.length : Int) := by omega
        have hi2 : (k : Int) < (qs.length : Int) := by have := HL.out; omega
        have hg32 := Trym.guard32
        have heq := fun w' => run_equal32 w' r.1 r.2 q.1 q.2
        have HR := hide hr
        have HQ := hide hq
        clear hbel c1 c2 c3 c4 hr hq
        by_cases hrq : r = q
        · have hdec : decide ((r.1, r.2) = (q.1, q.2)) = true := decide_eq_true hrq
          simp only [hdec] at heq
          clear hdec
          have HRQ := hide hrq
          clear hrq
          go_wp2_with fail
          go_region_held3 (fun w' => w'.cell? ⟨b1, o1 + k * 2, none⟩ = some (.string r.1) ∧ w'.cell? ⟨b1, o1 + k * 2 + 1, none⟩ = some (.string r.2) ∧ w'.cell? ⟨b2, o2 + k * 2, none⟩ = some (.string q.1) ∧ w'.cell? ⟨b2, o2 + k * 2 + 1, none⟩ = some (.string q.2)) (exact ⟨by simpa using d1, by simpa using d2, by simpa using d3, by simpa using d4⟩) (fail)
          go_wp2
          go_roundw
          case rel => exact ⟨k + 1, by omega, by go_num, ⟨m + 1, by rw [HW.out]; rfl⟩, take_eq_next HT.out HR.out (by rw [HRQ.out]; exact HQ.out)⟩
          case measure => simp [intOf]; omega
        · have hdec : decide ((r.1, r.2) = (q.1, q.2)) = false := decide_eq_false hrq
          simp only [hdec] at heq
          clear hdec
          have HRQ := hide hrq
          clear hrq
          go_wp2_with fail
          go_region_held3 (fun w' => w'.cell? ⟨b1, o1 + k * 2, none⟩ = some (.string r.1) ∧ w'.cell? ⟨b1, o1 + k * 2 + 1, none⟩ = some (.string r.2) ∧ w'.cell? ⟨b2, o2 + k * 2, none⟩ = some (.string q.1) ∧ w'.cell? ⟨b2, o2 + k * 2 + 1, none⟩ = some (.string q.2)) (exact ⟨by simpa using d1, by simpa using d2, by simpa using d3, by simpa using d4⟩) (fail)
          go_wp2
          go_ret
          have hno : rs ≠ qs := by
            rintro rfl
            exact HRQ.out (Option.some.inj (HR.out.symm.trans HQ.out))
          exact ⟨by rw [decide_eq_false hno]; rfl, m + 1, by rw [HW.out]; rfl⟩
      · obtain rfl : k = rs.length := by omega
        clear hbel
        go_wp2
        go_ret
        have hyes : rs = qs := by
          have h := HT.out
          rw [List.take_length, HL.out, List.take_length] at h
          exact h
        exact ⟨by rw [decide_eq_true hyes]; rfl, m, HW.out⟩
  · have hne : ((rs.length : Int) != (qs.length : Int)) = true := by rw [bne_iff_ne]; omega
    have HL := hide hlen
    clear hlen
    go_enter Trym.func21, Trym.ntmps21
    go_wp2
    go_ret
    have hno : rs ≠ qs := fun h => HL.out (by rw [h])
    exact ⟨by rw [decide_eq_false hno]; rfl, 0, rfl⟩

/-- sameRefs of lists of unlike lengths. -/
theorem sameRefs_len (a : Option Addr) (n c : Nat) (b : Option Addr) (m d : Nat) (w : World) (h : n ≠ m) :
    Calls Trym.prog 21 #[.slice a n c, .slice b m d] w fun e w' => e = .returned (.bool false) ∧ w' = w := by
  have hne : ((n : Int) != (m : Int)) = true := by rw [bne_iff_ne]; omega
  have HL := hide h
  clear h
  go_enter Trym.func21, Trym.ntmps21
  go_wp2
  go_ret
  exact ⟨rfl, rfl⟩

/-- ZZSameRefs. -/
theorem zzSame_any (a : Option Addr) (c : Nat) (rs : List RefP) (b : Option Addr) (d : Nat) (qs : List RefP) (w : World) (hrow : Hid (RefsAt w a rs)) (hrow2 : Hid (RefsAt w b qs)) (hn : rs.length ≤ 1048576) :
    Calls Trym.prog 10 #[.slice a rs.length c, .slice b qs.length d] w fun e w' => e = .returned (.bool (decide (rs = qs))) ∧ ∃ m, w' = w.drewN m := by
  go_enter Trym.func10, Trym.ntmps10
  go_wp2_with fail
  refine (sameRefs_any a c rs b d qs w hrow hrow2 hn).mono ?_
  rintro e w' ⟨rfl, hm⟩
  have HM := hide hm
  clear hm
  go_wp2_with fail
  go_ret
  exact ⟨rfl, HM.out⟩
theorem zzSame_len (a : Option Addr) (n c : Nat) (b : Option Addr) (m d : Nat) (w : World) (h : Hid (n ≠ m)) :
    Calls Trym.prog 10 #[.slice a n c, .slice b m d] w fun e w' => e = .returned (.bool false) ∧ w' = w := by
  go_enter Trym.func10, Trym.ntmps10
  go_wp2_with fail
  refine (sameRefs_len a n c b m d w h.out).mono ?_
  rintro e w' ⟨rfl, rfl⟩
  go_wp2_with fail
  go_ret
  exact ⟨rfl, rfl⟩

end Go.Proofs.Qxb6600877aMods
