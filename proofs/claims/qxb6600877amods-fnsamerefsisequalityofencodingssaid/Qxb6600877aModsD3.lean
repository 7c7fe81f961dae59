import Derived.Test.Qxb6600877aModsD2
namespace Go.Proofs.Qxb6600877aMods
open Go.RowKit

theorem own_convert {B : Nat} {v : Value} {xs : List Int} {W0 w : World} (h : Lib.OwnBuf B 5 v xs.length (u8s xs) W0 w) : (convert 47 9 v).run Trym.prog w = .ok (.string (strOfNums xs)) w := by
  rcases h.1.2 with ⟨rfl, hn⟩ | ⟨g, cap, cur, fz, rfl, -, hg, -, -, -, -, ht⟩
  · have hx : xs = [] := List.eq_nil_of_length_eq_zero hn
    subst hx
    rw [run_convert_bytes_nil w 47 5 Trym.underlying47 Trym.underlying5 0 0 9 Trym.underlying9]
    rfl
  · refine run_convert_bytes_arg w 47 5 Trym.underlying47 Trym.underlying5 g 0 xs.length cap xs rfl (fun i hi => ?_) 9 Trym.underlying9
    have h1 : (u8s xs)[i]? = some (.int .u8 (xs.getD i 0)) := by simp [u8s, hi]
    rw [← ht, Nat.mul_one, List.getElem?_take, if_pos hi] at h1
    rw [Nat.zero_add]
    simp [World.cell?, hg]
    simpa using h1

theorem own_cast {B : Nat} {e : TypeId} {v : Value} {n n' : Nat} {l l' : List Value} {W0 w : World} (h : Lib.OwnBuf B e v n l W0 w) (hn : n = n') (hl : l = l') : Lib.OwnBuf B e v n' l' W0 w := by
  subst hn hl; exact h

/-- The loop's. -/
structure EncInv (B : Nat) (rs : List RefP) (W0 : World) (u i : Value) (wr : World) : Prop where
  form : ∃ (k : Nat) (u' : Value), u' = u ∧ k ≤ rs.length ∧ i = .int .i64 k ∧ Lib.OwnBuf B 5 u' (encB (rs.take k)).length (u8s (encB (rs.take k))) W0 wr

/-- What encodeRefs leaves. -/
structure EncPost (rs : List RefP) (w : World) (e : Ending) (w' : World) : Prop where
  form : e = .returned (.string (strOfNums (encB rs)))
  below : Below w.heap.size w w'

theorem encB_take_le (rs : List RefP) (k : Nat) : (encB (rs.take k)).length ≤ (encB rs).length := by
  conv => rhs; rw [← List.take_append_drop k rs, encB_append, List.length_append]
  omega

set_option maxRecDepth 100000 in
set_option maxHeartbeats 1600000 in
theorem encodeRefs_any (a : Option Addr) (c : Nat) (rs : List RefP) (w : World) (hrow : Hid (RefsAt w a rs)) (hn : rs.length ≤ 1048576) (hS : Hid (∀ r ∈ rs, r.1.size ≤ 1048576 ∧ r.2.size ≤ 1048576)) (hE : (encB rs).length ≤ 100000000000000) :
    Calls Trym.prog 11 #[.slice a rs.length c] w (EncPost rs w) := by
  obtain ⟨i5, hi5, hz5, hs5, hby5⟩ := info_parts Trym.info5
  have HI := hide hi5
  have HZ := hide hz5
  have HS := hide hs5
  have HBY := hide hby5
  clear hi5 hz5 hs5 hby5
  go_enter Trym.func11, Trym.ntmps11
  go_wp2
  go_loopw [3, 4] (fun u i wr => EncInv w.heap.size rs w u i wr) (fun _ i _ => rs.length - (intOf i).toNat)
  case atStart => exact ⟨0, _, rfl, Nat.zero_le _, rfl, ⟨World.ownsRowF_nil _ _ _ _, Below.refl _ _, Nat.le_refl _⟩⟩
  case round =>
    obtain ⟨⟨k, bv, rfl, hk, rfl, hown⟩⟩ := hrel
    by_cases hlt : k < rs.length
    · obtain ⟨r, hr⟩ : ∃ r, rs[k]? = some r := ⟨_, List.getElem?_eq_getElem hlt⟩
      obtain ⟨b, off, rfl, c1, c2⟩ := hrow.out k r hr
      obtain ⟨hs1, hs2⟩ := hS.out r (List.mem_of_getElem? hr)
      have hxl : (encB (rs.take k)).length + ((decB r.1.size).length + 1 + r.1.size + (decB r.2.size).length + 1 + r.2.size) ≤ 100000000000000 := by
        have h1 := encB_take_le rs (k + 1)
        rw [encB_take_succ hr, List.length_append] at h1
        simp only [encR, List.length_append, bytesI_length, List.length_cons, List.length_nil] at h1
        omega
      obtain ⟨X, HX⟩ : ∃ X, Hid (X = encB (rs.take k)) := ⟨_, rfl⟩
      rw [← HX.out] at hown hxl
      have hd1 := (hown.2.1.cell (block_lt_of_cell c1)).trans c1
      have HOW := hide hown
      have HR := hide hr
      clear hown hr
      go_wp2_with fail
      refine (appendDecimal_any w.heap.size bv X r.1.size w wr HOW.out hs1 (by omega)).mono ?_
      rintro e w1 ⟨v1, rfl, hb1⟩
      have HB1 := hide hb1
      clear hb1 hd1 HOW
      obtain ⟨Y, HY⟩ : ∃ Y, Hid (Y = X ++ decB r.1.size) := ⟨_, rfl⟩
      rw [← HY.out] at HB1
      have hyl : Y.length = X.length + (decB r.1.size).length := by rw [HY.out, List.length_append]
      have hl1 : Y.length + 1 ≤ 140737488355328 := by omega
      have hl2 : Y.length + 1 + r.1.size ≤ 140737488355328 := by omega
      go_wp2_with (first | (at_builtin; refine Lib.wpList_append_byte rfl _ _ 47 rfl w.heap.size 5 i5 Trym.underlying47 HI.out HZ.out HS.out HBY.out v1 Y.length (u8s Y) rfl w w1 58 HB1.out rfl hl1 ?_; intro v2 w2 hb2; have hd2 := (hb2.2.1.cell (block_lt_of_cell c1)).trans c1; have HB2 := hide hb2; clear hb2) | (at_builtin; refine Lib.wpList_append_text rfl _ _ 47 9 rfl w.heap.size 5 i5 Trym.underlying47 Trym.underlying9 HI.out HZ.out HS.out HBY.out v2 (Y.length + 1) (u8s Y ++ [.int .u8 58]) rfl w HB2.out r.1 rfl hl2 ?_; intro v3 w3 hb3; have hd3 := (hb3.2.1.cell (block_lt_of_cell c2)).trans c2; have HB3 := hide hb3; clear hb3))
      obtain ⟨Z, HZZ⟩ : ∃ Z : List Int, Hid (Z = Y ++ ([58] ++ bytesI r.1)) := ⟨_, hide rfl⟩
      have hzl : Z.length = Y.length + 1 + r.1.size := by rw [HZZ.out]; simp [bytesI_length]; omega
      have HB3' : Hid (Lib.OwnBuf w.heap.size 5 v3 Z.length (u8s Z) w w3) := hide (own_cast HB3.out hzl.symm (by rw [HZZ.out, u8s_append, u8s_append, strCells_u8s, List.append_assoc]; rfl))
      clear HB3 HB2 HB1 hd2 hd3 hl1 hl2
      refine (appendDecimal_any w.heap.size v3 Z r.2.size w w3 HB3'.out hs2 (by omega)).mono ?_
      rintro e w4 ⟨v4, rfl, hb4⟩
      obtain ⟨U, HU⟩ : ∃ U, Hid (U = Z ++ decB r.2.size) := ⟨_, rfl⟩
      rw [← HU.out] at hb4
      have HB4 := hide hb4
      clear hb4
      have hul : U.length = Z.length + (decB r.2.size).length := by rw [HU.out, List.length_append]
      have hl1 : U.length + 1 ≤ 140737488355328 := by omega
      have hl2 : U.length + 1 + r.2.size ≤ 140737488355328 := by omega
      go_wp2_with (first | (at_builtin; refine Lib.wpList_append_byte rfl _ _ 47 rfl w.heap.size 5 i5 Trym.underlying47 HI.out HZ.out HS.out HBY.out v4 U.length (u8s U) rfl w w4 58 HB4.out rfl hl1 ?_; intro v5 w5 hb5; have hd5 := (hb5.2.1.cell (block_lt_of_cell c2)).trans c2; have HB5 := hide hb5; clear hb5) | (at_builtin; refine Lib.wpList_append_text rfl _ _ 47 9 rfl w.heap.size 5 i5 Trym.underlying47 Trym.underlying9 HI.out HZ.out HS.out HBY.out v5 (U.length + 1) (u8s U ++ [.int .u8 58]) rfl w HB5.out r.2 rfl hl2 ?_; intro v6 w6 hb6; have HB6 := hide hb6; clear hb6))
      go_roundw
      case rel =>
        have hfin : encB (rs.take (k + 1)) = U ++ ([58] ++ bytesI r.2) := by
          rw [encB_take_succ HR.out, HU.out, HZZ.out, HY.out, HX.out]
          simp [encR]
        refine ⟨k + 1, _, rfl, by omega, by go_num, ?_⟩
        rw [hfin]
        exact own_cast HB6.out (by simp [bytesI_length]; omega) (by rw [u8s_append, u8s_append, strCells_u8s, List.append_assoc]; rfl)
      case measure => simp [intOf]; omega
    · obtain rfl : k = rs.length := by omega
      rw [List.take_length] at hown
      have hcv := own_convert hown
      have HB := hide hown.2.1
      clear hown
      go_wp2
      go_ret
      exact ⟨rfl, HB.out⟩

end Go.Proofs.Qxb6600877aMods
