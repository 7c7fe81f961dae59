import Derived.Test.Qxb6601980aModsF5
namespace Go.Proofs.Qxb6601980aMods
open Go.RowKit

theorem pkeys_sig (es : List Ent) : pkeys es = ((es.map sig).filter (·.2.1)).map (·.1) := by
  induction es with
  | nil => rfl
  | cons e es ih =>
    simp only [pkeys, List.filter_cons, List.map_cons, sig] at *
    by_cases h : e.live
    · simp [h, ih]
    · simp [h, ih]
theorem pkeys_of_sig {es es' : List Ent} (h : es'.map sig = es.map sig) : pkeys es' = pkeys es := by rw [pkeys_sig, pkeys_sig, h]
theorem length_of_sig {es es' : List Ent} (h : es'.map sig = es.map sig) : es'.length = es.length := by simpa using congrArg List.length h
theorem lens_of_sig {es es' : List Ent} (h : es'.map sig = es.map sig) : lensOf es' = lensOf es := by
  have h1 : ∀ l : List Ent, lensOf l = (l.map sig).map (·.2.2) := fun l => by simp [lensOf, sig]
  rw [h1, h1, h]
theorem sumL_mem {l : List Nat} {x : Nat} (h : x ∈ l) : x ≤ sumL l := by
  induction l with
  | nil => cases h
  | cons y l ih =>
    simp only [sumL]
    rcases List.mem_cons.1 h with rfl | h
    · omega
    · have := ih h; omega
theorem lens_le {es : List Ent} {x : Ent} (h : x ∈ es) : x.n ≤ sumL (lensOf es) := sumL_mem (List.mem_map.2 ⟨x, h, rfl⟩)

theorem placeVal_add (B : Int) (t i : Nat) : placeVal (IntKind.u64.wrap (B + (t : Int))) i = placeVal B (t + i) := by
  unfold placeVal
  have : IntKind.u64.wrap (IntKind.u64.wrap (B + (t : Int)) + (i : Int)) = IntKind.u64.wrap (B + ((t + i : Nat) : Int)) := by
    simp only [IntKind.wrap_u64]
    omega
  rw [this]

theorem packed_mem {k : Nat} {es : List Ent} {x : Ent} (h : x ∈ packed k es) : x ∈ es := by
  rcases List.mem_append.1 h with h | h
  · exact List.mem_of_mem_take (List.mem_filter.1 h).1
  · exact List.mem_of_mem_drop h
theorem packed_liveN (k : Nat) (es : List Ent) : liveN (packed k es) = liveN es := by
  conv => rhs; rw [← List.take_append_drop k es, liveN_append]
  unfold packed
  rw [liveN_append]
  congr 1
  simp [liveN]
theorem packed_length_le (k : Nat) (es : List Ent) : (packed k es).length ≤ es.length := by
  have h := liveN_le (es.take k)
  rw [List.length_take] at h
  rw [packed_len]; omega

set_option maxHeartbeats 400000 in
theorem zzPackCall (q g r : Nat) (batch B sz by_ : Int) (es : List Ent) (M : List (List Int × Value)) (w : World) (hn : es.length ≤ 1048576) (hqg : q ≠ g) (hqr : q ≠ r) (hgr : g ≠ r)
    (hB : IntKind.u64.wrap B = B)
    (hQ : QueueAt w q g 0 es.length r batch es.length B sz by_) (hR : RowIs w g 68 es) (hM : MapIs w r okKey keyVal M) (hlen : M.length = liveN es) (hnd : (pkeys es).Nodup) (hpl : ∀ i x, es[i]? = some x → x.live = true → getM x.key M = some (placeVal B i)) :
    Calls Trym.prog 19 #[.pointer (some ⟨q, 0, none⟩)] w (PackPost w q g r batch B sz by_ es) := by
  have HB := hide hB
  have HQ := hide hQ
  have HR := hide hR
  have HM := hide hM
  have HL := hide hlen
  have HN := hide hnd
  have HP := hide hpl
  clear hB hQ hR hM hlen hnd hpl
  go_enter Trym.func19, Trym.ntmps19
  go_wp2_with fail
  refine (pack_any q g r batch B sz by_ es M w hn hqg hqr hgr HB.out HQ.out HR.out HM.out HL.out HN.out HP.out).mono ?_
  rintro e w' hp
  obtain ⟨rfl, hq, hm, hk⟩ := hp
  have H1 := hide hq
  have H2 := hide hm
  have H3 := hide hk
  clear hq hm hk
  go_wp2_with fail
  go_end0
  exact ⟨rfl, H1.out, H2.out, H3.out⟩

set_option maxRecDepth 100000 in
set_option maxHeartbeats 1600000 in
theorem packSpec_walk (batch B sz by_ : Int) (a : Option Addr) (c : Nat) (es : List Ent) (w : World) (hB : Hid (IntKind.u64.wrap B = B)) (hnil : Hid (a = none → es = [] ∧ c = 0)) (hrow : Hid (EntsAt w a es)) (hby : Hid (∀ x ∈ es, BytesAt w x.a x.n)) :
    Calls Trym.prog 4 #[.int .i64 batch, .slice a es.length c, .int .u64 B, .int .i64 sz, .int .i64 by_] w fun e w' => e = .returned (.bool true) ∧ Below w.heap.size w w' := by
  go_enter Trym.func4, Trym.ntmps4
  go_wp2_with fail
  refine (zzPack_any _ _ _ _ a c es w hrow).mono ?_
  rintro e w' ⟨⟨ok, rfl, hok⟩, rfl⟩
  cases ok
  · clear hok
    go_wp2_with fail
    go_ret
    exact ⟨rfl, Below.refl _ _⟩
  have hle := hok rfl
  clear hok
  go_wp2_with fail
  refine (entsBytes_any a c es w' hrow).mono ?_
  rintro e w1 ⟨⟨t, ok, rfl, hok⟩, hb1⟩
  have HB1 := hide hb1
  clear hb1
  cases ok
  · clear hok
    go_wp2_with fail
    go_ret
    exact ⟨rfl, HB1.out⟩
  clear hok
  go_wp2_with fail
  refine (placesOf_any a c es B w1 (hrow.out.later HB1.out) (by omega)).mono ?_
  rintro e w2 ⟨hform, hb2⟩
  have HB2 := hide hb2
  clear hb2
  rcases hform with ⟨rfl, -⟩ | ⟨r0, rfl, -, -, hnd⟩
  · go_wp2_with fail
    go_ret
    exact ⟨rfl, HB1.out.trans (HB2.out.mono HB1.out.size)⟩
  have HND := hide hnd
  clear hnd
  have HBa : Hid (Below w'.heap.size w' w2) := hide (HB1.out.trans (HB2.out.mono HB1.out.size))
  have HN1 : Hid (∀ x ∈ es, x.n ≤ 1048576) := hide (fun x hx => by have := lens_le hx; omega)
  go_wp2_with fail
  refine (cloneEnts_any a c es w2 hnil.out (hrow.out.later HBa.out) (fun x hx => (hby.out x hx).later HBa.out) (by omega) HN1.out).mono ?_
  rintro e w3 ⟨⟨a3, es3, rfl, -, hrow3, hsig, hby3⟩, hb3⟩
  have hl3 := length_of_sig hsig
  have HND3 : Hid (pkeys es3).Nodup := hide (by rw [pkeys_of_sig hsig]; exact HND.out)
  have HN3 : Hid (∀ x ∈ es3, x.n ≤ 1048576) := hide (fun x hx => by
    have h1 := lens_le hx
    rw [lens_of_sig hsig] at h1
    omega)
  have HR3 := hide hrow3
  have HBY3 := hide hby3
  have HB3 : Hid (Below w'.heap.size w' w3) := hide (HBa.out.trans (hb3.mono HBa.out.size))
  rw [← hl3] at hle ⊢
  have hn3 : es3.length ≤ 1048576 := by omega
  clear hrow3 hsig hby3 hb3 hl3 HND HN1 hle HB1 HB2
  go_wp2_with fail
  refine (packModel_any a3 es3.length es3 batch B w3 HR3 hn3).mono ?_
  rintro e w4 ⟨⟨gw, cw, rfl, hwant⟩, hb4⟩
  have HW := hide hwant
  have HB4 := hide hb4
  clear hwant hb4
  go_wp2_with fail
  refine (newQueue_any a3 es3.length es3 batch B sz by_ w4 (HR3.out.later HB4.out) hn3 HND3).mono ?_
  rintro e w5 ⟨⟨q, g, r, rfl, hq, hg, hr, hqg, hqr, hgr, hQ, hRow, hM⟩, hb5⟩
  have HB5 := hide hb5
  have HQ := hide hQ
  have HRow := hide hRow
  have HM := hide hM
  have HX := hide (And.intro hq (And.intro hg hr))
  clear hQ hRow hM hb5 hq hg hr
  go_wp2_with fail
  refine (zzPackCall q g r batch B sz by_ es3 _ w5 hn3 hqg hqr hgr hB.out HQ.out HRow.out HM.out (placesFrom_length _ _ _) HND3.out (fun i x hx hl => by rw [placesFrom_get HND3.out hx hl, Nat.zero_add])).mono ?_
  rintro e w6 ⟨rfl, ⟨off, hQ6, hE6⟩, ⟨M, hM6, hl6, hp6⟩, hk6⟩
  have H1 := hide hQ6
  have H2 := hide hE6
  have H3 := hide hM6
  have H4 := hide hl6
  have H5 := hide hp6
  have H6 := hide hk6
  clear hQ6 hE6 hM6 hl6 hp6 hk6
  have hb6 : Below w4.heap.size w4 w6 := by
    obtain ⟨h1, h2, h3⟩ := HX.out
    exact HB5.out.trans (H6.out.below HB5.out.size (fun k hk => by omega))
  have HB6 := hide hb6
  clear hb6
  go_wp2_with fail
  refine (queueIs_any q g off _ r gw cw batch _ sz by_ (packed (packEnd batch es3) es3) M w6 (Nat.le_trans (packed_length_le _ _) hn3) (fun x hx => HN3.out x (packed_mem hx)) H1.out H2.out H3.out (by rw [packed_liveN]; exact H4.out) (fun t x hx hl => by rw [placeVal_add]; exact H5.out t x hx hl) (HW.out.later HB6.out) (fun x hx => (HBY3.out x (packed_mem hx)).later (HB4.out.trans (HB6.out.mono HB4.out.size)))).mono ?_
  rintro e w7 ⟨rfl, hb7⟩
  have HB7 := hide hb7
  clear hb7
  go_wp2_with fail
  go_ret
  have s3 := HB3.out.size
  have s4 := HB4.out.size
  have s6 := HB6.out.size
  exact ⟨rfl, ((HB3.out.trans (HB4.out.mono s3)).trans (HB6.out.mono (Nat.le_trans s3 s4))).trans (HB7.out.mono (Nat.le_trans s3 (Nat.le_trans s4 s6)))⟩

end Go.Proofs.Qxb6601980aMods
