import Derived.Test.Qxb6601980aModsF1
namespace Go.Proofs.Qxb6601980aMods
open Go.RowKit

/-! ### pack's second loop: the plain side. E: where the packed prefix ends; j: entries from j on have been moved -/
def mvd (E : Nat) (es : List Ent) (j : Nat) : List Ent := ((es.take E).drop j).filter Ent.live
def rowR (E : Nat) (es : List Ent) (j : Nat) : List Ent := mvd E es j ++ es.drop E
def toAt (E : Nat) (es : List Ent) (j : Nat) : Nat := E - (mvd E es j).length
def arrAt (E : Nat) (es : List Ent) (j : Nat) : List Ent := es.take (toAt E es j) ++ rowR E es j

variable {E : Nat} {es : List Ent} {j : Nat} {e : Ent}

theorem mvd_le (hE : E ≤ es.length) (j : Nat) : (mvd E es j).length ≤ E - j := by
  refine Nat.le_trans (List.length_filter_le _ _) ?_
  simp; omega
theorem le_toAt (hE : E ≤ es.length) (hj : j ≤ E) : j ≤ toAt E es j := by
  have := mvd_le hE j
  unfold toAt; omega
theorem toAt_le : toAt E es j ≤ E := Nat.sub_le _ _
theorem drop_take_cons (hE : E ≤ es.length) (hj : j < E) (he : es[j]? = some e) : (es.take E).drop j = e :: (es.take E).drop (j + 1) := by
  have h1 : j < (es.take E).length := by simp; omega
  rw [List.drop_eq_getElem_cons h1]
  have : (es.take E)[j] = e := by
    have h2 : (es.take E)[j]? = some e := by rw [List.getElem?_take, if_pos hj]; exact he
    rw [List.getElem?_eq_getElem h1] at h2
    exact Option.some.inj h2
  rw [this]
theorem mvd_dead (hE : E ≤ es.length) (hj : j < E) (he : es[j]? = some e) (hl : e.live = false) : mvd E es j = mvd E es (j + 1) := by
  unfold mvd
  rw [drop_take_cons hE hj he, List.filter_cons, if_neg (by simp [hl])]
theorem mvd_live (hE : E ≤ es.length) (hj : j < E) (he : es[j]? = some e) (hl : e.live = true) : mvd E es j = e :: mvd E es (j + 1) := by
  unfold mvd
  rw [drop_take_cons hE hj he, List.filter_cons, if_pos hl]
theorem toAt_dead (hE : E ≤ es.length) (hj : j < E) (he : es[j]? = some e) (hl : e.live = false) : toAt E es j = toAt E es (j + 1) := by
  unfold toAt; rw [mvd_dead hE hj he hl]
theorem toAt_live (hE : E ≤ es.length) (hj : j < E) (he : es[j]? = some e) (hl : e.live = true) : toAt E es j + 1 = toAt E es (j + 1) := by
  have h := mvd_le hE (j + 1)
  unfold toAt
  rw [mvd_live hE hj he hl, List.length_cons]
  omega
theorem arrAt_dead (hE : E ≤ es.length) (hj : j < E) (he : es[j]? = some e) (hl : e.live = false) : arrAt E es j = arrAt E es (j + 1) := by
  unfold arrAt rowR
  rw [toAt_dead hE hj he hl, mvd_dead hE hj he hl]
theorem arrAt_length (hE : E ≤ es.length) : (arrAt E es j).length = es.length := by
  have h := mvd_le (E := E) hE j
  have h2 : toAt E es j = E - (mvd E es j).length := rfl
  simp only [arrAt, rowR, List.length_append, List.length_take, List.length_drop]
  omega
theorem arrAt_live (hE : E ≤ es.length) (hj : j < E) (he : es[j]? = some e) (hl : e.live = true) : (arrAt E es (j + 1)).set (toAt E es j) e = arrAt E es j := by
  have h1 := toAt_live hE hj he hl
  have h2 : toAt E es (j + 1) ≤ E := toAt_le
  unfold arrAt rowR
  rw [mvd_live hE hj he hl, ← h1, List.take_add_one, List.getElem?_eq_getElem (by omega)]
  rw [List.set_append_left _ _ (by simp; omega), List.set_append_right _ _ (by simp; omega)]
  have e1 : toAt E es j - (es.take (toAt E es j)).length = 0 := by simp; omega
  rw [e1]
  simp
theorem arrAt_stay (hE : E ≤ es.length) (hj : j < E) (he : es[j]? = some e) (hl : e.live = true) (ht : toAt E es j = j) : arrAt E es j = arrAt E es (j + 1) := by
  rw [← arrAt_live hE hj he hl, ht]
  apply List.ext_getElem?
  intro i
  rw [List.getElem?_set]
  by_cases hi : j = i
  · subst hi
    have h1 := toAt_live hE hj he hl
    have hlt : j < (arrAt E es (j + 1)).length := by rw [arrAt_length hE]; omega
    rw [if_pos rfl, if_pos hlt]
    unfold arrAt
    rw [List.getElem?_append_left (by simp; omega), List.getElem?_take, if_pos (by omega), he]
  · rw [if_neg hi]
theorem arrAt_get (hE : E ≤ es.length) (hj : j < E) (he : es[j]? = some e) : (arrAt E es (j + 1))[j]? = some e := by
  have h1 := le_toAt (E := E) hE (j := j + 1) (by omega)
  have h2 : toAt E es (j + 1) ≤ E := toAt_le
  unfold arrAt
  rw [List.getElem?_append_left (by simp; omega), List.getElem?_take, if_pos (by omega), he]
theorem arrAt_start (hE : E ≤ es.length) : arrAt E es E = es ∧ toAt E es E = E := by
  have h0 : mvd E es E = [] := by unfold mvd; rw [List.drop_of_length_le (by simp; omega)]; rfl
  have h1 : toAt E es E = E := by unfold toAt; rw [h0]; simp
  refine ⟨?_, h1⟩
  unfold arrAt rowR
  rw [h0, h1, List.nil_append, List.take_append_drop]
theorem rowR_end : rowR E es 0 = packed E es := by simp [rowR, mvd, packed]
theorem toAt_end : toAt E es 0 = E - liveN (es.take E) := by simp [toAt, mvd, liveN]

/-- What the map must hold when entries from j on have been moved. -/
def PlacesInv (B : Int) (E : Nat) (es : List Ent) (j : Nat) (M : List (List Int × Value)) : Prop :=
  (∀ i x, i < j → es[i]? = some x → x.live = true → getM x.key M = some (placeVal B i)) ∧
  (∀ t x, (rowR E es j)[t]? = some x → x.live = true → getM x.key M = some (placeVal B (toAt E es j + t)))

theorem PlacesInv.start {B : Int} {M : List (List Int × Value)} (hE : E ≤ es.length) (h : ∀ i x, es[i]? = some x → x.live = true → getM x.key M = some (placeVal B i)) : PlacesInv B E es E M := by
  refine ⟨fun i x _ hx hl => h i x hx hl, fun t x hx hl => ?_⟩
  have h0 : mvd E es E = [] := by unfold mvd; rw [List.drop_of_length_le (by simp; omega)]; rfl
  rw [(arrAt_start hE).2]
  unfold rowR at hx
  rw [h0, List.nil_append, List.getElem?_drop] at hx
  exact h _ x hx hl
theorem PlacesInv.dead {B : Int} {M : List (List Int × Value)} (h : PlacesInv B E es (j + 1) M) (hE : E ≤ es.length) (hj : j < E) (he : es[j]? = some e) (hl : e.live = false) : PlacesInv B E es j M := by
  refine ⟨fun i x hi hx hlx => h.1 i x (by omega) hx hlx, fun t x hx hlx => ?_⟩
  have h2 := h.2 t x
  unfold rowR at hx h2
  rw [mvd_dead hE hj he hl] at hx
  rw [toAt_dead hE hj he hl]
  exact h2 hx hlx

theorem nodup_ne (hnd : (pkeys es).Nodup) (he : es[j]? = some e) (hl : e.live = true) : (∀ i x, i < j → es[i]? = some x → x.live = true → x.key ≠ e.key) ∧ (∀ x ∈ es.drop (j + 1), x.live = true → x.key ≠ e.key) := by
  have hk : j < es.length := (List.getElem?_eq_some_iff.1 he).1
  have e1 : es = es.take j ++ ([e] ++ es.drop (j + 1)) := by
    conv => lhs; rw [← List.take_append_drop (j + 1) es, take_snoc_ent he]
    simp
  rw [e1, pkeys_append, pkeys_append, pkeys_single, if_pos hl, List.nodup_append] at hnd
  obtain ⟨_, h2, hdis⟩ := hnd
  rw [List.nodup_append] at h2
  obtain ⟨_, _, hdis2⟩ := h2
  constructor
  · intro i x hi hx hlx
    have hm : x.key ∈ pkeys (es.take j) := List.mem_map.2 ⟨x, List.mem_filter.2 ⟨List.mem_of_getElem? (by rw [List.getElem?_take, if_pos hi]; exact hx), hlx⟩, rfl⟩
    exact hdis _ hm _ (by simp)
  · intro x hx hlx
    have hm : x.key ∈ pkeys (es.drop (j + 1)) := List.mem_map.2 ⟨x, List.mem_filter.2 ⟨hx, hlx⟩, rfl⟩
    exact fun h => hdis2 _ (by simp) _ hm h.symm

theorem rowR_sub (_hE : E ≤ es.length) (hj : j < E) : ∀ x ∈ rowR E es (j + 1), x ∈ es.drop (j + 1) := by
  intro x hx
  unfold rowR mvd at hx
  rcases List.mem_append.1 hx with h | h
  · have h1 := (List.mem_filter.1 h).1
    rw [List.drop_take] at h1
    exact List.mem_of_mem_take h1
  · have : es.drop E = (es.drop (j + 1)).drop (E - (j + 1)) := by rw [List.drop_drop]; congr 1; omega
    rw [this] at h
    exact List.mem_of_mem_drop h

theorem PlacesInv.stay {B : Int} {M : List (List Int × Value)} (h : PlacesInv B E es (j + 1) M) (hE : E ≤ es.length) (hj : j < E) (he : es[j]? = some e) (hl : e.live = true) (ht : toAt E es j = j) : PlacesInv B E es j M := by
  have h1 := toAt_live hE hj he hl
  refine ⟨fun i x hi hx hlx => h.1 i x (by omega) hx hlx, fun t x hx hlx => ?_⟩
  unfold rowR at hx
  rw [mvd_live hE hj he hl] at hx
  cases t with
  | zero =>
    have : x = e := by simpa using hx.symm
    subst this
    rw [ht, Nat.add_zero]
    exact h.1 j x (by omega) he hlx
  | succ t =>
    rw [List.cons_append, List.getElem?_cons_succ] at hx
    have := h.2 t x hx hlx
    rw [← h1] at this
    rw [show toAt E es j + (t + 1) = toAt E es j + 1 + t by omega]
    exact this
theorem PlacesInv.move {B : Int} {M : List (List Int × Value)} (h : PlacesInv B E es (j + 1) M) (hnd : (pkeys es).Nodup) (hE : E ≤ es.length) (hj : j < E) (he : es[j]? = some e) (hl : e.live = true) :
    PlacesInv B E es j (putM e.key (placeVal B (toAt E es j)) M) := by
  have h1 := toAt_live hE hj he hl
  obtain ⟨n1, n2⟩ := nodup_ne hnd he hl
  refine ⟨fun i x hi hx hlx => ?_, fun t x hx hlx => ?_⟩
  · rw [getM_put_other (n1 i x hi hx hlx)]
    exact h.1 i x (by omega) hx hlx
  · unfold rowR at hx
    rw [mvd_live hE hj he hl] at hx
    cases t with
    | zero =>
      have : x = e := by simpa using hx.symm
      subst this
      rw [getM_put_same, Nat.add_zero]
    | succ t =>
      rw [List.cons_append, List.getElem?_cons_succ] at hx
      have hne : x.key ≠ e.key := n2 x (rowR_sub hE hj x (List.mem_of_getElem? hx)) hlx
      rw [getM_put_other hne]
      have := h.2 t x hx hlx
      rw [← h1] at this
      rw [show toAt E es j + (t + 1) = toAt E es j + 1 + t by omega]
      exact this
/-- The key of an entry that has not been moved is in the map. -/
theorem PlacesInv.has {B : Int} {M : List (List Int × Value)} (h : PlacesInv B E es (j + 1) M) (he : es[j]? = some e) (hl : e.live = true) : getM e.key M ≠ none := by
  rw [h.1 j e (by omega) he hl]; simp

end Go.Proofs.Qxb6601980aMods
