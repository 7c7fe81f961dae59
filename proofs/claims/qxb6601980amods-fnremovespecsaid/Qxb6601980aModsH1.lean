import Derived.Test.Qxb6601980aModsG1
namespace Go.Proofs.Qxb6601980aMods
open Go.RowKit

/-! ### remove: the plain side -/
/-- The entry without its transaction. -/
def Ent.gone (e : Ent) : Ent := ⟨e.key, e.len, none, 0, 0, fun _ => ⟨rfl, rfl⟩⟩
/-- What remove makes of an entry. -/
def kill (ks : List (List Int)) (e : Ent) : Ent := if e.live = true ∧ e.key ∈ ks then e.gone else e
def marked (ks : List (List Int)) (es : List Ent) : List Ent := es.map (kill ks)

theorem gone_dead (e : Ent) : e.gone.live = false := rfl
theorem gone_key (e : Ent) : e.gone.key = e.key := rfl
theorem marked_length (ks : List (List Int)) (es : List Ent) : (marked ks es).length = es.length := by simp [marked]
theorem marked_nil (es : List Ent) : marked [] es = es := by
  have : (fun e : Ent => kill [] e) = id := by funext e; simp [kill]
  unfold marked
  rw [show kill [] = id from this]; simp
theorem kill_snoc (ks : List (List Int)) (k : List Int) (e : Ent) : kill (ks ++ [k]) e = if (kill ks e).live = true ∧ e.key = k then e.gone else kill ks e := by
  unfold kill
  by_cases hl : e.live = true
  · by_cases h1 : e.key ∈ ks
    · simp [hl, h1, gone_dead]
    · by_cases h2 : e.key = k
      · subst h2; simp [hl, h1]
      · simp [hl, h1, h2]
  · simp [hl]
theorem kill_key (ks : List (List Int)) (e : Ent) : (kill ks e).key = e.key := by
  unfold kill; split <;> rfl
theorem kill_gone (ks : List (List Int)) (e : Ent) : (kill ks e).gone = e.gone := by
  unfold kill; split <;> rfl

/-- A key that no live entry has. -/
theorem marked_miss {ks : List (List Int)} {k : List Int} {es : List Ent} (h : k ∉ pkeys (marked ks es)) : marked (ks ++ [k]) es = marked ks es := by
  unfold marked
  refine List.map_congr_left fun e he => ?_
  rw [kill_snoc, if_neg]
  rintro ⟨hl, hk⟩
  refine h (List.mem_map.2 ⟨kill ks e, List.mem_filter.2 ⟨List.mem_map.2 ⟨e, he, rfl⟩, hl⟩, ?_⟩)
  rw [kill_key, hk]
/-- The key of a live entry. -/
theorem marked_hit {ks : List (List Int)} {es : List Ent} {i : Nat} {x : Ent} (hnd : (pkeys (marked ks es)).Nodup) (hx : (marked ks es)[i]? = some x) (hl : x.live = true) : marked (ks ++ [x.key]) es = (marked ks es).set i x.gone := by
  obtain ⟨n1, n2⟩ := nodup_ne hnd hx hl
  have hilt := (List.getElem?_eq_some_iff.1 hx).1
  apply List.ext_getElem?
  intro j
  rw [List.getElem?_set]
  by_cases hj : i = j
  · subst hj
    rw [if_pos rfl, if_pos hilt]
    simp only [marked, List.getElem?_map] at hx ⊢
    cases he : es[i]? with
    | none => rw [he] at hx; cases hx
    | some e =>
      rw [he] at hx
      simp only [Option.map_some, Option.some.injEq] at hx ⊢
      subst hx
      rw [kill_snoc, if_pos ⟨hl, (kill_key ks e).symm⟩, kill_gone]
  · rw [if_neg hj]
    simp only [marked, List.getElem?_map]
    cases he : es[j]? with
    | none => rfl
    | some e =>
      have hm : (marked ks es)[j]? = some (kill ks e) := by simp [marked, he]
      simp only [Option.map_some, Option.some.injEq]
      rw [kill_snoc, if_neg]
      rintro ⟨hle, hk⟩
      have hkk : (kill ks e).key = x.key := by rw [kill_key, hk]
      by_cases hji : j < i
      · exact n1 j _ hji hm hle hkk
      · refine n2 _ ?_ hle hkk
        refine List.mem_of_getElem? (i := j - (i + 1)) ?_
        rw [List.getElem?_drop, show i + 1 + (j - (i + 1)) = j by omega]
        exact hm

/-! sums -/
def wS (e : Ent) : Int := if e.live then (e.n : Int) + 160 else 0
def wB (e : Ent) : Int := (e.n : Int)
def sumW (f : Ent → Int) : List Ent → Int
  | [] => 0
  | e :: l => f e + sumW f l
theorem sumW_append (f : Ent → Int) (l m : List Ent) : sumW f (l ++ m) = sumW f l + sumW f m := by
  induction l with
  | nil => simp [sumW]
  | cons x l ih => simp only [List.cons_append, sumW, ih]; omega
theorem sumW_set {f : Ent → Int} {l : List Ent} {i : Nat} {x : Ent} (h : l[i]? = some x) (y : Ent) : sumW f (l.set i y) = sumW f l - f x + f y := by
  induction l generalizing i with
  | nil => simp at h
  | cons z l ih =>
    cases i with
    | zero =>
      simp only [List.getElem?_cons_zero, Option.some.injEq] at h
      subst h
      simp only [List.set_cons_zero, sumW]; omega
    | succ i =>
      simp only [List.getElem?_cons_succ] at h
      simp only [List.set_cons_succ, sumW, ih h]; omega
/-- What is taken off. -/
def loss (f : Ent → Int) (ks : List (List Int)) (es : List Ent) : Int := sumW f es - sumW f (marked ks es)
theorem loss_nil (f : Ent → Int) (es : List Ent) : loss f [] es = 0 := by unfold loss; rw [marked_nil]; omega
theorem wB_gone (e : Ent) : wB e.gone = 0 := rfl
theorem wS_gone (e : Ent) : wS e.gone = 0 := rfl
theorem wS_live {e : Ent} (h : e.live = true) : wS e = (e.n : Int) + 160 := by simp [wS, h]
theorem loss_hit {f : Ent → Int} {ks : List (List Int)} {es : List Ent} {i : Nat} {x : Ent} (hnd : (pkeys (marked ks es)).Nodup) (hx : (marked ks es)[i]? = some x) (hl : x.live = true) (h0 : f x.gone = 0) : loss f (ks ++ [x.key]) es = loss f ks es + f x := by
  unfold loss
  rw [marked_hit hnd hx hl, sumW_set hx, h0]; omega
theorem loss_miss {f : Ent → Int} {ks : List (List Int)} {k : List Int} {es : List Ent} (h : k ∉ pkeys (marked ks es)) : loss f (ks ++ [k]) es = loss f ks es := by
  unfold loss; rw [marked_miss h]
/-- The law's own loop goes over the entries. -/
theorem loss_take {f : Ent → Int} {ks : List (List Int)} {es : List Ent} {k : Nat} {e : Ent} (he : es[k]? = some e) : loss f ks (es.take (k + 1)) = loss f ks (es.take k) + (f e - f (kill ks e)) := by
  rw [take_snoc_ent he]
  unfold loss marked
  rw [List.map_append, sumW_append, sumW_append]
  simp only [List.map_cons, List.map_nil, sumW]
  omega

theorem wrap_less (s a b c : Int) (h : c = a + b) : IntKind.i64.wrap (IntKind.i64.wrap (s - a) - b) = IntKind.i64.wrap (s - c) := by
  subst h
  simp only [IntKind.wrap_i64]
  omega

/-! the map -/
section
variable {α : Type} [DecidableEq α]
theorem delM_keys (k : List Int) (M : List (List Int × Value)) : (delM k M).map (·.1) = (M.map (·.1)).erase k := by
  induction M with
  | nil => rfl
  | cons p M ih =>
    simp only [delM, List.map_cons, List.erase_cons]
    by_cases h : k = p.1
    · simp [h]
    · have : (p.1 == k) = false := beq_eq_false_iff_ne.2 (Ne.symm h)
      simp [h, this, ih]
theorem getM_del_other {k k' : α} (h : k' ≠ k) (M : List (α × Value)) : getM k' (delM k M) = getM k' M := by
  induction M with
  | nil => rfl
  | cons p M ih =>
    simp only [delM]
    by_cases h1 : k = p.1
    · subst h1; simp [getM, h]
    · simp only [h1, if_false, getM, ih]
end

/-- The map holds just the live entries' places. -/
structure PlOk (B : Int) (l : List Ent) (M : List (List Int × Value)) : Prop where
  keys : M.map (·.1) = pkeys l
  nodup : (pkeys l).Nodup
  get : ∀ i x, l[i]? = some x → x.live = true → getM x.key M = some (placeVal B i)

theorem PlOk.start {B : Int} {es : List Ent} (hnd : (pkeys es).Nodup) : PlOk B es (placesFrom B 0 es) :=
  ⟨placesFrom_keys B es 0, hnd, fun i x hx hl => by rw [placesFrom_get hnd hx hl, Nat.zero_add]⟩
theorem PlOk.length {B : Int} {l : List Ent} {M : List (List Int × Value)} (h : PlOk B l M) : M.length = liveN l := by
  have := congrArg List.length h.keys
  simpa [pkeys, liveN] using this
theorem PlOk.none_iff {B : Int} {l : List Ent} {M : List (List Int × Value)} (h : PlOk B l M) {k : List Int} : getM k M = none ↔ k ∉ pkeys l := by
  rw [getM_none_iff, ← h.keys]
  simp only [List.mem_map, not_exists, not_and, ne_eq]
theorem PlOk.find {B : Int} {l : List Ent} {M : List (List Int × Value)} (_h : PlOk B l M) {k : List Int} (hk : k ∈ pkeys l) : ∃ (i : Nat) (x : Ent), l[i]? = some x ∧ x.live = true ∧ x.key = k := by
  obtain ⟨x, hx, rfl⟩ := List.mem_map.1 hk
  obtain ⟨hm, hl⟩ := List.mem_filter.1 hx
  obtain ⟨i, hi⟩ := List.getElem?_of_mem hm
  exact ⟨i, x, hi, hl, rfl⟩
theorem pkeys_set {l : List Ent} {i : Nat} {x : Ent} (hnd : (pkeys l).Nodup) (hx : l[i]? = some x) (hl : x.live = true) : pkeys (l.set i x.gone) = (pkeys l).erase x.key := by
  obtain ⟨n1, -⟩ := nodup_ne hnd hx hl
  have hi := (List.getElem?_eq_some_iff.1 hx).1
  have e1 : l = l.take i ++ ([x] ++ l.drop (i + 1)) := by
    conv => lhs; rw [← List.take_append_drop (i + 1) l, take_snoc_ent hx]
    simp
  have e2 : l.set i x.gone = l.take i ++ ([x.gone] ++ l.drop (i + 1)) := by
    rw [List.set_eq_take_append_cons_drop, if_pos hi]; rfl
  have hn : x.key ∉ pkeys (l.take i) := by
    intro hm
    obtain ⟨y, hy, hyk⟩ := List.mem_map.1 hm
    obtain ⟨hy1, hyl⟩ := List.mem_filter.1 hy
    obtain ⟨j, hj⟩ := List.getElem?_of_mem hy1
    rw [List.getElem?_take] at hj
    split at hj
    · rename_i hji
      exact n1 j y hji hj hyl hyk
    · cases hj
  rw [e2]
  conv => rhs; rw [e1]
  rw [pkeys_append, pkeys_append, pkeys_append, pkeys_append, pkeys_single, pkeys_single, if_pos hl, if_neg (by simp [gone_dead]), List.erase_append_right _ hn]
  simp
theorem PlOk.hit {B : Int} {l : List Ent} {M : List (List Int × Value)} (h : PlOk B l M) {i : Nat} {x : Ent} (hx : l[i]? = some x) (hl : x.live = true) : PlOk B (l.set i x.gone) (delM x.key M) := by
  obtain ⟨n1, n2⟩ := nodup_ne h.nodup hx hl
  have hi := (List.getElem?_eq_some_iff.1 hx).1
  refine ⟨by rw [delM_keys, h.keys, pkeys_set h.nodup hx hl], by rw [pkeys_set h.nodup hx hl]; exact h.nodup.erase _, ?_⟩
  intro j y hy hyl
  rw [List.getElem?_set] at hy
  by_cases hj : i = j
  · rw [if_pos hj, if_pos (by omega)] at hy
    obtain rfl := Option.some.inj hy
    rw [gone_dead] at hyl
    cases hyl
  · rw [if_neg hj] at hy
    have hne : y.key ≠ x.key := by
      by_cases hji : j < i
      · exact n1 j y hji hy hyl
      · refine n2 y (List.mem_of_getElem? (i := j - (i + 1)) ?_) hyl
        rw [List.getElem?_drop, show i + 1 + (j - (i + 1)) = j by omega]
        exact hy
    rw [getM_del_other hne]
    exact h.get j y hy hyl

/-! the row of entries -/
theorem flat_gone {l : List Ent} {i : Nat} {x : Ent} (hx : l[i]? = some x) : (flat l).toArray.setIfInBounds (i * 33 + 32) (.slice none 0 0) = (flat (l.set i x.gone)).toArray := by
  have hi := (List.getElem?_eq_some_iff.1 hx).1
  apply Array.ext'
  apply List.ext_getElem?
  intro j
  simp only [List.setIfInBounds_toArray, List.getElem?_set]
  by_cases hj : j < l.length * 33
  · have hd : j / 33 < l.length := by omega
    have hm : j % 33 < 33 := Nat.mod_lt _ (by omega)
    obtain ⟨y, hy⟩ : ∃ y, l[j / 33]? = some y := ⟨_, List.getElem?_eq_getElem hd⟩
    have h1 := flat_get hy hm
    rw [show j / 33 * 33 + j % 33 = j by omega] at h1
    by_cases hji : j / 33 = i
    · have h2 : (l.set i x.gone)[j / 33]? = some x.gone := by rw [hji, List.getElem?_set, if_pos rfl, if_pos hi]
      have h3 := flat_get h2 hm
      rw [show j / 33 * 33 + j % 33 = j by omega] at h3
      rw [h3]
      have hyx : y = x := by rw [hji, hx] at hy; exact (Option.some.inj hy).symm
      subst hyx
      by_cases h32 : i * 33 + 32 = j
      · rw [if_pos h32, if_pos (by rw [flat_length]; omega)]
        have : j % 33 = 32 := by omega
        rw [this, entCells_tx]
        rfl
      · rw [if_neg h32, h1]
        have hlt : j % 33 < 32 := by omega
        unfold entCells
        rw [List.getElem?_append_left (by rw [keyCells_length, y.len]; exact hlt), List.getElem?_append_left (by rw [keyCells_length, y.gone.len]; exact hlt), gone_key]
    · have h2 : (l.set i x.gone)[j / 33]? = some y := by rw [List.getElem?_set, if_neg (Ne.symm hji)]; exact hy
      have h3 := flat_get h2 hm
      rw [show j / 33 * 33 + j % 33 = j by omega] at h3
      rw [h3, if_neg (by omega), h1]
  · rw [if_neg (by omega), List.getElem?_eq_none (by rw [flat_length]; omega), List.getElem?_eq_none (by rw [flat_length, List.length_set]; omega)]
theorem RowIs.gone {w : World} {g : Nat} {T : TypeId} {l : List Ent} (h : RowIs w g T l) {i : Nat} {x : Ent} (hx : l[i]? = some x) : RowIs (w.setCell ⟨g, i * 33 + 32, none⟩ (.slice none 0 0)) g T (l.set i x.gone) := by
  unfold RowIs
  rw [heap_setCell_same _ _ _ _ _ _ h, flat_gone hx]

end Go.Proofs.Qxb6601980aMods
