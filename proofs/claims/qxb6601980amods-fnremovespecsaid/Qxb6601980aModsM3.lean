import Derived.Test.Qxb6601980aModsM2
import Derived.Test.Qxb6601980aModsE3
namespace Go.Proofs.Qxb6601980aMods
open Go.RowKit

/-! ### PLACES: the plain side -/
/-- Does the entry hold a transaction? -/
def Ent.live (e : Ent) : Bool := e.a.isSome
/-- The keys of the entries that hold one. -/
def pkeys (es : List Ent) : List (List Int) := (es.filter Ent.live).map (·.key)
/-- A place as a value. -/
def placeVal (B : Int) (i : Nat) : Value := .int .u64 (IntKind.u64.wrap (B + i))
/-- What placesOf lays. -/
def placesFrom (B : Int) : Nat → List Ent → List (List Int × Value)
  | _, [] => []
  | i, e :: es => if e.live then (e.key, placeVal B i) :: placesFrom B (i + 1) es else placesFrom B (i + 1) es

theorem placesFrom_snoc (B : Int) (e : Ent) (l : List Ent) : ∀ i, placesFrom B i (l ++ [e]) = placesFrom B i l ++ (if e.live then [(e.key, placeVal B (i + l.length))] else []) := by
  induction l with
  | nil => intro i; simp [placesFrom]
  | cons x l ih =>
    intro i
    simp only [List.cons_append, placesFrom, ih (i + 1), List.length_cons]
    rw [show i + 1 + l.length = i + (l.length + 1) by omega]
    by_cases h : x.live <;> simp [h]

theorem placesFrom_keys (B : Int) (l : List Ent) : ∀ i, (placesFrom B i l).map (·.1) = pkeys l := by
  induction l with
  | nil => intro i; rfl
  | cons x l ih =>
    intro i
    simp only [placesFrom, pkeys, List.filter_cons]
    by_cases h : x.live
    · simp only [h, if_true, List.map_cons, ih (i + 1), pkeys]
    · simp only [h, Bool.false_eq_true, if_false, ih (i + 1), pkeys]

theorem placesFrom_length (B : Int) (l : List Ent) (i : Nat) : (placesFrom B i l).length = (l.filter Ent.live).length := by
  have := congrArg List.length (placesFrom_keys B l i)
  simpa [pkeys] using this

theorem placesFrom_none {B : Int} {l : List Ent} {k : List Int} {i : Nat} : getM k (placesFrom B i l) = none ↔ k ∉ pkeys l := by
  rw [getM_none_iff, ← placesFrom_keys B l i]
  simp only [List.mem_map, not_exists, not_and, ne_eq]

theorem pkeys_append (l m : List Ent) : pkeys (l ++ m) = pkeys l ++ pkeys m := by simp [pkeys]
theorem pkeys_single (e : Ent) : pkeys [e] = if e.live then [e.key] else [] := by
  by_cases h : e.live <;> simp [pkeys, h]

/-- At each live entry's key lies base plus its index. -/
theorem placesFrom_get {B : Int} {l : List Ent} : ∀ {i j : Nat} {e : Ent}, (pkeys l).Nodup → l[j]? = some e → e.live = true → getM e.key (placesFrom B i l) = some (placeVal B (i + j)) := by
  induction l with
  | nil => intro i j e _ h; simp at h
  | cons x l ih =>
    intro i j e hnd h hl
    rw [show x :: l = [x] ++ l from rfl, pkeys_append, List.nodup_append] at hnd
    obtain ⟨_, hnd2, hdis⟩ := hnd
    cases j with
    | zero =>
      simp only [List.getElem?_cons_zero, Option.some.injEq] at h
      subst h
      simp [placesFrom, hl, getM]
    | succ j =>
      simp only [List.getElem?_cons_succ] at h
      have ih' := ih (i := i + 1) hnd2 h hl
      rw [show i + 1 + j = i + (j + 1) by omega] at ih'
      simp only [placesFrom]
      by_cases hx : x.live
      · have hne : e.key ≠ x.key := by
          intro he
          have m1 : e.key ∈ pkeys l := List.mem_map.2 ⟨e, List.mem_filter.2 ⟨List.mem_of_getElem? h, hl⟩, rfl⟩
          have m2 : x.key ∈ pkeys [x] := by rw [pkeys_single, if_pos hx]; simp
          exact hdis _ m2 _ m1 he.symm
        simp only [hx, if_true, getM, hne, if_false]
        exact ih'
      · simp only [hx, Bool.false_eq_true, if_false]
        exact ih'

theorem take_snoc_ent {es : List Ent} {k : Nat} {e : Ent} (h : es[k]? = some e) : es.take (k + 1) = es.take k ++ [e] := by
  rw [List.take_add_one, h]; rfl

theorem not_nodup_of_dup {es : List Ent} {k : Nat} {e : Ent} (h : es[k]? = some e) (hl : e.live = true) (hd : e.key ∈ pkeys (es.take k)) : ¬ (pkeys es).Nodup := by
  intro hnd
  have e1 : es = es.take k ++ ([e] ++ es.drop (k + 1)) := by
    conv => lhs; rw [← List.take_append_drop (k + 1) es, take_snoc_ent h]
    simp
  rw [e1, pkeys_append, List.nodup_append] at hnd
  obtain ⟨_, _, hdis⟩ := hnd
  refine hdis _ hd _ ?_ rfl
  rw [pkeys_append, pkeys_single, if_pos hl]
  simp

theorem nodup_snoc_ent {l : List Ent} {e : Ent} (hl : e.live = true) (hnd : (pkeys l).Nodup) (hn : e.key ∉ pkeys l) : (pkeys (l ++ [e])).Nodup := by
  rw [pkeys_append, pkeys_single, if_pos hl, List.nodup_append]
  refine ⟨hnd, by simp, ?_⟩
  intro a ha b hb
  rw [List.mem_singleton.1 hb]
  intro he
  exact hn (he ▸ ha)

section
variable {P : Program} {ops : Array Oper} {rest : List Oper} {op : Oper} {a : Act} {w : World} {Q : Exit → Act → World → Prop}
variable {α : Type} [DecidableEq α] {ok : α → Prop} {KV : α → Value} {M : List (α × Value)} {kt et : TypeId}

/-- 'v, ok := m[k]' -/
theorem wpList_lookup_ok (hgd : op.guard = none) (t : TypeId) (x y : Operand) (ho : op.op = .lookup t x y true) (K : KeyOk P kt ok KV) (ht : P.underlying t = some (.map kt et)) {z : Value} (hz : (zeroValue et).run P w = .ok z w)
    (r : Nat) (hx : a.eval x = .map (some r)) (k : α) (hk : ok k) (hy : a.eval y = KV k) (hm : MapIs w r ok KV M)
    (h : wpList P ops Q rest (a.put op.dst (.tuple #[(getM k M).getD z, .bool (getM k M).isSome])) w) : wpList P ops Q (op :: rest) a w := by
  have hrun := run_lookup_of K ht hz hm hk true
  refine wpList_plain hgd fun K' hK => ?_
  unfold Oper.wp execOp
  simp only [ho, hx, hy, Sem.run_bind, hrun, Result.andThen_ok, Sem.run_pure, if_true]
  exact hK _ _ h

/-- 'm[k]' -/
theorem wpList_lookup_val (hgd : op.guard = none) (t : TypeId) (x y : Operand) (ho : op.op = .lookup t x y false) (K : KeyOk P kt ok KV) (ht : P.underlying t = some (.map kt et)) {z : Value} (hz : (zeroValue et).run P w = .ok z w)
    (r : Nat) (hx : a.eval x = .map (some r)) (k : α) (hk : ok k) (hy : a.eval y = KV k) (hm : MapIs w r ok KV M)
    (h : wpList P ops Q rest (a.put op.dst ((getM k M).getD z)) w) : wpList P ops Q (op :: rest) a w := by
  have hrun := run_lookup_of K ht hz hm hk false
  refine wpList_plain hgd fun K' hK => ?_
  unfold Oper.wp execOp
  simp only [ho, hx, hy, Sem.run_bind, hrun, Result.andThen_ok, Sem.run_pure, Bool.false_eq_true, if_false]
  exact hK _ _ h

/-- 'm[k] = v' -/
theorem wpList_update (hgd : op.guard = none) (t : TypeId) (x y v : Operand) (ho : op.op = .mapUpdate t x y v) (K : KeyOk P kt ok KV) (ht : P.underlying t = some (.map kt et))
    (r : Nat) (hx : a.eval x = .map (some r)) (k : α) (hk : ok k) (hy : a.eval y = KV k) (vv : Value) (hv : a.eval v = vv) (hm : MapIs w r ok KV M)
    (h : ∀ w', MapIs w' r ok KV (putM k vv M) → Turned r w w' → wpList P ops Q rest (a.put op.dst undef) w') : wpList P ops Q (op :: rest) a w := by
  subst hv
  obtain ⟨w', hrun, h1, h2⟩ := run_update_of K ht hm hk (a.eval v)
  refine wpList_plain hgd fun K' hK => ?_
  unfold Oper.wp execOp
  simp only [ho, hx, hy, Sem.run_bind, hrun, Result.andThen_ok, Sem.run_pure]
  exact hK _ _ (h w' h1 h2)

/-- 'delete(m, k)' -/
theorem wpList_delete (hgd : op.guard = none) (t t2 : TypeId) (x y : Operand) (ho : op.op = .call { callee := .builtin .delete, args := #[x, y], argTypes := #[t, t2] }) (K : KeyOk P kt ok KV) (ht : P.underlying t = some (.map kt et))
    (r : Nat) (hx : a.eval x = .map (some r)) (k : α) (hk : ok k) (hy : a.eval y = KV k) (hm : MapIs w r ok KV M)
    (h : ∀ w', MapIs w' r ok KV (delM k M) → Turned r w w' → wpList P ops Q rest (a.put op.dst (.tuple #[])) w') : wpList P ops Q (op :: rest) a w := by
  obtain ⟨w', hrun, h1, h2⟩ := run_delete_of K ht hm hk t2 op.type
  refine wpList_plain hgd fun K' hK => ?_
  unfold Oper.wp
  simp [execOp, ho, resolve, invoke, builtin, hx, hy, hrun, Result.andThen]
  exact hK _ _ (h w' h1 h2)
end

end Go.Proofs.Qxb6601980aMods
