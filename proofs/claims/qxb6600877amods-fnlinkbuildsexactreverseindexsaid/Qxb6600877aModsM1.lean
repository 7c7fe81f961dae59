import Derived.Test.Qxb6600877aModsA2
import Derived.ChangeKeysEq
import Derived.MapKept
namespace Go.Proofs.Qxb6600877aMods
open Go.RowKit
set_option linter.unusedSectionVars false

theorem map_eraseIdx' {β γ : Type} (f : β → γ) (l : List β) (i : Nat) : (l.eraseIdx i).map f = (l.map f).eraseIdx i := by
  induction l generalizing i with
  | nil => rfl
  | cons x l ih =>
    cases i with
    | zero => rfl
    | succ i => simp [ih]

/-! ### MAPS AS LISTS OF PAIRS: keys of a Lean type α, laid as values by KV -/
section
variable {α : Type} [DecidableEq α]

/-- The first pair at key k, with its place. -/
def findAt (k : α) : List (α × Value) → Nat → Option (Nat × Value)
  | [], _ => none
  | p :: M, i => if k = p.1 then some (i, p.2) else findAt k M (i + 1)
/-- What the map holds at k. -/
def getM (k : α) : List (α × Value) → Option Value
  | [] => none
  | p :: M => if k = p.1 then some p.2 else getM k M
/-- The map behind 'm[k] = v'. -/
def putM (k : α) (v : Value) : List (α × Value) → List (α × Value)
  | [] => [(k, v)]
  | p :: M => if k = p.1 then (k, v) :: M else p :: putM k v M
/-- The map behind 'delete(m, k)'. -/
def delM (k : α) : List (α × Value) → List (α × Value)
  | [] => []
  | p :: M => if k = p.1 then M else p :: delM k M

theorem findAt_get (k : α) (M : List (α × Value)) (i : Nat) : (findAt k M i).map (·.2) = getM k M := by
  induction M generalizing i with
  | nil => rfl
  | cons p M ih =>
    simp only [findAt, getM]
    by_cases h : k = p.1
    · simp [h]
    · simp [h, ih]
theorem findAt_none (k : α) (M : List (α × Value)) (i : Nat) : findAt k M i = none ↔ getM k M = none := by
  rw [← findAt_get k M i]; simp

theorem getM_put_same (k : α) (v : Value) (M : List (α × Value)) : getM k (putM k v M) = some v := by
  induction M with
  | nil => simp [putM, getM]
  | cons p M ih =>
    simp only [putM]
    by_cases h : k = p.1
    · simp [h, getM]
    · simp [h, getM, ih]
theorem getM_put_other {k k' : α} (h : k' ≠ k) (v : Value) (M : List (α × Value)) : getM k' (putM k v M) = getM k' M := by
  induction M with
  | nil => simp [putM, getM, h]
  | cons p M ih =>
    simp only [putM]
    by_cases h1 : k = p.1
    · subst h1; simp [getM, h]
    · simp only [h1, if_false, getM, ih]
theorem putM_new {k : α} {M : List (α × Value)} (h : getM k M = none) (v : Value) : putM k v M = M ++ [(k, v)] := by
  induction M with
  | nil => rfl
  | cons p M ih =>
    simp only [getM] at h
    by_cases h1 : k = p.1
    · simp [h1] at h
    · simp only [h1, if_false] at h
      simp [putM, h1, ih h]
theorem putM_length {k : α} {M : List (α × Value)} (h : getM k M ≠ none) (v : Value) : (putM k v M).length = M.length := by
  induction M with
  | nil => simp [getM] at h
  | cons p M ih =>
    simp only [getM] at h
    by_cases h1 : k = p.1
    · simp [putM, h1]
    · simp only [h1, if_false] at h
      simp [putM, h1, ih h]
theorem getM_none_iff (k : α) (M : List (α × Value)) : getM k M = none ↔ ∀ p ∈ M, p.1 ≠ k := by
  induction M with
  | nil => simp [getM]
  | cons p M ih =>
    simp only [getM, List.mem_cons, forall_eq_or_imp]
    by_cases h : k = p.1
    · simp [h]
    · simp [h, ih, Ne.symm h]
theorem putM_keys_ok {ok : α → Prop} {k : α} {v : Value} {M : List (α × Value)} (hk : ok k) (h : ∀ p ∈ M, ok p.1) : ∀ p ∈ putM k v M, ok p.1 := by
  induction M with
  | nil => intro p hp; simp [putM] at hp; subst hp; exact hk
  | cons q M ih =>
    intro p hp
    simp only [putM] at hp
    split at hp
    · rcases List.mem_cons.1 hp with rfl | hp
      · exact hk
      · exact h p (List.mem_cons_of_mem _ hp)
    · rcases List.mem_cons.1 hp with rfl | hp
      · exact h _ List.mem_cons_self
      · exact ih (fun p hp => h p (List.mem_cons_of_mem _ hp)) p hp
theorem delM_keys_ok {ok : α → Prop} {k : α} {M : List (α × Value)} (h : ∀ p ∈ M, ok p.1) : ∀ p ∈ delM k M, ok p.1 := by
  induction M with
  | nil => intro p hp; simp [delM] at hp
  | cons q M ih =>
    intro p hp
    simp only [delM] at hp
    split at hp
    · exact h p (List.mem_cons_of_mem _ hp)
    · rcases List.mem_cons.1 hp with rfl | hp
      · exact h _ List.mem_cons_self
      · exact ih (fun p hp => h p (List.mem_cons_of_mem _ hp)) p hp

/-- The key's type: what the model does with keys that are laid by KV. -/
structure KeyOk (P : Program) (kt : TypeId) (ok : α → Prop) (KV : α → Value) : Prop where
  check : ∀ (em : Bool) (k : α) (w : World), ok k → (Instr.checkKey em 10000 kt (KV k)).run P w = .ok () w
  find : ∀ (k : α) (M : List (α × Value)) (es : List MapEntry) (w : World), ok k → (∀ p ∈ M, ok p.1) → es.map (fun e => (e.key, e.val)) = M.map (fun p => (KV p.1, p.2)) →
    (Instr.findKey kt (KV k) es).run P w = .ok (findAt k M 0) w
  same : ∀ k, ok k → Instr.sameBits 10000 (KV k) (KV k) = true

/-- Block r is a map that holds the pairs M. -/
def MapIs (w : World) (r : Nat) (ok : α → Prop) (KV : α → Value) (M : List (α × Value)) : Prop :=
  ∃ es clock, w.heap[r]? = some (.map es clock) ∧ es.toList.map (fun e => (e.key, e.val)) = M.map (fun p => (KV p.1, p.2)) ∧ ∀ p ∈ M, ok p.1

/-- One block laid anew. -/
def setAt (w : World) (r : Nat) (o : Obj) : World := { w with heap := w.heap.setIfInBounds r o }

theorem setAt_same {w : World} {r : Nat} {o o' : Obj} (h : w.heap[r]? = some o') : (setAt w r o).heap[r]? = some o := by
  have hlt := lt_of_block h
  simp [setAt, hlt]
theorem setAt_other {w : World} {r k : Nat} {o : Obj} (h : k ≠ r) : (setAt w r o).heap[k]? = w.heap[k]? := by
  simp [setAt, Ne.symm h]
theorem setAt_size (w : World) (r : Nat) (o : Obj) : (setAt w r o).heap.size = w.heap.size := by simp [setAt]

variable {P : Program} {kt et t : TypeId} {ok : α → Prop} {KV : α → Value} {M : List (α × Value)} {w : World} {r : Nat}

theorem MapIs.of_block {w' : World} (h : MapIs w r ok KV M) (hb : w'.heap[r]? = w.heap[r]?) : MapIs w' r ok KV M := by
  obtain ⟨es, clock, h1, h2⟩ := h
  exact ⟨es, clock, hb.trans h1, h2⟩
theorem MapIs.later {w' : World} (h : MapIs w r ok KV M) (hb : Below w.heap.size w w') : MapIs w' r ok KV M := by
  obtain ⟨es, clock, h1, h2⟩ := h
  exact ⟨es, clock, (hb.block r (lt_of_block h1)).trans h1, h2⟩
theorem MapIs.lt (h : MapIs w r ok KV M) : r < w.heap.size := by
  obtain ⟨es, clock, h1, -⟩ := h
  exact lt_of_block h1
theorem MapIs.made (w : World) : MapIs (w.alloc (.map #[] 0)) w.heap.size ok KV ([] : List (α × Value)) :=
  ⟨#[], 0, heap_alloc_new _ _, rfl, fun p hp => by cases hp⟩

theorem run_lookup_of (K : KeyOk P kt ok KV) (ht : P.underlying t = some (.map kt et)) {z : Value} (hz : (zeroValue et).run P w = .ok z w) (h : MapIs w r ok KV M) {k : α} (hk : ok k) (c : Bool) :
    (Instr.lookup t (.map (some r)) (KV k) c).run P w = .ok (if c then .tuple #[(getM k M).getD z, .bool (getM k M).isSome] else (getM k M).getD z) w := by
  obtain ⟨es, clock, h1, h2, h3⟩ := h
  have hf := K.find k M es.toList w hk h3 h2
  have hg := findAt_get k M 0
  unfold Instr.lookup
  simp only [Sem.run_bind, run_underlying ht, Result.andThen_ok]
  have hget : (getObj r).run P w = .ok (.map es clock) w := by simp [getObj, Sem.run, h1]
  simp only [hget, Sem.run_bind, Result.andThen_ok, Sem.run_pure, K.check _ k w hk, hf]
  cases hfa : findAt k M 0 with
  | none =>
    rw [hfa] at hg
    simp only [Option.map_none] at hg
    simp only [Sem.run_bind, hz, Result.andThen_ok, Sem.run_pure, ← hg]
    cases c <;> rfl
  | some q =>
    obtain ⟨i, v⟩ := q
    rw [hfa] at hg
    simp only [Option.map_some] at hg
    simp only [Sem.run_bind, Result.andThen_ok, Sem.run_pure, ← hg]
    cases c <;> rfl

theorem findAt_place {k : α} {M : List (α × Value)} {i j : Nat} {v : Value} (h : findAt k M i = some (j, v)) : i ≤ j ∧ ∃ p, M[j - i]? = some p ∧ p.1 = k ∧ ∀ v', putM k v' M = M.modify (j - i) (fun _ => (k, v')) := by
  induction M generalizing i with
  | nil => simp [findAt] at h
  | cons p M ih =>
    simp only [findAt] at h
    by_cases e : k = p.1
    · simp only [e, if_true, Option.some.injEq, Prod.mk.injEq] at h
      obtain ⟨rfl, rfl⟩ := h
      exact ⟨Nat.le_refl _, p, by simp, e.symm, fun v' => by simp [putM, e]⟩
    · simp only [e, if_false] at h
      obtain ⟨h1, q, h2, h3, h4⟩ := ih h
      have e2 : j - i = (j - (i + 1)) + 1 := by omega
      refine ⟨by omega, q, by rw [e2]; simpa using h2, h3, fun v' => ?_⟩
      rw [e2]
      simp [putM, e, h4]

theorem findAt_del {k : α} {M : List (α × Value)} {i j : Nat} {v : Value} (h : findAt k M i = some (j, v)) : delM k M = M.eraseIdx (j - i) ∧ i ≤ j ∧ j - i < M.length := by
  induction M generalizing i with
  | nil => simp [findAt] at h
  | cons p M ih =>
    simp only [findAt] at h
    by_cases e : k = p.1
    · simp only [e, if_true, Option.some.injEq, Prod.mk.injEq] at h
      obtain ⟨rfl, rfl⟩ := h
      exact ⟨by simp [delM, e], Nat.le_refl _, by simp⟩
    · simp only [e, if_false] at h
      obtain ⟨h1, h2, h3⟩ := ih h
      have e2 : j - i = (j - (i + 1)) + 1 := by omega
      exact ⟨by rw [e2]; simp [delM, e, h1], by omega, by simp; omega⟩
theorem delM_none {k : α} {M : List (α × Value)} (h : getM k M = none) : delM k M = M := by
  induction M with
  | nil => rfl
  | cons p M ih =>
    simp only [getM] at h
    by_cases e : k = p.1
    · simp [e] at h
    · simp only [e, if_false] at h
      simp [delM, e, ih h]

/-- What a turn of one map leaves of all else. -/
structure Turned (r : Nat) (w w' : World) : Prop where
  os : w'.os = w.os
  tape : w'.tape = w.tape
  output : w'.output = w.output
  size : w'.heap.size = w.heap.size
  block : ∀ k, k ≠ r → w'.heap[k]? = w.heap[k]?

theorem turned_setAt (w : World) (r : Nat) (o : Obj) : Turned r w (setAt w r o) := ⟨rfl, rfl, rfl, setAt_size _ _ _, fun _ h => setAt_other h⟩

theorem run_update_of (K : KeyOk P kt ok KV) (ht : P.underlying t = some (.map kt et)) (h : MapIs w r ok KV M) {k : α} (hk : ok k) (v : Value) :
    ∃ w', (Instr.mapUpdate t (.map (some r)) (KV k) v).run P w = .ok () w' ∧ MapIs w' r ok KV (putM k v M) ∧ Turned r w w' := by
  obtain ⟨es, clock, h1, h2, h3⟩ := h
  have hf := K.find k M es.toList w hk h3 h2
  have hget : (getObj r).run P w = .ok (.map es clock) w := by simp [getObj, Sem.run, h1]
  have hset : ∀ o : Obj, (setObj r o).run P w = .ok () (setAt w r o) := fun o => by simp [setObj, Sem.run, h1, setAt]
  cases hfa : findAt k M 0 with
  | none =>
    have hg : getM k M = none := (findAt_none k M 0).1 hfa
    refine ⟨setAt w r (.map (es.push { key := KV k, val := v, born := clock }) (clock + 1)), ?_, ?_, turned_setAt _ _ _⟩
    · unfold Instr.mapUpdate
      simp only [Sem.run_bind, run_underlying ht, Result.andThen_ok, hget, K.check _ k w hk, hf, hfa, hset]
    · refine ⟨_, _, setAt_same h1, ?_, putM_keys_ok hk h3⟩
      rw [putM_new hg]
      simp [h2]
  | some q =>
    obtain ⟨i, x⟩ := q
    obtain ⟨-, p, hp, hpk, hput⟩ := findAt_place hfa
    simp only [Nat.sub_zero] at hp hput
    have hlen : es.size = M.length := by simpa using congrArg List.length h2
    have hi : i < es.size := by rw [hlen]; exact (List.getElem?_eq_some_iff.1 hp).1
    have hkey : (es[i]?).map (·.key) = some (KV k) := by
      have := congrArg (fun l => l[i]?) h2
      simp only [List.getElem?_map, hp, Option.map_some, Array.getElem?_toList] at this
      rw [Array.getElem?_eq_getElem hi] at this ⊢
      simp only [Option.map_some, Option.some.injEq, Prod.mk.injEq] at this ⊢
      rw [this.1, hpk]
    have hkeep : (Instr.keyThatStays (KV k) (KV k)).run P w = .ok (KV k) w := by simp [Instr.keyThatStays, K.same k hk]
    refine ⟨setAt w r (.map (es.modify i fun e => { e with key := KV k, val := v }) clock), ?_, ?_, turned_setAt _ _ _⟩
    · unfold Instr.mapUpdate
      simp only [Sem.run_bind, run_underlying ht, Result.andThen_ok, hget, K.check _ k w hk, hf, hfa, hkey, Option.getD_some, hkeep, hset]
    · refine ⟨_, _, setAt_same h1, ?_, putM_keys_ok hk h3⟩
      rw [hput]
      apply List.ext_getElem?
      intro j
      have hj := congrArg (fun l => l[j]?) h2
      simp only [List.getElem?_map, Array.getElem?_toList] at hj
      simp only [List.getElem?_map, Array.getElem?_toList, Array.getElem?_modify, List.getElem?_modify]
      by_cases e : i = j
      · subst e
        simp only [if_true, Array.getElem?_eq_getElem hi, hp]
        simp
      · simp only [e, if_false]
        simpa using hj

theorem run_delete_of (K : KeyOk P kt ok KV) (ht : P.underlying t = some (.map kt et)) (h : MapIs w r ok KV M) {k : α} (hk : ok k) (t2 ty : TypeId) :
    ∃ w', (Builtin.delete_ #[t, t2] ty #[.map (some r), KV k]).run P w = .ok (.tuple #[]) w' ∧ MapIs w' r ok KV (delM k M) ∧ Turned r w w' := by
  obtain ⟨es, clock, h1, h2, h3⟩ := h
  have hf := K.find k M es.toList w hk h3 h2
  have hget : (getObj r).run P w = .ok (.map es clock) w := by simp [getObj, Sem.run, h1]
  have hset : ∀ o : Obj, (setObj r o).run P w = .ok () (setAt w r o) := fun o => by simp [setObj, Sem.run, h1, setAt]
  cases hfa : findAt k M 0 with
  | none =>
    have hg : getM k M = none := (findAt_none k M 0).1 hfa
    refine ⟨setAt w r (.map es clock), ?_, ?_, turned_setAt _ _ _⟩
    · simp [Builtin.delete_, Sem.run_bind, run_underlying ht, hget, K.check _ k w hk, hf, hfa, hset]
    · exact ⟨_, _, setAt_same h1, by rw [delM_none hg]; exact h2, delM_keys_ok h3⟩
  | some q =>
    obtain ⟨i, x⟩ := q
    obtain ⟨hdel, -, hi⟩ := findAt_del hfa
    simp only [Nat.sub_zero] at hdel hi
    refine ⟨setAt w r (.map (es.eraseIdxIfInBounds i) clock), ?_, ?_, turned_setAt _ _ _⟩
    · simp [Builtin.delete_, Sem.run_bind, run_underlying ht, hget, K.check _ k w hk, hf, hfa, hset]
    · refine ⟨_, _, setAt_same h1, ?_, delM_keys_ok h3⟩
      rw [hdel, Array.toList_eraseIdxIfInBounds, map_eraseIdx', map_eraseIdx', h2]

theorem run_len_of (ht : P.underlying t = some (.map kt et)) (h : MapIs w r ok KV M) (ty : TypeId) :
    (Builtin.len_ #[t] ty #[.map (some r)]).run P w = .ok (.int .i64 M.length) w := by
  obtain ⟨es, clock, h1, h2, h3⟩ := h
  have hget : (getObj r).run P w = .ok (.map es clock) w := by simp [getObj, Sem.run, h1]
  have hlen : es.size = M.length := by simpa using congrArg List.length h2
  simp [Builtin.len_, Sem.run_bind, run_underlying ht, hget, goInt, hlen]
end

end Go.Proofs.Qxb6600877aMods
