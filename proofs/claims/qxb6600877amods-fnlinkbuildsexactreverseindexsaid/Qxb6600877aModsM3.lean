import Derived.Test.Qxb6600877aModsM2
import Derived.Maps.Own
import Derived.Maps.OwnOps
namespace Go.Proofs.Qxb6600877aMods
open Go.RowKit

section
variable {P : Program} {ops : Array Oper} {rest : List Oper} {op : Oper} {a : Act} {w : World} {Q : Exit → Act → World → Prop}
variable {α : Type} [DecidableEq α] {ok : α → Prop} {KV : α → Value} {M : List (α × Value)} {kt et : TypeId}

/-- 'v, ok := m[k]' -/
theorem wpList_lookup_ok (hgd : op.guard = none) (t : TypeId) (x y : Operand) (ho : op.op = .lookup t x y true) (K : KeyOk P kt ok KV) (ht : P.underlying t = some (.map kt et)) {z : Value} (hz : (zeroValue et).run P w = .ok z w)
    (r : Nat) (hx : a.eval x = .map (some r)) (k : α) (hk : ok k) (hy : a.eval y = KV k) (hm : MapIs w r ok KV M)
    (h : wpList P ops Q rest (a.put op.dst (.tuple #[(getM k M).getD z, .bool (getM k M).isSome])) w) : wpList P ops Q (op :: rest) a w := by
  have hrun := run_lookup_of K ht hz hm hk true
  refine wpList_plain hgd fun K' hK => ?_
  unfold Oper.wp execOp
  simp only [ho, hx, hy, Sem.run_bind, hrun, Result.andThen_ok, Sem.run_pure, if_true]
  exact hK _ _ h

/-- 'm[k]' -/
theorem wpList_lookup_val (hgd : op.guard = none) (t : TypeId) (x y : Operand) (ho : op.op = .lookup t x y false) (K : KeyOk P kt ok KV) (ht : P.underlying t = some (.map kt et)) {z : Value} (hz : (zeroValue et).run P w = .ok z w)
    (r : Nat) (hx : a.eval x = .map (some r)) (k : α) (hk : ok k) (hy : a.eval y = KV k) (hm : MapIs w r ok KV M)
    (h : wpList P ops Q rest (a.put op.dst ((getM k M).getD z)) w) : wpList P ops Q (op :: rest) a w := by
  have hrun := run_lookup_of K ht hz hm hk false
  refine wpList_plain hgd fun K' hK => ?_
  unfold Oper.wp execOp
  simp only [ho, hx, hy, Sem.run_bind, hrun, Result.andThen_ok, Sem.run_pure, Bool.false_eq_true, if_false]
  exact hK _ _ h

/-- 'm[k] = v' -/
theorem wpList_update (hgd : op.guard = none) (t : TypeId) (x y v : Operand) (ho : op.op = .mapUpdate t x y v) (K : KeyOk P kt ok KV) (ht : P.underlying t = some (.map kt et))
    (r : Nat) (hx : a.eval x = .map (some r)) (k : α) (hk : ok k) (hy : a.eval y = KV k) (vv : Value) (hv : a.eval v = vv) (hm : MapIs w r ok KV M)
    (h : ∀ w', MapIs w' r ok KV (putM k vv M) → Turned r w w' → wpList P ops Q rest (a.put op.dst undef) w') : wpList P ops Q (op :: rest) a w := by
  subst hv
  obtain ⟨w', hrun, h1, h2⟩ := run_update_of K ht hm hk (a.eval v)
  refine wpList_plain hgd fun K' hK => ?_
  unfold Oper.wp execOp
  simp only [ho, hx, hy, Sem.run_bind, hrun, Result.andThen_ok, Sem.run_pure]
  exact hK _ _ (h w' h1 h2)

end

theorem Turned.below {r B : Nat} {a w w' : World} (h : Turned r w w') (hb : Below B a w) (hr : B ≤ r) : Below B a w' :=
  hb.trans ⟨h.os, h.tape, h.output, Nat.le_of_eq h.size.symm, fun k hk => h.block k (by omega)⟩

/-! ### THE INDEX: the plain side -/
abbrev Idx := List (ByteArray × List RefP)
def insR (x : RefP) : List RefP → List RefP
  | [] => [x]
  | y :: l => if x = y then y :: l else y :: insR x l
def addI (t : ByteArray) (x : RefP) : Idx → Idx
  | [] => [(t, [x])]
  | p :: S => if t = p.1 then (p.1, insR x p.2) :: S else p :: addI t x S
def getI (t : ByteArray) : Idx → Option (List RefP)
  | [] => none
  | p :: S => if t = p.1 then some p.2 else getI t S

theorem mem_insR {x y : RefP} {l : List RefP} : y ∈ insR x l ↔ y ∈ l ∨ y = x := by
  induction l with
  | nil => simp [insR]
  | cons z l ih =>
    simp only [insR]
    split
    · rename_i e
      subst e
      constructor
      · exact Or.inl
      · rintro (h | rfl)
        · exact h
        · exact List.mem_cons_self
    · rw [List.mem_cons, ih, List.mem_cons, or_assoc]
theorem nodup_insR {x : RefP} {l : List RefP} (h : l.Nodup) : (insR x l).Nodup := by
  induction l with
  | nil => simp [insR]
  | cons z l ih =>
    simp only [insR]
    split
    · exact h
    · rename_i e
      rw [List.nodup_cons] at h ⊢
      refine ⟨?_, ih h.2⟩
      rw [mem_insR]
      rintro (h1 | h1)
      · exact h.1 h1
      · exact e h1.symm
theorem getI_mem {t : ByteArray} {S : Idx} {l : List RefP} (h : getI t S = some l) : (t, l) ∈ S := by
  induction S with
  | nil => cases h
  | cons p S ih =>
    simp only [getI] at h
    split at h
    · rename_i e
      obtain rfl := Option.some.inj h
      rw [e]; exact List.mem_cons_self
    · exact List.mem_cons_of_mem _ (ih h)
theorem getI_none {t : ByteArray} {S : Idx} : getI t S = none ↔ t ∉ S.map (·.1) := by
  induction S with
  | nil => simp [getI]
  | cons p S ih =>
    simp only [getI]
    split
    · rename_i e; simp [e]
    · rename_i e; simp [ih, e]
theorem getI_of_mem {S : Idx} (hnd : (S.map (·.1)).Nodup) {p : ByteArray × List RefP} (h : p ∈ S) : getI p.1 S = some p.2 := by
  induction S with
  | nil => cases h
  | cons q S ih =>
    rw [List.map_cons, List.nodup_cons] at hnd
    simp only [getI]
    rcases List.mem_cons.1 h with rfl | h
    · simp
    · have : p.1 ≠ q.1 := fun e => hnd.1 (by rw [← e]; exact List.mem_map.2 ⟨p, h, rfl⟩)
      rw [if_neg this]
      exact ih hnd.2 h
theorem addI_keys_in {t : ByteArray} {x : RefP} {S : Idx} (h : t ∈ S.map (·.1)) : (addI t x S).map (·.1) = S.map (·.1) := by
  induction S with
  | nil => simp at h
  | cons p S ih =>
    simp only [addI]
    split
    · rfl
    · rename_i e
      rw [List.map_cons, List.mem_cons] at h
      rw [List.map_cons, List.map_cons, ih (h.resolve_left e)]
theorem addI_new {t : ByteArray} {x : RefP} {S : Idx} (h : t ∉ S.map (·.1)) : addI t x S = S ++ [(t, [x])] := by
  induction S with
  | nil => rfl
  | cons p S ih =>
    rw [List.map_cons, List.mem_cons, not_or] at h
    simp only [addI, if_neg h.1, ih h.2, List.cons_append]
theorem addI_mem {t : ByteArray} {x : RefP} {S : Idx} (hnd : (S.map (·.1)).Nodup) (h : t ∈ S.map (·.1)) {p : ByteArray × List RefP} : p ∈ addI t x S ↔ (p ∈ S ∧ p.1 ≠ t) ∨ (p.1 = t ∧ ∃ l, (t, l) ∈ S ∧ p.2 = insR x l) := by
  induction S with
  | nil => simp at h
  | cons q S ih =>
    rw [List.map_cons, List.nodup_cons] at hnd
    simp only [addI]
    split
    · rename_i e
      subst e
      have hno : ∀ l, (q.1, l) ∉ S := fun l hl => hnd.1 (List.mem_map.2 ⟨_, hl, rfl⟩)
      constructor
      · intro hp
        rcases List.mem_cons.1 hp with rfl | hp
        · exact Or.inr ⟨rfl, q.2, by simp, rfl⟩
        · refine Or.inl ⟨List.mem_cons_of_mem _ hp, fun e => hno p.2 (by rw [← e]; exact hp)⟩
      · rintro (⟨hp, hne⟩ | ⟨hp1, l, hl, hp2⟩)
        · rcases List.mem_cons.1 hp with rfl | hp
          · exact absurd rfl hne
          · exact List.mem_cons_of_mem _ hp
        · rcases List.mem_cons.1 hl with hl | hl
          · refine List.mem_cons.2 (Or.inl ?_)
            obtain ⟨p1, p2⟩ := p
            simp only at hp1 hp2
            have : l = q.2 := by rw [← hl]
            rw [hp1, hp2, this]
          · exact absurd hl (hno l)
    · rename_i e
      rw [List.map_cons, List.mem_cons] at h
      have ih' := ih hnd.2 (h.resolve_left e)
      rw [List.mem_cons, ih']
      constructor
      · rintro (rfl | ⟨hp, hne⟩ | ⟨hp, l, hl, hp2⟩)
        · exact Or.inl ⟨List.mem_cons_self, Ne.symm e⟩
        · exact Or.inl ⟨List.mem_cons_of_mem _ hp, hne⟩
        · exact Or.inr ⟨hp, l, List.mem_cons_of_mem _ hl, hp2⟩
      · rintro (⟨hp, hne⟩ | ⟨hp, l, hl, hp2⟩)
        · rcases List.mem_cons.1 hp with rfl | hp
          · exact Or.inl rfl
          · exact Or.inr (Or.inl ⟨hp, hne⟩)
        · rcases List.mem_cons.1 hl with hl | hl
          · exact absurd (congrArg Prod.fst hl) e
          · exact Or.inr (Or.inr ⟨hp, l, hl, hp2⟩)

/-- S is the index of the triples T. -/
structure IdxOk (T : List (ByteArray × RefP)) (S : Idx) : Prop where
  nodup : (S.map (·.1)).Nodup
  inner : ∀ p ∈ S, p.2.Nodup
  mem : ∀ p ∈ S, ∀ x, x ∈ p.2 ↔ (p.1, x) ∈ T
  keys : ∀ t, t ∈ S.map (·.1) ↔ ∃ x, (t, x) ∈ T

theorem IdxOk.nil : IdxOk [] [] where
  nodup := by simp
  inner := fun p hp => absurd hp (by simp)
  mem := fun p hp => absurd hp (by simp)
  keys := fun t => by simp
theorem IdxOk.congr {T T' : List (ByteArray × RefP)} {S : Idx} (h : IdxOk T S) (e : ∀ y, y ∈ T ↔ y ∈ T') : IdxOk T' S :=
  ⟨h.nodup, h.inner, fun p hp x => (h.mem p hp x).trans (e _), fun t => (h.keys t).trans ⟨fun ⟨x, hx⟩ => ⟨x, (e _).1 hx⟩, fun ⟨x, hx⟩ => ⟨x, (e _).2 hx⟩⟩⟩
theorem IdxOk.add {T : List (ByteArray × RefP)} {S : Idx} (h : IdxOk T S) (t : ByteArray) (x : RefP) : IdxOk (T ++ [(t, x)]) (addI t x S) := by
  by_cases ht : t ∈ S.map (·.1)
  · have hm := fun p => addI_mem (x := x) h.nodup ht (p := p)
    refine ⟨by rw [addI_keys_in ht]; exact h.nodup, fun p hp => ?_, fun p hp y => ?_, fun s => ?_⟩
    · rcases (hm p).1 hp with ⟨hp, -⟩ | ⟨-, l, hl, e⟩
      · exact h.inner p hp
      · rw [e]; exact nodup_insR (h.inner _ hl)
    · rcases (hm p).1 hp with ⟨hp, hne⟩ | ⟨e1, l, hl, e⟩
      · rw [h.mem p hp y, List.mem_append, List.mem_singleton]
        constructor
        · exact Or.inl
        · rintro (h1 | h1)
          · exact h1
          · exact absurd (congrArg Prod.fst h1) hne
      · rw [e, mem_insR, h.mem _ hl y, e1, List.mem_append, List.mem_singleton]
        constructor
        · rintro (h1 | rfl)
          · exact Or.inl h1
          · exact Or.inr rfl
        · rintro (h1 | h1)
          · exact Or.inl h1
          · exact Or.inr (congrArg Prod.snd h1)
    · rw [addI_keys_in ht, h.keys s]
      constructor
      · rintro ⟨y, hy⟩; exact ⟨y, List.mem_append_left _ hy⟩
      · rintro ⟨y, hy⟩
        rcases List.mem_append.1 hy with hy | hy
        · exact ⟨y, hy⟩
        · rw [List.mem_singleton] at hy
          obtain ⟨z, hz⟩ := (h.keys t).1 ht
          exact ⟨z, by rw [show s = t from congrArg Prod.fst hy]; exact hz⟩
  · have hno : ∀ y, (t, y) ∉ T := fun y hy => ht ((h.keys t).2 ⟨y, hy⟩)
    rw [addI_new ht]
    refine ⟨?_, fun p hp => ?_, fun p hp y => ?_, fun s => ?_⟩
    · rw [List.map_append, List.nodup_append]
      refine ⟨h.nodup, by simp, ?_⟩
      intro a ha b hb
      simp only [List.map_cons, List.map_nil, List.mem_singleton] at hb
      rw [hb]
      rintro rfl
      exact ht ha
    · rcases List.mem_append.1 hp with hp | hp
      · exact h.inner p hp
      · rw [List.mem_singleton.1 hp]; simp
    · rcases List.mem_append.1 hp with hp | hp
      · rw [h.mem p hp y, List.mem_append, List.mem_singleton]
        constructor
        · exact Or.inl
        · rintro (h1 | h1)
          · exact h1
          · have e1 : p.1 = t := congrArg Prod.fst h1
            exact absurd (List.mem_map.2 ⟨p, hp, e1⟩) ht
      · rw [List.mem_singleton.1 hp, List.mem_append, List.mem_singleton]
        simp [hno y]
    · rw [List.map_append, List.mem_append, h.keys s]
      constructor
      · rintro (⟨y, hy⟩ | hy)
        · exact ⟨y, List.mem_append_left _ hy⟩
        · simp only [List.map_cons, List.map_nil, List.mem_singleton] at hy
          exact ⟨x, List.mem_append_right _ (by rw [hy]; simp)⟩
      · rintro ⟨y, hy⟩
        rcases List.mem_append.1 hy with hy | hy
        · exact Or.inl ⟨y, hy⟩
        · rw [List.mem_singleton] at hy
          exact Or.inr (by simpa using congrArg Prod.fst hy)

theorem len_of_same {α : Type} [DecidableEq α] {l m : List α} (h1 : l.Nodup) (h2 : m.Nodup) (h : ∀ a, a ∈ l ↔ a ∈ m) : l.length = m.length :=
  ((List.perm_ext_iff_of_nodup h1 h2).2 h).length_eq
theorem IdxOk.length {T : List (ByteArray × RefP)} {S S' : Idx} (h : IdxOk T S) (h' : IdxOk T S') : S.length = S'.length := by
  have := len_of_same h.nodup h'.nodup (fun a => (h.keys a).trans (h'.keys a).symm)
  simpa using this
theorem IdxOk.inner_len {T : List (ByteArray × RefP)} {S S' : Idx} (h : IdxOk T S) (h' : IdxOk T S') {t : ByteArray} {l l' : List RefP} (hl : (t, l) ∈ S) (hl' : (t, l') ∈ S') : l.length = l'.length :=
  len_of_same (h.inner _ hl) (h'.inner _ hl') (fun a => (h.mem _ hl a).trans (h'.mem _ hl' a).symm)

end Go.Proofs.Qxb6600877aMods
