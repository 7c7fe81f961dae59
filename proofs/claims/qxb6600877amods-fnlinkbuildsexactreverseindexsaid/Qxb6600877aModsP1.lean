import Derived.Test.Qxb6600877aModsL4
namespace Go.Proofs.Qxb6600877aMods
open Go.RowKit

/-! ### counting first occurrences -/
section
variable {α : Type} [DecidableEq α]
def hasB (y : α) (l : List α) : Bool := l.any fun z => decide (z = y)
theorem hasB_iff {y : α} {l : List α} : hasB y l = true ↔ y ∈ l := by
  unfold hasB
  rw [List.any_eq_true]
  constructor
  · rintro ⟨z, hz, h⟩
    rw [decide_eq_true_iff] at h
    rw [← h]; exact hz
  · intro h; exact ⟨y, h, decide_eq_true rfl⟩
/-- The values that g takes below n, each once, in the order in which they come up first. -/
def firsts (g : Nat → Option α) : Nat → List α
  | 0 => []
  | n + 1 => match g n with
    | none => firsts g n
    | some y => if hasB y (firsts g n) then firsts g n else firsts g n ++ [y]
theorem firsts_none {g : Nat → Option α} {n : Nat} (h : g n = none) : firsts g (n + 1) = firsts g n := by simp [firsts, h]
theorem firsts_old {g : Nat → Option α} {n : Nat} {y : α} (h : g n = some y) (hy : y ∈ firsts g n) : firsts g (n + 1) = firsts g n := by simp [firsts, h, hasB_iff.2 hy]
theorem firsts_new {g : Nat → Option α} {n : Nat} {y : α} (h : g n = some y) (hy : y ∉ firsts g n) : firsts g (n + 1) = firsts g n ++ [y] := by
  have : hasB y (firsts g n) = false := Bool.eq_false_iff.2 fun e => hy (hasB_iff.1 e)
  simp [firsts, h, this]
theorem mem_firsts {g : Nat → Option α} {n : Nat} {y : α} : y ∈ firsts g n ↔ ∃ i, i < n ∧ g i = some y := by
  induction n with
  | zero => simp [firsts]
  | succ n ih =>
    have key : (∃ i, i < n + 1 ∧ g i = some y) ↔ (∃ i, i < n ∧ g i = some y) ∨ g n = some y := by
      constructor
      · rintro ⟨i, hi, h⟩
        by_cases e : i = n
        · subst e; exact Or.inr h
        · exact Or.inl ⟨i, by omega, h⟩
      · rintro (⟨i, hi, h⟩ | h)
        · exact ⟨i, by omega, h⟩
        · exact ⟨n, by omega, h⟩
    rw [key, ← ih]
    cases h : g n with
    | none => rw [firsts_none h]; simp
    | some z =>
      by_cases hz : z ∈ firsts g n
      · rw [firsts_old h hz]
        constructor
        · exact Or.inl
        · rintro (h1 | h1)
          · exact h1
          · rw [← Option.some.inj h1]; exact hz
      · rw [firsts_new h hz, List.mem_append, List.mem_singleton]
        constructor
        · rintro (h1 | rfl)
          · exact Or.inl h1
          · exact Or.inr rfl
        · rintro (h1 | h1)
          · exact Or.inl h1
          · exact Or.inr (Option.some.inj h1).symm
theorem nodup_firsts (g : Nat → Option α) (n : Nat) : (firsts g n).Nodup := by
  induction n with
  | zero => simp [firsts]
  | succ n ih =>
    cases h : g n with
    | none => rw [firsts_none h]; exact ih
    | some z =>
      by_cases hz : z ∈ firsts g n
      · rw [firsts_old h hz]; exact ih
      · rw [firsts_new h hz, List.nodup_append]
        refine ⟨ih, by simp, ?_⟩
        intro a ha b hb
        rw [List.mem_singleton.1 hb]
        rintro rfl
        exact hz ha
end

/-- The triple of reference i, where it is in the script. -/
def vt (ns fs ts : List ByteArray) (os : List Int) (i : Nat) : Option (ByteArray × RefP) := (ownO os ns.length i).map fun k => (tgt ts i, ((ns[k]?).getD ⟨#[]⟩, (fs[i]?).getD ⟨#[]⟩))
/-- Its target. -/
def gT (ns fs ts : List ByteArray) (os : List Int) (i : Nat) : Option ByteArray := (vt ns fs ts os i).map (·.1)
/-- Its referrer, where its target is t. -/
def gX (ns fs ts : List ByteArray) (os : List Int) (t : ByteArray) (i : Nat) : Option RefP := (vt ns fs ts os i).bind fun y => if y.1 = t then some y.2 else none

theorem gX_some {ns fs ts : List ByteArray} {os : List Int} {t : ByteArray} {i : Nat} {x : RefP} : gX ns fs ts os t i = some x ↔ vt ns fs ts os i = some (t, x) := by
  unfold gX
  cases h : vt ns fs ts os i with
  | none => simp
  | some y =>
    obtain ⟨y1, y2⟩ := y
    simp only [Option.bind_some, Option.some.injEq, Prod.mk.injEq]
    by_cases e : y1 = t
    · simp [e]
    · simp [e]

/-- The triples of all records are those of all references. -/
theorem trips_vt {ns fs ts : List ByteArray} {os : List Int} {T : List (ByteArray × RefP)} (h : Trips ns (recL fs ts os ns.length fs.length) 0 ns.length T) (y : ByteArray × RefP) : y ∈ T ↔ ∃ i, i < fs.length ∧ vt ns fs ts os i = some y := by
  rw [h y]
  constructor
  · rintro ⟨k, -, hk, hy⟩
    unfold trip recL at hy
    obtain ⟨q, hq, rfl⟩ := List.mem_map.1 hy
    obtain ⟨i, hi, rfl⟩ := List.mem_map.1 hq
    obtain ⟨hi1, hi2⟩ := List.mem_filter.1 hi
    refine ⟨i, List.mem_range.1 hi1, ?_⟩
    unfold vt
    rw [of_decide_eq_true hi2]
    rfl
  · rintro ⟨i, hi, hv⟩
    unfold vt at hv
    cases ho : ownO os ns.length i with
    | none => rw [ho] at hv; cases hv
    | some k =>
      rw [ho] at hv
      obtain rfl := Option.some.inj hv
      refine ⟨k, Nat.zero_le _, ownO_lt ho, ?_⟩
      unfold trip
      refine List.mem_map.2 ⟨((fs[i]?).getD ⟨#[]⟩, tgt ts i), ?_, rfl⟩
      unfold recL
      exact List.mem_map.2 ⟨i, List.mem_filter.2 ⟨List.mem_range.2 hi, decide_eq_true ho⟩, rfl⟩

/-- The index holds as many targets as come up. -/
theorem idx_count {ns fs ts : List ByteArray} {os : List Int} {T : List (ByteArray × RefP)} {S : Idx} (hT : ∀ y, y ∈ T ↔ ∃ i, i < fs.length ∧ vt ns fs ts os i = some y) (h : IdxOk T S) : S.length = (firsts (gT ns fs ts os) fs.length).length := by
  have := len_of_same h.nodup (nodup_firsts (gT ns fs ts os) fs.length) (fun t => by
    rw [h.keys t, mem_firsts]
    constructor
    · rintro ⟨x, hx⟩
      obtain ⟨i, hi, hv⟩ := (hT _).1 hx
      exact ⟨i, hi, by unfold gT; rw [hv]; rfl⟩
    · rintro ⟨i, hi, hv⟩
      unfold gT at hv
      obtain ⟨y, hy, e⟩ := Option.map_eq_some_iff.1 hv
      refine ⟨y.2, (hT _).2 ⟨i, hi, ?_⟩⟩
      rw [hy, ← e])
  simpa using this
/-- Under a target it holds as many referrers as come up. -/
theorem inner_count {ns fs ts : List ByteArray} {os : List Int} {T : List (ByteArray × RefP)} {S : Idx} (hT : ∀ y, y ∈ T ↔ ∃ i, i < fs.length ∧ vt ns fs ts os i = some y) (h : IdxOk T S) {t : ByteArray} {l : List RefP} (hl : (t, l) ∈ S) : l.length = (firsts (gX ns fs ts os t) fs.length).length := by
  refine len_of_same (h.inner _ hl) (nodup_firsts (gX ns fs ts os t) fs.length) (fun x => ?_)
  rw [h.mem _ hl x, hT, mem_firsts]
  constructor
  · rintro ⟨i, hi, hv⟩; exact ⟨i, hi, gX_some.2 hv⟩
  · rintro ⟨i, hi, hv⟩; exact ⟨i, hi, gX_some.1 hv⟩

end Go.Proofs.Qxb6600877aMods
