import Derived.Test.Qxb6600877aModsM1
import Derived.Test.Qxb6600877aModsA3
namespace Go.Proofs.Qxb6600877aMods
open Go.RowKit

theorem beq_bytes (a b : ByteArray) : (a == b) = decide (a = b) := by
  rw [beq_toListBytes, Bool.eq_iff_iff, beq_iff_eq, decide_eq_true_iff, bytes_toList_inj]

/-! ### KEYS string -/
def strVal (s : ByteArray) : Value := .string s
theorem findNow_str (k : ByteArray) (M : List (ByteArray × Value)) : ∀ (es : List MapEntry) (i : Nat), es.map (fun e => (e.key, e.val)) = M.map (fun p => (strVal p.1, p.2)) →
    Instr.findNow .string (.string k) es i = some (findAt k M i) := by
  induction M with
  | nil =>
    intro es i h
    obtain rfl : es = [] := by simpa using h
    rfl
  | cons p M ih =>
    intro es i h
    cases es with
    | nil => simp at h
    | cons e es =>
      simp only [List.map_cons, List.cons.injEq, Prod.mk.injEq, strVal] at h
      obtain ⟨⟨h1, h2⟩, h3⟩ := h
      simp only [Instr.findNow, h1, Instr.sameNow, findAt, beq_bytes]
      by_cases e : k = p.1
      · simp [e, h2]
      · simp only [e, decide_false, if_false]
        exact ih es (i + 1) h3
theorem keyStr : KeyOk Trym.prog 9 (fun _ => True) strVal where
  check := fun em k w _ => by
    show (Instr.checkKey em (9999 + 1) 9 (.string k)).run Trym.prog w = .ok () w
    unfold Instr.checkKey
    simp [Sem.run_bind, run_underlying Trym.underlying9]
  find := fun k M es w _ _ h => by
    unfold Instr.findKey
    simp only [Sem.run_bind, run_underlying Trym.underlying9, Result.andThen_ok]
    show (match Instr.findNow .string (.string k) es 0 with | some r => pure r | none => Instr.findAsking 9 (strVal k) es : Sem _).run Trym.prog w = _
    rw [findNow_str k M es 0 h]
    rfl
  same := fun k _ => by
    show Instr.sameBits 10000 (.string k) (.string k) = true
    simp [Instr.sameBits, beq_bytes]

/-! ### KEYS Referrer{Name, Field} -/
def refVal (r : RefP) : Value := .agg #[.string r.1, .string r.2]
theorem run_equal46 (w : World) (a b : RefP) : (Op.equal 46 (refVal a) (refVal b)).run Trym.prog w = .ok (decide (a = b)) w := by
  have hf : Trym.prog.underlying 46 = some (.struct (Trym.prog.fieldsOf 46)) := by kernel_rfl
  have hs : Trym.prog.stoodInHeld 46 = false := by kernel_rfl
  have hu9 := Trym.underlying9
  have h := run_equalIn_struct (P := Trym.prog) w 9999 46 #[.string a.1, .string a.2] #[.string b.1, .string b.2] hf hs
  show (Op.equalIn (9999 + 1) 46 (.agg #[.string a.1, .string a.2]) (.agg #[.string b.1, .string b.2])).run Trym.prog w = _
  rw [h]
  rw [Trym.underlying46] at hf
  have hfl : Trym.prog.fieldsOf 46 = _ := (TypeDesc.struct.inj (Option.some.inj hf)).symm
  rw [hfl]
  simp [go_sem, Op.eqFields, bytes_toList_inj]
  obtain ⟨a1, a2⟩ := a
  obtain ⟨b1, b2⟩ := b
  by_cases h1 : a1 = b1
  · by_cases h2 : a2 = b2 <;> simp [h1, h2]
  · simp [h1]
theorem run_check46 (em : Bool) (w : World) (r : RefP) : (Instr.checkKey em 10000 46 (refVal r)).run Trym.prog w = .ok () w := by
  have hu9 := Trym.underlying9
  have e1 : ∀ s : ByteArray, (Instr.checkKey em 9999 9 (.string s)).run Trym.prog w = .ok () w := fun s => by
    show (Instr.checkKey em (9998 + 1) 9 (.string s)).run Trym.prog w = .ok () w
    unfold Instr.checkKey
    simp [Sem.run_bind, run_underlying Trym.underlying9]
  show (Instr.checkKey em (9999 + 1) 46 (.agg #[.string r.1, .string r.2])).run Trym.prog w = .ok () w
  unfold Instr.checkKey
  simp only [Sem.run_bind, run_underlying Trym.underlying46, Result.andThen_ok]
  simp [go_sem, e1]
theorem findAsking46 (w : World) (k : RefP) (M : List (RefP × Value)) : ∀ (es : List MapEntry) (i : Nat), es.map (fun e => (e.key, e.val)) = M.map (fun p => (refVal p.1, p.2)) →
    (Instr.findAsking 46 (refVal k) es i).run Trym.prog w = .ok (findAt k M i) w := by
  induction M with
  | nil =>
    intro es i h
    obtain rfl : es = [] := by simpa using h
    rfl
  | cons p M ih =>
    intro es i h
    cases es with
    | nil => simp at h
    | cons e es =>
      simp only [List.map_cons, List.cons.injEq, Prod.mk.injEq] at h
      obtain ⟨⟨h1, h2⟩, h3⟩ := h
      have e1 := run_equal46 w k p.1
      simp only [Instr.findAsking, Sem.run_bind, h1, e1, Result.andThen_ok, findAt]
      by_cases e : k = p.1
      · simp [e, h2]
      · simp only [e, decide_false, Bool.false_eq_true, if_false]
        exact ih es (i + 1) h3
theorem keyRef : KeyOk Trym.prog 46 (fun _ => True) refVal where
  check := fun em k w _ => run_check46 em w k
  find := fun k M es w _ _ h => by
    unfold Instr.findKey
    simp only [Sem.run_bind, run_underlying Trym.underlying46, Result.andThen_ok]
    cases es with
    | nil =>
      have : M = [] := by simpa using h.symm
      subst this
      rfl
    | cons e es =>
      have := findAsking46 w k M (e :: es) 0 h
      exact this
  same := fun k _ => by
    show Instr.sameBits (9999 + 1) (refVal k) (refVal k) = true
    simp [refVal, Instr.sameBits, beq_bytes]

end Go.Proofs.Qxb6600877aMods
