import Derived.Test.Qxb6601980aModsM1
import Derived.Test.Qxb6601980aModsE2
namespace Go.Proofs.Qxb6601980aMods
open Go.RowKit

/-! ### KEYS [32]byte -/
/-- A key as a value. -/
def keyVal (k : List Int) : Value := .agg (keyCells k).toArray
def okKey (k : List Int) : Prop := k.length = 32

theorem Trym.cells5' : Trym.prog.cellsOf 5 = 1 := by kernel_rfl

theorem keyCells_get {k : List Int} {i : Nat} (h : i < k.length) : (keyCells k).toArray[i]? = some (.int .u8 k[i]) := by
  simp [keyCells, h]

theorem run_part5 (w : World) {k : List Int} {i : Nat} (h : i < k.length) : (part 5 (keyCells k).toArray (i * 1)).run Trym.prog w = .ok (.int .u8 k[i]) w := by
  have hagg : (isAgg 5).run Trym.prog w = .ok false w := by
    unfold isAgg
    rw [Sem.run_bind, run_underlying Trym.underlying5 w]
    rfl
  rw [Nat.mul_one]
  unfold part
  rw [Sem.run_bind, hagg]
  simp only [Result.andThen_ok, Bool.false_eq_true, if_false, keyCells_get h]
  rfl

theorem run_eqItems5 (w : World) (d : Nat) {k k' : List Int} (hk : k.length = 32) (hk' : k'.length = 32) (is : List Nat) (his : ∀ i ∈ is, i < 32) :
    (Op.eqItems (d + 1) 5 1 (keyCells k).toArray (keyCells k').toArray is).run Trym.prog w = .ok (is.all fun i => k.getD i 0 == k'.getD i 0) w := by
  induction is with
  | nil => rfl
  | cons i is ih =>
    have hi : i < 32 := his i List.mem_cons_self
    have ih' := ih (fun j hj => his j (List.mem_cons_of_mem _ hj))
    have e1 := run_part5 w (k := k) (i := i) (by omega)
    have e2 := run_part5 w (k := k') (i := i) (by omega)
    have e3 := run_equalIn_int (P := Trym.prog) w d 5 .u8 .u8 (k[i]'(by omega)) (k'[i]'(by omega)) Trym.underlying5
    have g1 : k.getD i 0 = k[i]'(by omega) := by simp [List.getD, show i < k.length by omega]
    have g2 : k'.getD i 0 = k'[i]'(by omega) := by simp [List.getD, show i < k'.length by omega]
    simp only [Op.eqItems, Sem.run_bind, e1, e2, e3, Result.andThen_ok, List.all_cons, g1, g2]
    cases hb : (k[i]'(by omega) == k'[i]'(by omega))
    · rfl
    · simpa using ih'

theorem run_equal50 (w : World) {k k' : List Int} (hk : k.length = 32) (hk' : k'.length = 32) : (Op.equal 50 (keyVal k) (keyVal k')).run Trym.prog w = .ok (decide (k = k')) w := by
  obtain ⟨i5, hi5, -, -, -⟩ := info_parts Trym.info5
  have h := run_equalIn_array (P := Trym.prog) w 9999 (keyCells k).toArray (keyCells k').toArray Trym.underlying50 hi5
  rw [Trym.cells5', run_eqItems5 w 9998 hk hk' (List.range 32) (fun i hi => List.mem_range.1 hi)] at h
  have e : ((List.range 32).all fun i => k.getD i 0 == k'.getD i 0) = decide (k = k') := by
    rw [Bool.eq_iff_iff, List.all_eq_true, decide_eq_true_iff]
    constructor
    · intro hall
      apply List.ext_getElem (by rw [hk, hk'])
      intro i h1 h2
      have := hall i (List.mem_range.2 (by omega))
      simpa [List.getD, h1, h2] using this
    · rintro rfl i -
      simp
  rw [e] at h
  exact h

theorem run_check50 (em : Bool) (w : World) {k : List Int} (hk : k.length = 32) : (Instr.checkKey em 10000 50 (keyVal k)).run Trym.prog w = .ok () w := by
  obtain ⟨i5, hi5, -, hs5, -⟩ := info_parts Trym.info5
  have hsz : (sizeOf 5).run Trym.prog w = .ok 1 w := by simp [sizeOf, typeInfo, hi5, hs5]
  show (Instr.checkKey em (9999 + 1) 50 (keyVal k)).run Trym.prog w = .ok () w
  unfold Instr.checkKey keyVal
  simp only [Sem.run_bind, run_underlying Trym.underlying50, Result.andThen_ok]
  simp only [Std.Legacy.Range.forIn_eq_forIn_range', Std.Legacy.Range.size, Nat.sub_zero, Nat.add_one_sub_one, Nat.div_one]
  have his : ∀ i ∈ List.range' 0 32, i < 32 := by intro i hi; simpa using hi
  generalize List.range' 0 32 = is at his
  induction is with
  | nil => rfl
  | cons i is ih =>
    have e1 := run_part5 w (k := k) (i := i) (by rw [hk]; exact his i List.mem_cons_self)
    have e2 : (Instr.checkKey em 9999 5 (.int .u8 (k[i]'(by rw [hk]; exact his i List.mem_cons_self)))).run Trym.prog w = .ok () w := by
      show (Instr.checkKey em (9998 + 1) 5 _).run Trym.prog w = .ok () w
      unfold Instr.checkKey
      simp [Sem.run_bind, run_underlying Trym.underlying5]
    simp only [List.forIn_cons, Sem.run_bind, hsz, Result.andThen_ok, e1, e2, Sem.run_pure]
    exact ih (fun j hj => his j (List.mem_cons_of_mem _ hj))

theorem run_findAsking50 (w : World) {k : List Int} (hk : okKey k) (M : List (List Int × Value)) : ∀ (es : List MapEntry) (i : Nat), (∀ p ∈ M, okKey p.1) → es.map (fun e => (e.key, e.val)) = M.map (fun p => (keyVal p.1, p.2)) →
    (Instr.findAsking 50 (keyVal k) es i).run Trym.prog w = .ok (findAt k M i) w := by
  induction M with
  | nil =>
    intro es i _ h
    obtain rfl : es = [] := by simpa using h
    rfl
  | cons p M ih =>
    intro es i hM h
    cases es with
    | nil => simp at h
    | cons e es =>
      simp only [List.map_cons, List.cons.injEq, Prod.mk.injEq] at h
      obtain ⟨⟨h1, h2⟩, h3⟩ := h
      have e1 := run_equal50 w hk (hM p List.mem_cons_self)
      simp only [Instr.findAsking, Sem.run_bind, h1, e1, Result.andThen_ok, findAt]
      by_cases e : k = p.1
      · simp [e, h2]
      · simp only [e, decide_false, Bool.false_eq_true, if_false]
        exact ih es (i + 1) (fun q hq => hM q (List.mem_cons_of_mem _ hq)) h3

theorem sameBits_key (k : List Int) : Instr.sameBits 10000 (keyVal k) (keyVal k) = true := by
  show Instr.sameBits (9999 + 1) (keyVal k) (keyVal k) = true
  unfold keyVal
  simp only [Instr.sameBits, beq_self_eq_true, Bool.true_and, List.all_eq_true]
  rintro ⟨x, y⟩ hxy
  simp only [List.zip_eq_zipWith] at hxy
  have hx : x = y ∧ x ∈ keyCells k := by
    have : ∀ l : List Value, (x, y) ∈ List.zipWith Prod.mk l l → x = y ∧ x ∈ l := by
      intro l
      induction l with
      | nil => intro h; simp at h
      | cons a l ih =>
        intro h
        rw [List.zipWith_cons_cons] at h
        rcases List.mem_cons.1 h with h | h
        · cases h; exact ⟨rfl, List.mem_cons_self⟩
        · exact ⟨(ih h).1, List.mem_cons_of_mem _ (ih h).2⟩
    exact this _ hxy
  obtain ⟨rfl, hm⟩ := hx
  obtain ⟨z, -, rfl⟩ := List.mem_map.1 hm
  simp [Instr.sameBits]

theorem key50 : KeyOk Trym.prog 50 okKey keyVal where
  check := fun em k w hk => run_check50 em w hk
  find := fun k M es w hk hM h => by
    unfold Instr.findKey
    simp only [Sem.run_bind, run_underlying Trym.underlying50, Result.andThen_ok]
    cases es with
    | nil =>
      have : M = [] := by simpa using h.symm
      subst this
      rfl
    | cons e es => exact run_findAsking50 w hk M (e :: es) 0 hM h
  same := fun k _ => sameBits_key k

end Go.Proofs.Qxb6601980aMods
