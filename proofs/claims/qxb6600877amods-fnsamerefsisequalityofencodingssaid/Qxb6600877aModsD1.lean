import Derived.Test.Qxb6600877aModsA3
import Derived.Lib.BufSteps
import Derived.Laws.BytesArg
namespace Go.Proofs.Qxb6600877aMods
open Go.RowKit

/-! ### encodeRefs: the plain side -/
/-- The decimal digits of n, as bytes; none of 0. -/
def digsF : Nat → Nat → List Int
  | 0, _ => []
  | f + 1, n => if n = 0 then [] else digsF f (n / 10) ++ [48 + ((n % 10 : Nat) : Int)]
def digs (n : Nat) : List Int := digsF n n
def decB (n : Nat) : List Int := if n = 0 then [48] else digs n
def bytesI (s : ByteArray) : List Int := s.data.toList.map fun b => (b.toNat : Int)
def encR (r : RefP) : List Int := decB r.1.size ++ ([58] ++ (bytesI r.1 ++ (decB r.2.size ++ ([58] ++ bytesI r.2))))
def encB (rs : List RefP) : List Int := rs.flatMap encR
def u8s (xs : List Int) : List Value := xs.map (Value.int .u8)

theorem u8s_append (xs ys : List Int) : u8s (xs ++ ys) = u8s xs ++ u8s ys := by simp [u8s]
theorem u8s_length (xs : List Int) : (u8s xs).length = xs.length := by simp [u8s]
theorem bytesI_length (s : ByteArray) : (bytesI s).length = s.size := by simp [bytesI]
theorem strCells_u8s (s : ByteArray) : Lib.strCells s = u8s (bytesI s) := by simp [Lib.strCells, u8s, bytesI]
theorem encB_nil : encB [] = [] := rfl
theorem encB_cons (r : RefP) (rs : List RefP) : encB (r :: rs) = encR r ++ encB rs := rfl
theorem encB_append (a b : List RefP) : encB (a ++ b) = encB a ++ encB b := by simp [encB]
theorem encB_take_succ {rs : List RefP} {k : Nat} {r : RefP} (h : rs[k]? = some r) : encB (rs.take (k + 1)) = encB (rs.take k) ++ encR r := by
  rw [List.take_add_one, h, encB_append]
  simp [encB]

theorem digsF_zero (f : Nat) : digsF f 0 = [] := by
  cases f with
  | zero => rfl
  | succ f => simp [digsF]
theorem digsF_eq : ∀ (f g n : Nat), n ≤ f → n ≤ g → digsF f n = digsF g n := by
  intro f
  induction f with
  | zero =>
    intro g n hn _
    obtain rfl : n = 0 := by omega
    rw [digsF_zero, digsF_zero]
  | succ f ih =>
    intro g n hf hg
    by_cases h0 : n = 0
    · subst h0; rw [digsF_zero, digsF_zero]
    · obtain ⟨g', rfl⟩ : ∃ g', g = g' + 1 := ⟨g - 1, by omega⟩
      simp only [digsF, h0, if_false]
      rw [ih g' (n / 10) (by omega) (by omega)]
theorem digs_zero : digs 0 = [] := rfl
theorem digs_step {n : Nat} (h : n ≠ 0) : digs n = digs (n / 10) ++ [48 + ((n % 10 : Nat) : Int)] := by
  obtain ⟨f, rfl⟩ : ∃ f, n = f + 1 := ⟨n - 1, by omega⟩
  unfold digs
  rw [digsF, if_neg h, digsF_eq f ((f + 1) / 10) ((f + 1) / 10) (by omega) (Nat.le_refl _)]
theorem digs_range (n : Nat) : ∀ x ∈ digs n, 48 ≤ x ∧ x ≤ 57 := by
  induction n using Nat.strongRecOn with
  | _ n ih =>
    intro x hx
    by_cases h : n = 0
    · subst h; rw [digs_zero] at hx; cases hx
    · rw [digs_step h] at hx
      rcases List.mem_append.1 hx with h1 | h1
      · exact ih _ (by omega) x h1
      · rw [List.mem_singleton.1 h1]; omega
theorem digs_len : ∀ (k n : Nat), n < 10 ^ k → (digs n).length ≤ k := by
  intro k
  induction k with
  | zero => intro n h; have : n = 0 := by simpa using h
            subst this; rw [digs_zero]; simp
  | succ k ih =>
    intro n h
    by_cases h0 : n = 0
    · subst h0; rw [digs_zero]; simp
    · rw [digs_step h0, List.length_append]
      have := ih (n / 10) (by rw [Nat.pow_succ] at h; omega)
      simp; omega
def valOf (xs : List Int) : Int := xs.foldl (fun a x => a * 10 + (x - 48)) 0
theorem valOf_snoc (xs : List Int) (x : Int) : valOf (xs ++ [x]) = valOf xs * 10 + (x - 48) := by simp [valOf]
theorem valOf_digs (n : Nat) : valOf (digs n) = n := by
  induction n using Nat.strongRecOn with
  | _ n ih =>
    by_cases h : n = 0
    · subst h; rw [digs_zero]; rfl
    · rw [digs_step h, valOf_snoc, ih _ (by omega)]; omega
theorem valOf_decB (n : Nat) : valOf (decB n) = n := by
  unfold decB
  split
  · rename_i h; subst h; rfl
  · exact valOf_digs n
theorem decB_inj {n m : Nat} (h : decB n = decB m) : n = m := by
  have := valOf_decB n
  rw [h, valOf_decB] at this
  omega
theorem decB_range (n : Nat) : ∀ x ∈ decB n, 48 ≤ x ∧ x ≤ 57 := by
  intro x hx
  unfold decB at hx
  split at hx
  · rw [List.mem_singleton.1 hx]; omega
  · exact digs_range n x hx

theorem split_at_colon : ∀ {a b x y : List Int}, (∀ z ∈ a, z ≠ 58) → (∀ z ∈ b, z ≠ 58) → a ++ ([58] ++ x) = b ++ ([58] ++ y) → a = b ∧ x = y := by
  intro a
  induction a with
  | nil =>
    intro b x y _ hb h
    cases b with
    | nil => simpa using h
    | cons z b =>
      simp at h
      exact absurd h.1.symm (hb z (by simp))
  | cons w a ih =>
    intro b x y ha hb h
    cases b with
    | nil =>
      simp at h
      exact absurd h.1 (ha w (by simp))
    | cons z b =>
      simp only [List.cons_append, List.cons.injEq] at h
      obtain ⟨rfl, h2⟩ := h
      obtain ⟨rfl, rfl⟩ := ih (fun z hz => ha z (by simp [hz])) (fun z hz => hb z (by simp [hz])) h2
      exact ⟨rfl, rfl⟩
theorem bytesI_inj {s t : ByteArray} (h : bytesI s = bytesI t) : s = t := by
  unfold bytesI at h
  refine ByteArray.ext (Array.ext' ?_)
  have inj : Function.Injective (fun b : UInt8 => (b.toNat : Int)) := fun a b hab => UInt8.toNat_inj.1 (Int.ofNat_inj.1 hab)
  exact (List.map_inj_right inj).1 h
theorem dec_step {n m : Nat} {x y : List Int} (h : decB n ++ ([58] ++ x) = decB m ++ ([58] ++ y)) : n = m ∧ x = y := by
  have r : ∀ k, ∀ z ∈ decB k, z ≠ 58 := fun k z hz => by have := decB_range k z hz; omega
  obtain ⟨h1, h2⟩ := split_at_colon (r n) (r m) h
  exact ⟨decB_inj h1, h2⟩
theorem encB_inj : ∀ {rs qs : List RefP}, encB rs = encB qs → rs = qs := by
  have ne : ∀ (r : RefP) (l : List Int), encR r ++ l ≠ [] := by
    intro r l h
    have := congrArg List.length h
    simp [encR] at this
  intro rs
  induction rs with
  | nil =>
    intro qs h
    cases qs with
    | nil => rfl
    | cons q qs => rw [encB_cons, encB_nil] at h; exact absurd h.symm (ne _ _)
  | cons r rs ih =>
    intro qs h
    cases qs with
    | nil => rw [encB_cons, encB_nil] at h; exact absurd h (ne _ _)
    | cons q qs =>
      rw [encB_cons, encB_cons] at h
      simp only [encR, List.append_assoc] at h
      obtain ⟨h1, h2⟩ := dec_step h
      obtain ⟨h3, h4⟩ := List.append_inj h2 (by rw [bytesI_length, bytesI_length, h1])
      obtain ⟨h5, h6⟩ := dec_step h4
      obtain ⟨h7, h8⟩ := List.append_inj h6 (by rw [bytesI_length, bytesI_length, h5])
      rw [ih h8]
      have e1 := bytesI_inj h3
      have e2 := bytesI_inj h7
      obtain ⟨r1, r2⟩ := r
      obtain ⟨q1, q2⟩ := q
      simp only at e1 e2
      rw [e1, e2]
theorem bytesI_range (s : ByteArray) : ∀ x ∈ bytesI s, 0 ≤ x ∧ x < 256 := by
  intro x hx
  obtain ⟨b, -, rfl⟩ := List.mem_map.1 hx
  have := b.toNat_lt
  omega
theorem encB_range (rs : List RefP) : ∀ x ∈ encB rs, 0 ≤ x ∧ x < 256 := by
  intro x hx
  obtain ⟨r, -, hr⟩ := List.mem_flatMap.1 hx
  simp only [encR, List.mem_append, List.mem_singleton] at hr
  rcases hr with h | h | h | h | h | h
  · have := decB_range _ x h; omega
  · omega
  · exact bytesI_range _ x h
  · have := decB_range _ x h; omega
  · omega
  · exact bytesI_range _ x h
theorem bytesI_strOfNums {xs : List Int} (h : ∀ x ∈ xs, 0 ≤ x ∧ x < 256) : bytesI (strOfNums xs) = xs := by
  unfold bytesI
  rw [strOfNums_data, List.map_map]
  conv => rhs; rw [← List.map_id xs]
  refine List.map_congr_left fun x hx => ?_
  have := h x hx
  simp only [Function.comp, UInt8.toNat_ofNat', id]
  omega
/-- Equal texts, equal lists. -/
theorem enc_text_iff (rs qs : List RefP) : strOfNums (encB rs) = strOfNums (encB qs) ↔ rs = qs := by
  constructor
  · intro h
    have := congrArg bytesI h
    rw [bytesI_strOfNums (encB_range rs), bytesI_strOfNums (encB_range qs)] at this
    exact encB_inj this
  · rintro rfl; rfl
theorem decB_len {n : Nat} (h : n ≤ 1048576) : (decB n).length ≤ 7 := by
  unfold decB
  split
  · simp
  · exact digs_len 7 n (by omega)
def sumR : List RefP → Nat
  | [] => 0
  | r :: l => r.1.size + r.2.size + sumR l
theorem sumR_mem {l : List RefP} {r : RefP} (h : r ∈ l) : r.1.size + r.2.size ≤ sumR l := by
  induction l with
  | nil => cases h
  | cons y l ih =>
    simp only [sumR]
    rcases List.mem_cons.1 h with rfl | h
    · omega
    · have := ih h; omega
theorem encB_len {l : List RefP} (h : ∀ r ∈ l, r.1.size ≤ 1048576 ∧ r.2.size ≤ 1048576) : (encB l).length ≤ l.length * 16 + sumR l := by
  induction l with
  | nil => simp [encB]
  | cons r l ih =>
    have h1 := ih (fun q hq => h q (by simp [hq]))
    obtain ⟨a1, a2⟩ := h r (by simp)
    have l1 := decB_len a1
    have l2 := decB_len a2
    rw [encB_cons, List.length_append]
    simp only [encR, List.length_append, bytesI_length, List.length_cons, List.length_nil, sumR]
    omega
end Go.Proofs.Qxb6600877aMods
