import Derived.Test.Qxb6630669aStep
import Derived.Deep.DeepCutAuto
import Derived.Deep.CutBlock
namespace Go.Proofs.Qxb6630669a
open Go.RowKit

def isAt (s : ByteArray) (i : Nat) (c : Int) : Bool := if h : i < s.size then (s[i].toNat : Int) == c else false
def isNZ (s : ByteArray) (i : Nat) : Bool := if h : i < s.size then decide (49 ≤ (s[i].toNat : Int) ∧ (s[i].toNat : Int) ≤ 57) else false
def isE (s : ByteArray) (i : Nat) : Bool := if h : i < s.size then expL (s[i].toNat : Int) else false
def isSg (s : ByteArray) (i : Nat) : Bool := if h : i < s.size then sgn (s[i].toNat : Int) else false

theorem at_true {s : ByteArray} {i : Nat} {c : Int} (h : isAt s i c = true) : ∃ hl : i < s.size, (s[i].toNat : Int) = c := by
  unfold isAt at h
  split at h
  · rename_i hl; exact ⟨hl, by simpa using h⟩
  · cases h
theorem at_false {s : ByteArray} {i : Nat} {c : Int} (h : isAt s i c = false) (hl : i < s.size) : (s[i].toNat : Int) ≠ c := by
  unfold isAt at h
  rw [dif_pos hl] at h
  simpa using h
theorem nz_true {s : ByteArray} {i : Nat} (h : isNZ s i = true) : ∃ hl : i < s.size, 49 ≤ (s[i].toNat : Int) ∧ (s[i].toNat : Int) ≤ 57 := by
  unfold isNZ at h
  split at h
  · rename_i hl; exact ⟨hl, of_decide_eq_true h⟩
  · cases h
theorem nz_false {s : ByteArray} {i : Nat} (h : isNZ s i = false) (hl : i < s.size) : ¬ (49 ≤ (s[i].toNat : Int) ∧ (s[i].toNat : Int) ≤ 57) := by
  unfold isNZ at h
  rw [dif_pos hl] at h
  exact of_decide_eq_false h
theorem e_true {s : ByteArray} {i : Nat} (h : isE s i = true) : ∃ hl : i < s.size, expL (s[i].toNat : Int) = true := by
  unfold isE at h
  split at h
  · rename_i hl; exact ⟨hl, h⟩
  · cases h
theorem e_false {s : ByteArray} {i : Nat} (h : isE s i = false) (hl : i < s.size) : expL (s[i].toNat : Int) = false := by
  unfold isE at h
  rwa [dif_pos hl] at h
theorem sg_true {s : ByteArray} {i : Nat} (h : isSg s i = true) : ∃ hl : i < s.size, sgn (s[i].toNat : Int) = true := by
  unfold isSg at h
  split at h
  · rename_i hl; exact ⟨hl, h⟩
  · cases h
theorem sg_false {s : ByteArray} {i : Nat} (h : isSg s i = false) (hl : i < s.size) : sgn (s[i].toNat : Int) = false := by
  unfold isSg at h
  rwa [dif_pos hl] at h

/-- Digits keep the states 3, 5, 8; they lead from 4 to 5, from 6 and 7 to 8. -/
theorem run_digs {s : ByteArray} {i : Nat} {a : Nat} (ha : ∀ c, dig c = true → stepN a c = a) (h : stT s i = a) : ∀ d, i + d ≤ s.size → DigsTo s i (i + d) → stT s (i + d) = a
  | 0, _, _ => h
  | d + 1, hd, hD => by
    have ih := run_digs ha h d (by omega) (fun q hq h1 h2 => hD q hq h1 (by omega))
    rw [← Nat.add_assoc, stT_succ s (i + d) (by omega), ih]
    exact ha _ (hD (i + d) (by omega) (by omega) (by omega))
theorem keep3 : ∀ c, dig c = true → stepN 3 c = 3 := fun c h => by simp [stepN, h]
theorem keep5 : ∀ c, dig c = true → stepN 5 c = 5 := fun c h => by simp [stepN, h]
theorem keep8 : ∀ c, dig c = true → stepN 8 c = 8 := fun c h => by simp [stepN, h]
/-- From state a at i, digits up to j > i, the first leading to b, which digits keep. -/
theorem run_digs_from {s : ByteArray} {i j a b : Nat} (h : stT s i = a) (hi : i < s.size) (hab : stepN a (s[i].toNat : Int) = b) (hb : ∀ c, dig c = true → stepN b c = b) (hij : i < j) (hj : j ≤ s.size) (hD : DigsTo s i j) : stT s j = b := by
  obtain ⟨d, rfl⟩ : ∃ d, j = i + 1 + d := ⟨j - i - 1, by omega⟩
  refine run_digs hb (by rw [stT_succ s i hi, h, hab]) d hj (fun q hq h1 h2 => hD q hq (by omega) h2)

/-- Behind the sign: the automaton has read it; at 0 no minus comes. -/
def Q1 (s : ByteArray) (i : Nat) : Prop := i ≤ s.size ∧ (stT s i = 1 ∨ (stT s i = 0 ∧ isAt s i 45 = false))
theorem q1_yes {s : ByteArray} (h : isAt s 0 45 = true) : Q1 s 1 := by
  obtain ⟨hl, e⟩ := at_true h
  refine ⟨hl, .inl ?_⟩
  rw [stT_succ s 0 hl, e]
  rfl
theorem q1_no {s : ByteArray} (h : isAt s 0 45 = false) : Q1 s 0 := ⟨Nat.zero_le _, .inr ⟨rfl, h⟩⟩

def Q2 (s : ByteArray) (i : Nat) : Prop := i ≤ s.size ∧ (stT s i = 2 ∨ (stT s i = 3 ∧ StopAt s i))
theorem q2_zero {s : ByteArray} {i : Nat} (q : Q1 s i) (h : isAt s i 48 = true) : Q2 s (i + 1) := by
  obtain ⟨hl, e⟩ := at_true h
  refine ⟨hl, .inl ?_⟩
  rw [stT_succ s i hl, e]
  rcases q.2 with h1 | ⟨h1, _⟩ <;> rw [h1] <;> rfl
theorem q2_digs {s : ByteArray} {i j : Nat} (q : Q1 s i) (h : isNZ s i = true) (hij : i ≤ j) (hj : j ≤ s.size) (hD : DigsTo s i j) (hS : StopAt s j) : Q2 s j := by
  obtain ⟨hl, e1, e2⟩ := nz_true h
  have hd : dig (s[i].toNat : Int) = true := decide_eq_true ⟨by omega, by omega⟩
  have hne : i ≠ j := fun e => by
    subst e
    rw [hS hl] at hd
    cases hd
  refine ⟨hj, .inr ⟨?_, hS⟩⟩
  rcases q.2 with h1 | ⟨h1, _⟩
  · refine run_digs_from h1 hl ?_ keep3 (by omega) hj hD
    have h48 : ¬ (s[i].toNat : Int) = 48 := by omega
    simp [stepN, hd, h48]
  · refine run_digs_from h1 hl ?_ keep3 (by omega) hj hD
    have h48 : ¬ (s[i].toNat : Int) = 48 := by omega
    have h45 : ¬ (s[i].toNat : Int) = 45 := by omega
    simp [stepN, hd, h48, h45]
theorem q2_no {s : ByteArray} {i : Nat} (q : Q1 s i) (h : isAt s i 48 = false) (h' : isNZ s i = false) : accN (runFrom 0 (bl s)) = false := by
  by_cases hl : i < s.size
  · refine no_of_dead hl ?_
    have n1 := at_false h hl
    have n2 := nz_false h' hl
    have nd : dig (s[i].toNat : Int) = false := decide_eq_false (by omega)
    rcases q.2 with h1 | ⟨h1, h2⟩
    · rw [h1]; simp [stepN, n1, nd]
    · have n3 := at_false h2 hl
      rw [h1]; simp [stepN, n1, nd, n3]
  · rw [end_here (i := i) (by have := q.1; omega)]
    rcases q.2 with h1 | ⟨h1, _⟩ <;> rw [h1] <;> rfl

def Q3 (s : ByteArray) (i : Nat) : Prop := i ≤ s.size ∧ ((stT s i = 2 ∧ isAt s i 46 = false) ∨ (stT s i = 3 ∧ StopAt s i ∧ isAt s i 46 = false) ∨ (stT s i = 5 ∧ StopAt s i))
theorem q3_no {s : ByteArray} {i : Nat} (q : Q2 s i) (h : isAt s i 46 = false) : Q3 s i := by
  refine ⟨q.1, ?_⟩
  rcases q.2 with h1 | ⟨h1, h2⟩
  · exact .inl ⟨h1, h⟩
  · exact .inr (.inl ⟨h1, h2, h⟩)
theorem q3_four {s : ByteArray} {i : Nat} (q : Q2 s i) (h : isAt s i 46 = true) : i + 1 ≤ s.size ∧ stT s (i + 1) = 4 := by
  obtain ⟨hl, e⟩ := at_true h
  refine ⟨hl, ?_⟩
  rw [stT_succ s i hl, e]
  rcases q.2 with h1 | ⟨h1, _⟩ <;> rw [h1] <;> rfl
theorem q3_digs {s : ByteArray} {k j : Nat} (h : stT s k = 4) (hkj : k ≤ j) (hne : j ≠ k) (hj : j ≤ s.size) (hD : DigsTo s k j) (hS : StopAt s j) : Q3 s j := by
  have hl : k < s.size := by omega
  have hd := hD k hl (Nat.le_refl _) (by omega)
  exact ⟨hj, .inr (.inr ⟨run_digs_from h hl (by simp [stepN, hd]) keep5 (by omega) hj hD, hS⟩)⟩
theorem q3_none {s : ByteArray} {k : Nat} (h : stT s k = 4) (hk : k ≤ s.size) (hS : StopAt s k) : accN (runFrom 0 (bl s)) = false := by
  by_cases hl : k < s.size
  · refine no_of_dead hl ?_
    rw [h]; simp [stepN, hS hl]
  · rw [end_here (i := k) (by omega), h]; rfl

/-- The end: accepted here, and nothing can follow. -/
def Q4 (s : ByteArray) (i : Nat) : Prop := i ≤ s.size ∧ accN (stT s i) = true ∧ ∀ h : i < s.size, stepN (stT s i) (s[i].toNat : Int) = 9
theorem q4_noE {s : ByteArray} {i : Nat} (q : Q3 s i) (h : isE s i = false) : Q4 s i := by
  refine ⟨q.1, ?_, fun hl => ?_⟩
  · rcases q.2 with ⟨h1, _⟩ | ⟨h1, _⟩ | ⟨h1, _⟩ <;> rw [h1] <;> rfl
  · have ne := e_false h hl
    rcases q.2 with ⟨h1, h2⟩ | ⟨h1, h2, h3⟩ | ⟨h1, h2⟩
    · have n1 := at_false h2 hl
      rw [h1]; simp [stepN, n1, ne]
    · have n1 := at_false h3 hl
      rw [h1]; simp [stepN, n1, ne, h2 hl]
    · rw [h1]; simp [stepN, ne, h2 hl]
theorem q4_six {s : ByteArray} {i : Nat} (q : Q3 s i) (h : isE s i = true) : i + 1 ≤ s.size ∧ stT s (i + 1) = 6 := by
  obtain ⟨hl, e⟩ := e_true h
  refine ⟨hl, ?_⟩
  rw [stT_succ s i hl]
  have e' : (s[i].toNat : Int) = 101 ∨ (s[i].toNat : Int) = 69 := of_decide_eq_true e
  rcases e' with e' | e' <;> rw [e'] <;> rcases q.2 with ⟨h1, _⟩ | ⟨h1, _⟩ | ⟨h1, _⟩ <;> rw [h1] <;> rfl
def Q5 (s : ByteArray) (k : Nat) : Prop := k ≤ s.size ∧ (stT s k = 7 ∨ (stT s k = 6 ∧ isSg s k = false))
theorem q5_yes {s : ByteArray} {k : Nat} (h : stT s k = 6) (h' : isSg s k = true) : Q5 s (k + 1) := by
  obtain ⟨hl, e⟩ := sg_true h'
  refine ⟨hl, .inl ?_⟩
  rw [stT_succ s k hl, h]
  simp [stepN, e]
theorem q5_no {s : ByteArray} {k : Nat} (hk : k ≤ s.size) (h : stT s k = 6) (h' : isSg s k = false) : Q5 s k := ⟨hk, .inr ⟨h, h'⟩⟩
theorem q4_digs {s : ByteArray} {k j : Nat} (q : Q5 s k) (hkj : k ≤ j) (hne : j ≠ k) (hj : j ≤ s.size) (hD : DigsTo s k j) (hS : StopAt s j) : Q4 s j := by
  have hl : k < s.size := by omega
  have hd := hD k hl (Nat.le_refl _) (by omega)
  have h8 : stT s j = 8 := by
    rcases q.2 with h1 | ⟨h1, h2⟩
    · exact run_digs_from h1 hl (by simp [stepN, hd]) keep8 (by omega) hj hD
    · have := sg_false h2 hl
      exact run_digs_from h1 hl (by simp [stepN, hd, this]) keep8 (by omega) hj hD
  refine ⟨hj, by rw [h8]; rfl, fun h => ?_⟩
  rw [h8]; simp [stepN, hS h]
theorem q4_none {s : ByteArray} {k : Nat} (q : Q5 s k) (hS : StopAt s k) : accN (runFrom 0 (bl s)) = false := by
  by_cases hl : k < s.size
  · refine no_of_dead hl ?_
    rcases q.2 with h1 | ⟨h1, h2⟩
    · rw [h1]; simp [stepN, hS hl]
    · have := sg_false h2 hl
      rw [h1]; simp [stepN, hS hl, this]
  · rw [end_here (i := k) (by have := q.1; omega)]
    rcases q.2 with h1 | ⟨h1, _⟩ <;> rw [h1] <;> rfl
theorem q4_end {s : ByteArray} {i : Nat} (q : Q4 s i) : ((i : Int) == (s.size : Int)) = accN (runFrom 0 (bl s)) := by
  by_cases hl : i < s.size
  · rw [no_of_dead hl (q.2.2 hl)]
    rw [beq_eq_false_iff_ne]; omega
  · have e : i = s.size := by have := q.1; omega
    rw [end_here e, q.2.1, e]; simp
end Go.Proofs.Qxb6630669a
