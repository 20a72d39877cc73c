import Derived.Test.Qxb6630669aPlain
namespace Go.Proofs.Qxb6630669a

def hasE (l : List Int) : Bool := l.any expL
def digsN (l : List Int) : Bool := !l.isEmpty && l.all dig
def tailN : List Int → Bool
  | [] => false
  | c :: l => if sgn c then digsN l else (dig c && l.all dig)

theorem run_cons (st : Nat) (c : Int) (l : List Int) : runFrom st (c :: l) = runFrom (stepN st c) l := rfl

/-! The sign. -/
theorem step_one {c : Int} (h : c ≠ 45) : stepN 1 c = stepN 0 c := by simp [stepN, h]
theorem neg_nil : accN (runFrom 0 (45 :: [])) = false := rfl
theorem neg_minus (l : List Int) : accN (runFrom 0 (45 :: 45 :: l)) = false := by
  rw [run_cons, run_cons, show stepN (stepN 0 45) 45 = 9 from rfl, dead]; rfl
theorem neg_other {c : Int} (h : c ≠ 45) (l : List Int) : accN (runFrom 0 (45 :: c :: l)) = accN (runFrom 0 (c :: l)) := by
  rw [run_cons, run_cons, run_cons, show stepN 0 45 = 1 from rfl, step_one h]

/-! Behind the exponent's letter. -/
theorem not_dig_of_sgn {c : Int} (h : sgn c = true) : dig c = false := by
  have h' : c = 43 ∨ c = 45 := of_decide_eq_true h
  exact decide_eq_false (by omega)
theorem run8 (l : List Int) : accN (runFrom 8 l) = l.all dig := by
  induction l with
  | nil => rfl
  | cons c l ih =>
    rw [run_cons]
    cases hd : dig c
    · rw [show stepN 8 c = 9 from by simp [stepN, hd], dead]; simp [hd]; rfl
    · rw [show stepN 8 c = 8 from by simp [stepN, hd], ih]; simp [hd]
theorem run7 (l : List Int) : accN (runFrom 7 l) = digsN l := by
  cases l with
  | nil => rfl
  | cons c l =>
    rw [run_cons]
    cases hd : dig c
    · rw [show stepN 7 c = 9 from by simp [stepN, hd], dead]; simp [digsN, hd]; rfl
    · rw [show stepN 7 c = 8 from by simp [stepN, hd], run8]; simp [digsN, hd]
theorem run6 (l : List Int) : accN (runFrom 6 l) = tailN l := by
  cases l with
  | nil => rfl
  | cons c l =>
    rw [run_cons]
    cases hs : sgn c
    · cases hd : dig c
      · rw [show stepN 6 c = 9 from by simp [stepN, hd, hs], dead]; simp [tailN, hd, hs]; rfl
      · rw [show stepN 6 c = 8 from by simp [stepN, hd, hs], run8]; simp [tailN, hd, hs]
    · rw [show stepN 6 c = 7 from by simp [stepN, hs], run7]; simp [tailN, hs]

/-! Ahead of the exponent's letter. -/
theorem step_ge6 {st : Nat} (h : 6 ≤ st) (c : Int) : 6 ≤ stepN st c := by
  match st, h with
  | 6, _ => simp only [stepN]; repeat' split
            all_goals omega
  | 7, _ => simp only [stepN]; repeat' split
            all_goals omega
  | 8, _ => simp only [stepN]; repeat' split
            all_goals omega
  | n + 9, _ => simp [stepN]
theorem run_ge6 (l : List Int) : ∀ {st : Nat}, 6 ≤ st → 6 ≤ runFrom st l := by
  induction l with
  | nil => intro st h; exact h
  | cons c l ih => intro st h; exact ih (step_ge6 h c)
theorem exp_facts {c : Int} (h : expL c = true) : dig c = false ∧ sgn c = false ∧ c ≠ 45 ∧ c ≠ 48 ∧ c ≠ 46 := by
  have h' : c = 101 ∨ c = 69 := of_decide_eq_true h
  exact ⟨decide_eq_false (by omega), decide_eq_false (by omega), by omega, by omega, by omega⟩
theorem step_exp {c : Int} (h : expL c = true) (st : Nat) (hle : st ≤ 9) : stepN st c = if st = 2 ∨ st = 3 ∨ st = 5 then 6 else 9 := by
  obtain ⟨h1, h2, h3, h4, h5⟩ := exp_facts h
  have : st = 0 ∨ st = 1 ∨ st = 2 ∨ st = 3 ∨ st = 4 ∨ st = 5 ∨ st = 6 ∨ st = 7 ∨ st = 8 ∨ st = 9 := by omega
  rcases this with rfl | rfl | rfl | rfl | rfl | rfl | rfl | rfl | rfl | rfl <;> simp [stepN, h, h1, h2, h3, h4, h5]
theorem step_plain {c : Int} (h : expL c = false) {st : Nat} (hle : st ≤ 5) : stepN st c ≤ 5 ∨ stepN st c = 9 := by
  have : st = 0 ∨ st = 1 ∨ st = 2 ∨ st = 3 ∨ st = 4 ∨ st = 5 := by omega
  rcases this with rfl | rfl | rfl | rfl | rfl | rfl <;> simp only [stepN, h] <;> repeat' split
  all_goals first | omega | simp_all
theorem no_exp (l : List Int) : ∀ {st : Nat}, st ≤ 9 → runFrom st l ≤ 5 → hasE l = false := by
  induction l with
  | nil => intro st _ _; rfl
  | cons c l ih =>
    intro st hle h
    rw [run_cons] at h
    cases he : expL c
    · by_cases h9 : stepN st c ≤ 5
      · have := ih (by omega) h
        simpa [hasE, he] using this
      · have := run_ge6 l (st := stepN st c) (by omega)
        omega
    · have := step_exp he st hle
      have h6 : 6 ≤ stepN st c := by rw [this]; split <;> omega
      have := run_ge6 l h6
      omega
theorem plain_run (l : List Int) : ∀ {st : Nat}, st ≤ 5 → hasE l = false → runFrom st l ≤ 5 ∨ runFrom st l = 9 := by
  induction l with
  | nil => intro st h _; exact .inl h
  | cons c l ih =>
    intro st hle h
    have h' : expL c = false ∧ hasE l = false := by simpa [hasE] using h
    rw [run_cons]
    rcases step_plain h'.1 hle with h1 | h1
    · exact ih h1 h'.2
    · rw [h1, dead]; exact .inr rfl
theorem exp_law {e : Int} (he : expL e = true) (s t : List Int) (hle : runFrom 0 s ≤ 9) : accN (runFrom 0 (s ++ e :: t)) = (accN (runFrom 0 s) && !hasE s && tailN t) := by
  rw [runFrom_append, run_cons, step_exp he _ hle]
  by_cases h : runFrom 0 s = 2 ∨ runFrom 0 s = 3 ∨ runFrom 0 s = 5
  · rw [if_pos h, run6, no_exp s (by omega) (show runFrom 0 s ≤ 5 by omega)]
    have : accN (runFrom 0 s) = true := by rcases h with h | h | h <;> rw [h] <;> rfl
    rw [this]; rfl
  · rw [if_neg h, dead]
    cases hh : hasE s
    · have := plain_run s (show 0 ≤ 5 by omega) hh
      have h0 : accN (runFrom 0 s) = false := by
        have : runFrom 0 s = 0 ∨ runFrom 0 s = 1 ∨ runFrom 0 s = 4 ∨ runFrom 0 s = 9 := by omega
        rcases this with h | h | h | h <;> rw [h] <;> rfl
      rw [h0]; rfl
    · simp; rfl

/-! Digits alone. -/
theorem run3 (l : List Int) (h : l.all dig = true) : runFrom 3 l = 3 := by
  induction l with
  | nil => rfl
  | cons c l ih =>
    have h' : dig c = true ∧ l.all dig = true := by simpa using h
    rw [run_cons, show stepN 3 c = 3 from by simp [stepN, h'.1], ih h'.2]
theorem digs_zero1 : accN (runFrom 0 (48 :: [])) = true := rfl
theorem digs_zero {l : List Int} (hne : l ≠ []) (h : l.all dig = true) : accN (runFrom 0 (48 :: l)) = false := by
  cases l with
  | nil => exact absurd rfl hne
  | cons c l =>
    have h' : dig c = true ∧ l.all dig = true := by simpa using h
    have hc : 48 ≤ c ∧ c ≤ 57 := of_decide_eq_true h'.1
    have he : expL c = false := decide_eq_false (by omega)
    have h46 : c ≠ 46 := by omega
    rw [run_cons, run_cons, show stepN 0 48 = 2 from rfl, show stepN 2 c = 9 from by simp [stepN, he, h46], dead]; rfl
theorem digs_other {c : Int} {l : List Int} (hc : c ≠ 48) (h : (c :: l).all dig = true) : accN (runFrom 0 (c :: l)) = true := by
  have h' : dig c = true ∧ l.all dig = true := by simpa using h
  have hr : 48 ≤ c ∧ c ≤ 57 := of_decide_eq_true h'.1
  have h45 : c ≠ 45 := by omega
  rw [run_cons, show stepN 0 c = 3 from by simp [stepN, h'.1, hc, h45], run3 l h'.2]; rfl
end Go.Proofs.Qxb6630669a
