import Derived.Test.Qxb6629376aBase
namespace Go.Proofs.Qxb6629376a

/-- The offset of option i: s: just behind the name and a comma. -/
def offT (s : Nat) (f : Nat → ByteArray) : Nat → Nat
  | 0 => s
  | i + 1 => offT s f i + (f i).size + 1
def hit (f : Nat → ByteArray) (opt : ByteArray) (i : Nat) : Bool := (f i).toList == opt.toList
/-- The edits of the first i options: start and end. -/
def edT (s : Nat) (f : Nat → ByteArray) (opt : ByteArray) : Nat → List (Nat × Nat)
  | 0 => []
  | i + 1 => edT s f opt i ++ (if hit f opt i = true then [(offT s f i, offT s f i + (f i).size)] else [])
/-- The edits of options k .. k+j-1. -/
def restT (s : Nat) (f : Nat → ByteArray) (opt : ByteArray) (k : Nat) : Nat → List (Nat × Nat)
  | 0 => []
  | j + 1 => restT s f opt k j ++ (if hit f opt (k + j) = true then [(offT s f (k + j), offT s f (k + j) + (f (k + j)).size)] else [])
def ins (f : Nat → ByteArray) (k : Nat) (x : ByteArray) : Nat → ByteArray := fun j => if j < k then f j else if j = k then x else f (j - 1)
def shiftBy (d : Nat) (p : Nat × Nat) : Nat × Nat := (p.1 + d, p.2 + d)

theorem hit_eq {f : Nat → ByteArray} {opt : ByteArray} {i : Nat} (h : hit f opt i = true) : f i = opt := by
  unfold hit at h
  have e := eq_of_beq h
  rw [ByteArray.toList_eq, ByteArray.toList_eq] at e
  exact Go.WideShapes.bytes_inj e

theorem offT_mono {s : Nat} {f : Nat → ByteArray} : ∀ {i j : Nat}, i ≤ j → offT s f i ≤ offT s f j
  | i, 0, h => by have : i = 0 := by omega
                  subst this; exact Nat.le_refl _
  | i, j + 1, h => by
    by_cases e : i = j + 1
    · subst e; exact Nat.le_refl _
    · have := offT_mono (s := s) (f := f) (show i ≤ j by omega)
      show _ ≤ offT s f j + (f j).size + 1
      omega
theorem offT_lt {s : Nat} {f : Nat → ByteArray} {i j : Nat} (h : i < j) : offT s f i + (f i).size + 1 ≤ offT s f j := offT_mono (s := s) (f := f) (show i + 1 ≤ j from h)
theorem offT_ge {s : Nat} {f : Nat → ByteArray} (i : Nat) : s + i ≤ offT s f i := by
  induction i with
  | zero => exact Nat.le_refl _
  | succ i ih => show s + (i + 1) ≤ offT s f i + (f i).size + 1; omega

theorem edT_len (s : Nat) (f : Nat → ByteArray) (opt : ByteArray) : ∀ i, (edT s f opt i).length ≤ i
  | 0 => Nat.le_refl _
  | i + 1 => by
    have := edT_len s f opt i
    show (edT s f opt i ++ _).length ≤ _
    rw [List.length_append]
    split <;> simp <;> omega

/-- Each edit: where it lies, and how long it is. -/
theorem edT_mem {s : Nat} {f : Nat → ByteArray} {opt : ByteArray} : ∀ {i : Nat} {p : Nat × Nat}, p ∈ edT s f opt i → s ≤ p.1 ∧ p.2 = p.1 + opt.size ∧ p.2 + 1 ≤ offT s f i
  | 0, _, h => by cases h
  | i + 1, p, h => by
    have h' : p ∈ edT s f opt i ++ (if hit f opt i = true then [(offT s f i, offT s f i + (f i).size)] else []) := h
    have hm := offT_lt (s := s) (f := f) (show i < i + 1 by omega)
    rcases List.mem_append.1 h' with h1 | h1
    · have := edT_mem h1
      exact ⟨this.1, this.2.1, by omega⟩
    · split at h1
      · rename_i hh
        simp at h1
        subst h1
        rw [hit_eq hh] at hm ⊢
        have := offT_ge (s := s) (f := f) i
        exact ⟨by simp only; omega, rfl, by simp only; omega⟩
      · cases h1

theorem restT_mem {s : Nat} {f : Nat → ByteArray} {opt : ByteArray} {k : Nat} : ∀ {j : Nat} {p : Nat × Nat}, p ∈ restT s f opt k j → offT s f k ≤ p.1
  | 0, _, h => by cases h
  | j + 1, p, h => by
    have h' : p ∈ restT s f opt k j ++ (if hit f opt (k + j) = true then [(offT s f (k + j), offT s f (k + j) + (f (k + j)).size)] else []) := h
    rcases List.mem_append.1 h' with h1 | h1
    · exact restT_mem h1
    · split at h1
      · simp at h1
        subst h1
        exact offT_mono (by omega)
      · cases h1

theorem edT_split (s : Nat) (f : Nat → ByteArray) (opt : ByteArray) (k : Nat) : ∀ j, edT s f opt (k + j) = edT s f opt k ++ restT s f opt k j
  | 0 => by simp [restT]
  | j + 1 => by
    show edT s f opt (k + j) ++ _ = _
    rw [edT_split s f opt k j, List.append_assoc]
    rfl

theorem offT_ins_le {s : Nat} {f : Nat → ByteArray} {k : Nat} {x : ByteArray} : ∀ {i : Nat}, i ≤ k → offT s (ins f k x) i = offT s f i
  | 0, _ => rfl
  | i + 1, h => by
    have e : ins f k x i = f i := by unfold ins; rw [if_pos (by omega)]
    show offT s (ins f k x) i + (ins f k x i).size + 1 = offT s f i + (f i).size + 1
    rw [offT_ins_le (show i ≤ k by omega), e]
theorem ins_at (f : Nat → ByteArray) (k : Nat) (x : ByteArray) : ins f k x k = x := by simp [ins]
theorem ins_gt (f : Nat → ByteArray) (k j : Nat) (x : ByteArray) : ins f k x (k + 1 + j) = f (k + j) := by
  unfold ins
  rw [if_neg (by omega), if_neg (by omega)]
  congr 1
  omega
theorem offT_ins_ge (s : Nat) (f : Nat → ByteArray) (k : Nat) (x : ByteArray) : ∀ j, offT s (ins f k x) (k + 1 + j) = offT s f (k + j) + (x.size + 1)
  | 0 => by
    show offT s (ins f k x) k + (ins f k x k).size + 1 = _
    rw [offT_ins_le (Nat.le_refl _), ins_at]
    simp only [Nat.add_zero]
    omega
  | j + 1 => by
    show offT s (ins f k x) (k + 1 + j) + (ins f k x (k + 1 + j)).size + 1 = offT s f (k + j) + (f (k + j)).size + 1 + (x.size + 1)
    rw [offT_ins_ge s f k x j, ins_gt]
    omega

theorem edT_ins_le {s : Nat} {f : Nat → ByteArray} {opt : ByteArray} {k : Nat} {x : ByteArray} : ∀ {i : Nat}, i ≤ k → edT s (ins f k x) opt i = edT s f opt i
  | 0, _ => rfl
  | i + 1, h => by
    have e : ins f k x i = f i := by unfold ins; rw [if_pos (by omega)]
    show edT s (ins f k x) opt i ++ (if hit (ins f k x) opt i = true then [(offT s (ins f k x) i, offT s (ins f k x) i + (ins f k x i).size)] else []) = _
    have eh : hit (ins f k x) opt i = hit f opt i := by unfold hit; rw [e]
    rw [edT_ins_le (show i ≤ k by omega), offT_ins_le (show i ≤ k by omega), e, eh]
    rfl

/-- The one edit of the inserted option. -/
def midT (at_ : Nat) (x opt : ByteArray) : List (Nat × Nat) := if (x.toList == opt.toList) = true then [(at_, at_ + x.size)] else []

theorem edT_ins_ge (s : Nat) (f : Nat → ByteArray) (opt : ByteArray) (k : Nat) (x : ByteArray) : ∀ j, edT s (ins f k x) opt (k + 1 + j) = edT s f opt k ++ midT (offT s f k) x opt ++ (restT s f opt k j).map (shiftBy (x.size + 1))
  | 0 => by
    show edT s (ins f k x) opt k ++ (if hit (ins f k x) opt k = true then [(offT s (ins f k x) k, offT s (ins f k x) k + (ins f k x k).size)] else []) = _
    have eh : hit (ins f k x) opt k = (x.toList == opt.toList) := by unfold hit; rw [ins_at]
    rw [edT_ins_le (Nat.le_refl _), offT_ins_le (Nat.le_refl _), ins_at, eh]
    simp [restT, midT]
  | j + 1 => by
    show edT s (ins f k x) opt (k + 1 + j) ++ (if hit (ins f k x) opt (k + 1 + j) = true then [(offT s (ins f k x) (k + 1 + j), offT s (ins f k x) (k + 1 + j) + (ins f k x (k + 1 + j)).size)] else []) = _
    have eh : hit (ins f k x) opt (k + 1 + j) = hit f opt (k + j) := by unfold hit; rw [ins_gt]
    rw [edT_ins_ge s f opt k x j, offT_ins_ge, ins_gt, eh]
    show _ = _ ++ (restT s f opt k j ++ (if hit f opt (k + j) = true then [(offT s f (k + j), offT s f (k + j) + (f (k + j)).size)] else [])).map _
    rw [List.map_append, List.append_assoc]
    congr 2
    split
    · simp [shiftBy]; omega
    · rfl

theorem filter_before (s : Nat) (f : Nat → ByteArray) (opt : ByteArray) (k j : Nat) : (edT s f opt (k + j)).filter (fun p => decide (p.1 < offT s f k)) = edT s f opt k := by
  rw [edT_split, List.filter_append]
  have e1 : (edT s f opt k).filter (fun p => decide (p.1 < offT s f k)) = edT s f opt k := List.filter_eq_self.2 fun p hp => by
    have := edT_mem hp
    simp; omega
  have e2 : (restT s f opt k j).filter (fun p => decide (p.1 < offT s f k)) = [] := List.filter_eq_nil_iff.2 fun p hp => by
    have := restT_mem hp
    simp; omega
  rw [e1, e2, List.append_nil]
theorem filter_after (s : Nat) (f : Nat → ByteArray) (opt : ByteArray) (k j : Nat) : (edT s f opt (k + j)).filter (fun p => decide (offT s f k ≤ p.1)) = restT s f opt k j := by
  rw [edT_split, List.filter_append]
  have e1 : (edT s f opt k).filter (fun p => decide (offT s f k ≤ p.1)) = [] := List.filter_eq_nil_iff.2 fun p hp => by
    have := edT_mem hp
    simp; omega
  have e2 : (restT s f opt k j).filter (fun p => decide (offT s f k ≤ p.1)) = restT s f opt k j := List.filter_eq_self.2 fun p hp => by
    have := restT_mem hp
    simp; omega
  rw [e1, e2, List.nil_append]

/-- THE LAW, WITH NO Go IN SIGHT. -/
theorem insert_law (s : Nat) (f : Nat → ByteArray) (opt : ByteArray) (k n : Nat) (x : ByteArray) (hk : k ≤ n) :
    edT s (ins f k x) opt (n + 1) = (edT s f opt n).filter (fun p => decide (p.1 < offT s f k)) ++ midT (offT s f k) x opt ++ ((edT s f opt n).filter (fun p => decide (offT s f k ≤ p.1))).map (shiftBy (x.size + 1)) := by
  obtain ⟨j, rfl⟩ : ∃ j, n = k + j := ⟨n - k, by omega⟩
  rw [filter_before, filter_after, show k + j + 1 = k + 1 + j by omega, edT_ins_ge]

/-- How many are hit. -/
def cntT (f : Nat → ByteArray) (opt : ByteArray) : Nat → Nat
  | 0 => 0
  | i + 1 => cntT f opt i + (if hit f opt i = true then 1 else 0)
theorem edT_cnt (s : Nat) (f : Nat → ByteArray) (opt : ByteArray) : ∀ i, (edT s f opt i).length = cntT f opt i
  | 0 => rfl
  | i + 1 => by
    show (edT s f opt i ++ _).length = cntT f opt i + _
    rw [List.length_append, edT_cnt s f opt i]
    split <;> simp
theorem cntT_le (f : Nat → ByteArray) (opt : ByteArray) (i : Nat) : cntT f opt i ≤ i := by
  rw [← edT_cnt 0]; exact edT_len 0 f opt i
end Go.Proofs.Qxb6629376a
