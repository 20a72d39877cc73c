import Derived.Test.Qxb6629376aText
namespace Go.Proofs.Qxb6629376a

/-- One edit: the text up to its start, then the new text; the place is then its end. -/
def stepA (T W : List UInt8) (st : Nat × List UInt8) (p : Nat × Nat) : Nat × List UInt8 := (p.2, st.2 ++ (T.take p.1).drop st.1 ++ W)
def apT (T W : List UInt8) (l : List (Nat × Nat)) : Nat × List UInt8 := l.foldl (stepA T W) (0, [])
theorem apT_snoc (T W : List UInt8) (l : List (Nat × Nat)) (p : Nat × Nat) : apT T W (l ++ [p]) = stepA T W (apT T W l) p := by simp [apT]
/-- Every option that is hit, written as wi. -/
def rwT (f : Nat → ByteArray) (opt wi : ByteArray) : Nat → ByteArray := fun j => if hit f opt j = true then wi else f j

theorem textT_pre (nm : ByteArray) (f : Nat → ByteArray) : ∀ (i d : Nat), ∃ rest, textT nm f (i + d) = textT nm f i ++ rest
  | _, 0 => ⟨[], by simp⟩
  | i, d + 1 => by
    obtain ⟨rest, h⟩ := textT_pre nm f i d
    exact ⟨rest ++ [44] ++ (f (i + d)).data.toList, by show textT nm f (i + d) ++ [44] ++ _ = _; rw [h]; simp⟩

theorem textT_len' (nm : ByteArray) (f : Nat → ByteArray) (i : Nat) : offT (nm.size + 1) f i = (textT nm f i).length + 1 := (textT_len nm f i).symm

/-- After the edits of the first i options: what is out, and what of the front is still to come, is the rewritten front. -/
theorem apT_text (nm : ByteArray) (f : Nat → ByteArray) (opt wi : ByteArray) : ∀ (i : Nat) (rest : List UInt8),
    (apT (textT nm f i ++ rest) wi.data.toList (edT (nm.size + 1) f opt i)).1 ≤ (textT nm f i).length ∧
    (apT (textT nm f i ++ rest) wi.data.toList (edT (nm.size + 1) f opt i)).2 ++ (textT nm f i).drop (apT (textT nm f i ++ rest) wi.data.toList (edT (nm.size + 1) f opt i)).1 = textT nm (rwT f opt wi) i
  | 0, rest => by simp [apT, edT, textT]
  | i + 1, rest => by
    have e0 : textT nm f (i + 1) ++ rest = textT nm f i ++ ([44] ++ (f i).data.toList ++ rest) := by
      show textT nm f i ++ [44] ++ (f i).data.toList ++ rest = _
      simp
    have ih := apT_text nm f opt wi i ([44] ++ (f i).data.toList ++ rest)
    rw [← e0] at ih
    obtain ⟨ih1, ih2⟩ := ih
    have e1 : textT nm f (i + 1) = textT nm f i ++ [44] ++ (f i).data.toList := rfl
    have e2 : textT nm (rwT f opt wi) (i + 1) = textT nm (rwT f opt wi) i ++ [44] ++ (rwT f opt wi i).data.toList := rfl
    by_cases hh : hit f opt i = true
    · have ee : edT (nm.size + 1) f opt (i + 1) = edT (nm.size + 1) f opt i ++ [(offT (nm.size + 1) f i, offT (nm.size + 1) f i + (f i).size)] := by
        show edT (nm.size + 1) f opt i ++ (if hit f opt i = true then _ else _) = _
        rw [if_pos hh]
      have er : rwT f opt wi i = wi := by unfold rwT; rw [if_pos hh]
      rw [ee, apT_snoc, e2, er]
      generalize apT (textT nm f (i + 1) ++ rest) wi.data.toList (edT (nm.size + 1) f opt i) = st at ih1 ih2
      have hl : (textT nm f (i + 1)).length = (textT nm f i).length + 1 + (f i).size := by rw [e1]; simp; omega
      simp only [stepA, textT_len']
      refine ⟨by omega, ?_⟩
      have d1 : (textT nm f (i + 1)).drop ((textT nm f i).length + 1 + (f i).size) = [] := List.drop_eq_nil_of_le (by omega)
      have d2 : (textT nm f (i + 1) ++ rest).take ((textT nm f i).length + 1) = textT nm f i ++ [44] := by
        rw [e1]
        have : (textT nm f i).length + 1 = (textT nm f i ++ [44]).length := by simp
        rw [this, List.append_assoc (textT nm f i ++ [44])]
        exact List.take_left
      rw [d1, d2, List.append_nil, List.drop_append_of_le_length ih1, ← ih2]
      simp
    · have ee : edT (nm.size + 1) f opt (i + 1) = edT (nm.size + 1) f opt i := by
        show edT (nm.size + 1) f opt i ++ (if hit f opt i = true then _ else _) = _
        rw [if_neg hh, List.append_nil]
      have er : rwT f opt wi i = f i := by unfold rwT; rw [if_neg hh]
      rw [ee, e2, er]
      generalize apT (textT nm f (i + 1) ++ rest) wi.data.toList (edT (nm.size + 1) f opt i) = st at ih1 ih2
      refine ⟨by rw [e1]; simp; omega, ?_⟩
      rw [e1, List.append_assoc, List.drop_append_of_le_length ih1, ← ih2]
      simp

/-- THE LAW, WITH NO Go IN SIGHT: the edits turn the text into its rewrite. -/
theorem edits_law (nm : ByteArray) (f : Nat → ByteArray) (opt wi : ByteArray) (n : Nat) :
    (apT (textT nm f n) wi.data.toList (edT (nm.size + 1) f opt n)).2 ++ (textT nm f n).drop (apT (textT nm f n) wi.data.toList (edT (nm.size + 1) f opt n)).1 = textT nm (rwT f opt wi) n := by
  have := (apT_text nm f opt wi n []).2
  simpa using this

/-- The edits rise: where one stands, the next begins no earlier. -/
theorem apT_pos (nm : ByteArray) (f : Nat → ByteArray) (opt wi : ByteArray) : ∀ (i : Nat) (T : List UInt8), (∃ rest, T = textT nm f i ++ rest) → ∀ (q : Nat) (p : Nat × Nat), (edT (nm.size + 1) f opt i)[q]? = some p → (apT T wi.data.toList ((edT (nm.size + 1) f opt i).take q)).1 ≤ p.1
  | 0, _, _, q, p, h => by simp [edT] at h
  | i + 1, T, hT, q, p, h => by
    obtain ⟨rest, rfl⟩ := hT
    have e0 : textT nm f (i + 1) ++ rest = textT nm f i ++ ([44] ++ (f i).data.toList ++ rest) := by
      show textT nm f i ++ [44] ++ (f i).data.toList ++ rest = _
      simp
    have ee : edT (nm.size + 1) f opt (i + 1) = edT (nm.size + 1) f opt i ++ (if hit f opt i = true then [(offT (nm.size + 1) f i, offT (nm.size + 1) f i + (f i).size)] else []) := rfl
    by_cases hq : q < (edT (nm.size + 1) f opt i).length
    · rw [ee, List.getElem?_append_left hq] at h
      rw [ee, List.take_append_of_le_length (by omega)]
      exact apT_pos nm f opt wi i _ ⟨_, e0⟩ q p h
    · have hq2 : q = (edT (nm.size + 1) f opt i).length := by
        have := (List.getElem?_eq_some_iff.1 h).1
        rw [ee, List.length_append] at this
        split at this <;> simp at this <;> omega
      subst hq2
      rw [ee, List.take_left]
      rw [ee, List.getElem?_append_right (Nat.le_refl _)] at h
      split at h
      · simp at h
        subst h
        have := (apT_text nm f opt wi i ([44] ++ (f i).data.toList ++ rest)).1
        rw [← e0] at this
        simp only [textT_len']
        omega
      · simp at h

/-- Each edit cuts out just the option. -/
theorem edT_cut (nm : ByteArray) (f : Nat → ByteArray) (opt : ByteArray) : ∀ (i : Nat) (rest : List UInt8) (p : Nat × Nat), p ∈ edT (nm.size + 1) f opt i → ((textT nm f i ++ rest).take p.2).drop p.1 = opt.data.toList
  | 0, _, _, h => by cases h
  | i + 1, rest, p, h => by
    have e0 : textT nm f (i + 1) ++ rest = textT nm f i ++ ([44] ++ (f i).data.toList ++ rest) := by
      show textT nm f i ++ [44] ++ (f i).data.toList ++ rest = _
      simp
    have h' : p ∈ edT (nm.size + 1) f opt i ++ (if hit f opt i = true then [(offT (nm.size + 1) f i, offT (nm.size + 1) f i + (f i).size)] else []) := h
    rcases List.mem_append.1 h' with h1 | h1
    · rw [e0]; exact edT_cut nm f opt i _ p h1
    · split at h1
      · rename_i hh
        simp at h1
        subst h1
        have e1 : textT nm f (i + 1) = textT nm f i ++ [44] ++ (f i).data.toList := rfl
        have hl : (textT nm f i).length + 1 + (f i).size = (textT nm f (i + 1)).length := by rw [e1]; simp; omega
        simp only [textT_len']
        rw [hl, List.take_left, e1]
        have hl2 : (textT nm f i).length + 1 = (textT nm f i ++ [44]).length := by simp
        rw [hl2, List.drop_left, hit_eq hh]
      · cases h1

/-- How much is out after q edits. -/
theorem apT_out (nm : ByteArray) (f : Nat → ByteArray) (opt wi : ByteArray) (n : Nat) : ∀ q, q ≤ (edT (nm.size + 1) f opt n).length →
    (apT (textT nm f n) wi.data.toList ((edT (nm.size + 1) f opt n).take q)).2.length ≤ (apT (textT nm f n) wi.data.toList ((edT (nm.size + 1) f opt n).take q)).1 + q * wi.size ∧ (apT (textT nm f n) wi.data.toList ((edT (nm.size + 1) f opt n).take q)).1 ≤ (textT nm f n).length
  | 0, _ => by simp [apT]
  | q + 1, h => by
    have ih := apT_out nm f opt wi n q (by omega)
    have hlt : q < (edT (nm.size + 1) f opt n).length := by omega
    have hp := apT_pos nm f opt wi n (textT nm f n) ⟨[], by simp⟩ q _ (List.getElem?_eq_getElem hlt)
    have hm := edT_mem (List.getElem_mem hlt)
    rw [List.take_succ_eq_append_getElem hlt, apT_snoc]
    generalize apT (textT nm f n) wi.data.toList ((edT (nm.size + 1) f opt n).take q) = st at ih hp
    generalize (edT (nm.size + 1) f opt n)[q] = p at hp hm
    rw [textT_len'] at hm
    simp only [stepA, List.length_append, List.length_drop, List.length_take]
    have e : (q + 1) * wi.size = q * wi.size + wi.size := by rw [Nat.add_mul, Nat.one_mul]
    rw [e]
    have hw : wi.data.toList.length = wi.size := by simp
    rw [hw]
    omega

theorem offT_rw (s : Nat) (f : Nat → ByteArray) (opt wi : ByteArray) : ∀ i, offT s (rwT f opt wi) i ≤ offT s f i + i * wi.size
  | 0 => by simp [offT]
  | i + 1 => by
    have := offT_rw s f opt wi i
    show offT s (rwT f opt wi) i + (rwT f opt wi i).size + 1 ≤ offT s f i + (f i).size + 1 + (i + 1) * wi.size
    have e : (i + 1) * wi.size = i * wi.size + wi.size := by rw [Nat.add_mul, Nat.one_mul]
    have h2 : (rwT f opt wi i).size ≤ (f i).size + wi.size := by unfold rwT; split <;> omega
    omega
end Go.Proofs.Qxb6629376a
