import Derived.Test.Qxb6629376aText
import Derived.Test.Qxb6629376aGuards
import Derived.Deep.DeepCutAuto
namespace Go.Proofs.Qxb6629376a
open Go.RowKit

def strC (f : Nat → ByteArray) (n : Nat) : List Value := (List.range n).map fun j => .string (f j)
theorem strC_length (f : Nat → ByteArray) (n : Nat) : (strC f n).length = n := by simp [strC]
theorem strC_get (f : Nat → ByteArray) {n j : Nat} (h : j < n) : (strC f n)[j]? = some (.string (f j)) := by simp [strC, h]

theorem src_strs {w : World} {a : Option Addr} {m : Nat} {f : Nat → ByteArray} (h : StrsAt w a m f) (c : Nat) : Src Try.prog 1 22 (.slice a m c) m (strC f m) w := by
  cases a with
  | none =>
    have h0 : m = 0 := by
      rcases Nat.eq_zero_or_pos m with e | e
      · exact e
      · obtain ⟨_, _, h', _⟩ := h 0 e
        cases h'
    subst h0
    exact Src.ofNil w Try.underlying22 c
  | some ad =>
    refine Src.ofSlice w Try.underlying22 ad m c _ (by rw [strC_length, Nat.mul_one]) (fun j u hj => ?_) (fun u hu => ?_)
    · have hjm : j < m := by
        have := (List.getElem?_eq_some_iff.1 hj).1
        rwa [strC_length] at this
      obtain ⟨b, off, e, hc, _⟩ := h j hjm
      cases e
      rw [strC_get f hjm] at hj
      cases hj
      rw [Addr.add_lit]
      exact hc
    · simp [strC] at hu
      obtain ⟨_, _, rfl⟩ := hu
      rfl

theorem src_str1 (w : World) (g : Nat) (hg : g = w.heap.size) (x : ByteArray) (t : TypeId) : Src Try.prog 1 22 (.slice (some ⟨g, 0, none⟩) 1 1) 1 [.string x] (w.alloc (.cells #[.string x] t)) := by
  subst hg
  exact Src.ofSlice _ Try.underlying22 _ 1 1 _ rfl (cell_one_new w _ t) (by intro u hu; simp at hu; subst hu; rfl)

/-- 'xs[k:]': where it begins. -/
def dropA (a : Option Addr) (c k : Nat) : Option Addr := if c = k then a else a.map (·.add k)
theorem slice_from (a : Option Addr) (n c k : Nat) (h : k ≤ n) (w : World) : (Instr.slice 22 (.slice a n c) (some (.int .i64 (k : Int))) none none).run Try.prog w = .ok (.slice (dropA a c k) (n - k) (c - k)) w := by
  obtain ⟨j, hj, _, hs, _⟩ := info_parts Try.info9
  simp [Instr.slice, run_underlying Try.underlying22, Instr.sliceBounds, Instr.sliceBound, asIntOf, sizeOf, typeInfo, hj, hs, h, dropA]
theorem StrsAt.drop {w : World} {a : Option Addr} {n c k : Nat} {f : Nat → ByteArray} (h : StrsAt w a n f) (hc : n ≤ c) : StrsAt w (dropA a c k) (n - k) (fun j => f (k + j)) := fun j hj => by
  obtain ⟨b, off, e, hcell, hs⟩ := h (k + j) (by omega)
  subst e
  refine ⟨b, off + k, ?_, ?_, hs⟩
  · unfold dropA
    rw [if_neg (by omega)]
    simp [Addr.add_lit]
  · rw [Nat.add_assoc]; exact hcell

theorem make22 (n : Nat) (h : n ≤ 4000000) (w : World) :
    (Instr.makeSlice 22 (.int .i64 0) (.int .i64 ((n : Int) + 1))).run Try.prog w = .ok (.slice (some ⟨w.heap.size, 0, none⟩) 0 (n + 1)) (w.alloc (.cells (madeCells #[.string ByteArray.empty] (n + 1)) 9)) := by
  obtain ⟨i, hi, hz0, hz1, hz2⟩ := info_parts Try.info9
  have hr := run_make (P := Try.prog) w 22 9 i _ Try.underlying22 hi hz0 .i64 .i64 0 ((n : Int) + 1) (by omega) (by omega) (by rw [hz2]; omega) (by omega)
  rw [hr, hz1]
  have e : ((n : Int) + 1).toNat = n + 1 := by omega
  simp [Value.cells, e]
theorem make26 (n : Nat) (h : n ≤ 4000000) (w : World) :
    (Instr.makeSlice 26 (.int .i64 0) (.int .i64 ((n : Int) + 1))).run Try.prog w = .ok (.slice (some ⟨w.heap.size, 0, none⟩) 0 (n + 1)) (w.alloc (.cells (madeCells #[.int .i64 0, .int .i64 0, .string ByteArray.empty] ((n + 1) * 3)) 33)) := by
  obtain ⟨i, hi, hz0, hz1, hz2⟩ := info_parts Try.info33
  have hr := run_make (P := Try.prog) w 26 33 i _ Try.underlying26 hi hz0 .i64 .i64 0 ((n : Int) + 1) (by omega) (by omega) (by rw [hz2]; omega) (by omega)
  rw [hr, hz1]
  have e : ((n : Int) + 1).toNat = n + 1 := by omega
  simp [Value.cells, e]

theorem ins_cells (f : Nat → ByteArray) (k n : Nat) (x : ByteArray) (hk : k ≤ n) : strC f k ++ [.string x] ++ strC (fun j => f (k + j)) (n - k) = strC (ins f k x) (n + 1) := by
  apply List.ext_getElem?
  intro j
  by_cases h : j < n + 1
  · rw [strC_get _ h]
    by_cases h1 : j < k
    · rw [List.getElem?_append_left (by simp [strC_length] <;> omega), List.getElem?_append_left (by simp [strC_length] <;> omega), strC_get _ h1]
      simp [ins, h1]
    · by_cases h2 : j = k
      · subst h2
        rw [List.getElem?_append_left (by simp [strC_length]), List.getElem?_append_right (by simp [strC_length])]
        simp [strC_length, ins_at]
      · obtain ⟨q, rfl⟩ : ∃ q, j = k + 1 + q := ⟨j - k - 1, by omega⟩
        rw [List.getElem?_append_right (by simp [strC_length] <;> omega), ins_gt]
        have e : k + 1 + q - (strC f k ++ [Value.string x]).length = q := by simp [strC_length]
        rw [e, strC_get _ (by omega)]
  · rw [List.getElem?_eq_none (by simp [strC_length] <;> omega), List.getElem?_eq_none (by simp [strC_length] <;> omega)]

/-- The grown options, in a row of the call's own. -/
theorem strs_of_row {w : World} {base : Nat} {v : Value} {n : Nat} {f : Nat → ByteArray} (h : w.ownsRow base 9 1 v (n + 1) (strC f (n + 1))) (hs : ∀ j, j < n + 1 → (f j).size ≤ maxLen) : ∃ g c, v = .slice (some ⟨g, 0, none⟩) (n + 1) c ∧ n + 1 ≤ c ∧ StrsAt w (some ⟨g, 0, none⟩) (n + 1) f := by
  rcases h.2 with ⟨_, h0⟩ | ⟨g, cap, cur, rfl, hb, hg, hn, hm, hcs, ht⟩
  · omega
  · refine ⟨g, cap, rfl, hn, fun j hj => ⟨g, 0, rfl, ?_, hs j hj⟩⟩
    have := World.ownsRow.cells h (g := g) rfl j _ (strC_get f hj)
    rwa [Addr.add_lit] at this

theorem EdsAt.made (w : World) (n base : Nat) (wi : ByteArray) (h : n ≤ 4000000) (hb : base ≤ w.heap.size) : EdsAt (w.alloc (.cells (madeCells #[.int .i64 0, .int .i64 0, .string ByteArray.empty] ((n + 1) * 3)) 33)) base (.slice (some ⟨w.heap.size, 0, none⟩) 0 (n + 1)) wi [] :=
  World.ownsRow_made w _ (n + 1) hb (by unfold maxLen; omega) (by rw [size_madeCells])

/-- Edit j in memory. -/
theorem EdsAt.nth {w : World} {base : Nat} {v : Value} {wi : ByteArray} {l : List (Nat × Nat)} (h : EdsAt w base v wi l) {j P Q : Nat} (hj : l[j]? = some (P, Q)) : ∃ g cap, v = .slice (some ⟨g, 0, none⟩) l.length cap ∧
    w.cell? ⟨g, j * 3, none⟩ = some (.int .i64 (P : Int)) ∧ w.cell? ⟨g, j * 3 + 1, none⟩ = some (.int .i64 (Q : Int)) ∧ w.cell? ⟨g, j * 3 + 2, none⟩ = some (.string wi) := by
  have hlt : j < l.length := (List.getElem?_eq_some_iff.1 hj).1
  have key : ∀ (l : List (Nat × Nat)) (j : Nat), l[j]? = some (P, Q) → (cellsE wi l)[j * 3]? = some (.int .i64 (P : Int)) ∧ (cellsE wi l)[j * 3 + 1]? = some (.int .i64 (Q : Int)) ∧ (cellsE wi l)[j * 3 + 2]? = some (.string wi) := by
    intro l
    induction l with
    | nil => intro j hj; simp at hj
    | cons p l ih =>
      intro j hj
      cases j with
      | zero => simp at hj; subst hj; exact ⟨rfl, rfl, rfl⟩
      | succ j =>
        have := ih j (by simpa using hj)
        have e : cellsE wi (p :: l) = .int .i64 (p.1 : Int) :: .int .i64 (p.2 : Int) :: .string wi :: cellsE wi l := by simp [cellsE]
        rw [e, show (j + 1) * 3 = j * 3 + 3 by omega]
        exact this
  rcases h.2 with ⟨_, h0⟩ | ⟨g, cap, cur, rfl, _⟩
  · omega
  · obtain ⟨k1, k2, k3⟩ := key l j hj
    have c := fun q u hq => World.ownsRow.cells h (g := g) rfl q u hq
    have c1 := c _ _ k1
    have c2 := c _ _ k2
    have c3 := c _ _ k3
    rw [Addr.add_lit, Nat.zero_add] at c1 c2 c3
    exact ⟨g, cap, rfl, c1, c2, c3⟩
theorem EdsAt.nth' {w : World} {base n : Nat} {a : Option Addr} {cap : Nat} {wi : ByteArray} {l : List (Nat × Nat)} (h : EdsAt w base (.slice a n cap) wi l) {j P Q : Nat} (hj : l[j]? = some (P, Q)) : ∃ g, a = some ⟨g, 0, none⟩ ∧
    w.cell? ⟨g, j * 3, none⟩ = some (.int .i64 (P : Int)) ∧ w.cell? ⟨g, j * 3 + 1, none⟩ = some (.int .i64 (Q : Int)) ∧ w.cell? ⟨g, j * 3 + 2, none⟩ = some (.string wi) := by
  obtain ⟨g, cap', e, h1⟩ := h.nth hj
  simp only [Value.slice.injEq] at e
  exact ⟨g, e.1, h1⟩
theorem EdsAt.drewN {w : World} {base : Nat} {v : Value} {wi : ByteArray} {l : List (Nat × Nat)} (h : EdsAt w base v wi l) (m : Nat) : EdsAt (w.drewN m) base v wi l := h

/-- A list by its entries. -/
theorem entry {l : List (Nat × Nat)} {q : Nat} (h : q < l.length) : ∃ P Q, l[q]? = some (P, Q) := ⟨l[q].1, l[q].2, by rw [List.getElem?_eq_getElem h]⟩
theorem filter_step (p : Nat × Nat → Bool) {l : List (Nat × Nat)} {q : Nat} {e : Nat × Nat} (h : l[q]? = some e) : (l.take (q + 1)).filter p = (l.take q).filter p ++ (if p e = true then [e] else []) := by
  obtain ⟨hlt, he⟩ := List.getElem?_eq_some_iff.1 h
  rw [List.take_succ_eq_append_getElem hlt, he, List.filter_append]
  by_cases hp : p e = true <;> simp [hp]
theorem filter_len (p : Nat × Nat → Bool) (l : List (Nat × Nat)) (q : Nat) : ((l.take q).filter p).length ≤ l.length := Nat.le_trans (List.length_filter_le _ _) (by simp; omega)

theorem EdsAt.below {w w' : World} {base : Nat} {v : Value} {wi : ByteArray} {l : List (Nat × Nat)} (h : EdsAt w base v wi l) (hb : Below w.heap.size w w') : EdsAt w' base v wi l := by
  refine ⟨h.1, ?_⟩
  rcases h.2 with h2 | ⟨g, cap, cur, h1, h2, h3, h4⟩
  · exact .inl h2
  · exact .inr ⟨g, cap, cur, h1, h2, (hb.block g (Array.getElem?_eq_some_iff.1 h3).1).trans h3, h4⟩
theorem EdsAt.len {w : World} {base : Nat} {v : Value} {wi : ByteArray} {l : List (Nat × Nat)} (h : EdsAt w base v wi l) : ∃ a cap, v = .slice a l.length cap := by
  rcases h.2 with ⟨h1, h2⟩ | ⟨g, cap, cur, h1, _⟩
  · exact ⟨none, 0, by rw [h1, h2]⟩
  · exact ⟨_, _, h1⟩
end Go.Proofs.Qxb6629376a
