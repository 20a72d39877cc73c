import Derived.Test.Qxb6629376aAux
import Derived.Test.Qxb6629376aPlain2
namespace Go.Proofs.Qxb6629376a
open Go.RowKit

/-- Block g is a row of n strings. -/
def RowF (w : World) (g n : Nat) (h : Nat → ByteArray) : Prop := ∃ arr, w.heap[g]? = some (.cells arr 9) ∧ arr.size = n ∧ ∀ j, j < n → arr[j]? = some (.string (h j))
/-- A slice of n strings in a row of the call's own (or of none). -/
def RowOr (w : World) (base : Nat) (a : Option Addr) (n : Nat) (h : Nat → ByteArray) : Prop := n = 0 ∨ ∃ g, a = some ⟨g, 0, none⟩ ∧ base ≤ g ∧ RowF w g n h

theorem RowF.cell {w : World} {g n : Nat} {h : Nat → ByteArray} (r : RowF w g n h) {j : Nat} (hj : j < n) : w.cell? ⟨g, j, none⟩ = some (.string (h j)) := by
  obtain ⟨arr, h1, _, h3⟩ := r
  simp [World.cell?, h1, h3 j hj]
theorem RowF.free {w : World} {g n : Nat} {h : Nat → ByteArray} (r : RowF w g n h) (j : Nat) : w.frozen? ⟨g, j, none⟩ = false := by
  obtain ⟨arr, h1, _⟩ := r
  simp [World.frozen?, h1]
theorem RowF.set {w : World} {g n : Nat} {h h' : Nat → ByteArray} (r : RowF w g n h) {k : Nat} {s : ByteArray} (hk : k < n) (e1 : h' k = s) (e2 : ∀ j, j < n → j ≠ k → h' j = h j) : RowF (w.setCell ⟨g, k, none⟩ (.string s)) g n h' := by
  obtain ⟨arr, h1, h2, h3⟩ := r
  refine ⟨arr.setIfInBounds k (.string s), by simp [World.setCell, Array.getElem?_modify, h1], by simp [h2], fun j hj => ?_⟩
  by_cases e : j = k
  · subst e
    rw [Array.getElem?_setIfInBounds_self_of_lt (by omega), e1]
  · rw [Array.getElem?_setIfInBounds_ne (by omega), e2 j hj e]
    exact h3 j hj
theorem RowF.congr {w : World} {g n : Nat} {h h' : Nat → ByteArray} (r : RowF w g n h) (e : ∀ j, j < n → h' j = h j) : RowF w g n h' := by
  obtain ⟨arr, h1, h2, h3⟩ := r
  exact ⟨arr, h1, h2, fun j hj => by rw [e j hj]; exact h3 j hj⟩
theorem RowF.made (w : World) (n : Nat) : RowF (w.alloc (.cells (madeCells #[.string ByteArray.empty] n) 9)) w.heap.size n (fun _ => ByteArray.empty) :=
  ⟨_, (MapKept.heap_alloc w _).1, size_madeCells _ _, fun j hj => by simp [madeCells, hj, Nat.mod_one]⟩
theorem RowF.strs {w : World} {g n : Nat} {h : Nat → ByteArray} (r : RowF w g n h) (hs : ∀ j, j < n → (h j).size ≤ maxLen) : StrsAt w (some ⟨g, 0, none⟩) n h := fun j hj => ⟨g, 0, rfl, by rw [Nat.zero_add]; exact r.cell hj, hs j hj⟩
theorem RowOr.strs {w : World} {base : Nat} {a : Option Addr} {n : Nat} {h : Nat → ByteArray} (r : RowOr w base a n h) (hs : ∀ j, j < n → (h j).size ≤ maxLen) : StrsAt w a n h := by
  rcases r with h0 | ⟨g, rfl, _, r⟩
  · exact fun j hj => by omega
  · exact r.strs hs

theorem make22n (n : Nat) (h : n ≤ 4000000) (w : World) :
    (Instr.makeSlice 22 (.int .i64 (n : Int)) (.int .i64 (n : Int))).run Try.prog w = .ok (.slice (some ⟨w.heap.size, 0, none⟩) n n) (w.alloc (.cells (madeCells #[.string ByteArray.empty] n) 9)) := by
  obtain ⟨i, hi, hz0, hz1, hz2⟩ := info_parts Try.info9
  have hr := run_make (P := Try.prog) w 22 9 i _ Try.underlying22 hi hz0 .i64 .i64 n n (by omega) (by omega) (by rw [hz2]; omega) (by omega)
  rw [hr, hz1]
  simp [Value.cells]

/-- After k rounds of the copy. -/
def cpTo (f : Nat → ByteArray) (k : Nat) : Nat → ByteArray := fun j => if j < k then f j else ByteArray.empty

set_option maxHeartbeats 400000 in
theorem clone8 (a : Option Addr) (n c : Nat) (f : Nat → ByteArray) (w : World) (h1 : StrsAt w a n f) (hn : n ≤ 4000000) :
    Calls Try.prog 8 #[.slice a n c] w fun e w' => ∃ a' c', e = .returned (.slice a' n c') ∧ RowOr w' w.heap.size a' n f ∧ Below w.heap.size w w' := by
  have H1 : Hid (StrsAt w a n f) := h1
  clear h1
  have heq := fun (W : World) (a : Option Addr) (n c : Nat) => Lib.run_eql_slice_nil (P := Try.prog) W 22 9 a n c 0 0 Try.underlying22
  cases a with
  | none =>
    have h0 : n = 0 := by
      rcases Nat.eq_zero_or_pos n with e | e
      · exact e
      · obtain ⟨_, _, h', _⟩ := H1.out 0 e
        cases h'
    subst h0
    go_enter Try.func8, Try.ntmps8
    go_wp2
    go_ret
    exact ⟨none, 0, rfl, .inl rfl, Below.refl _ _⟩
  | some ad =>
    have hmk := make22n n hn
    have hM : Hid (RowF (w.alloc (.cells (madeCells #[.string ByteArray.empty] n) 9)) w.heap.size n (cpTo f 0)) := (RowF.made w n).congr (fun j _ => by simp [cpTo])
    have hB : Hid (Below w.heap.size w (w.alloc (.cells (madeCells #[.string ByteArray.empty] n) 9))) := (Below.refl _ _).alloc (Nat.le_refl _) _
    go_enter Try.func8, Try.ntmps8
    go_wp2
    clear hmk heq
    go_loopw [4] (fun i wr => ∃ k : Nat, k ≤ n ∧ i = .int .i64 k ∧ RowF wr w.heap.size n (cpTo f k) ∧ Below w.heap.size w wr) (fun i _ => n - (intOf i).toNat)
    case atStart => exact ⟨0, Nat.zero_le _, rfl, hM.out, hB.out⟩
    case round =>
      obtain ⟨k, hk, rfl, hR, hW⟩ := hrel
      by_cases hlt : k < n
      · obtain ⟨b, off, e, hcell0, _⟩ := H1.out k hlt
        cases e
        have hcell : wr.cell? ⟨b, off + k, none⟩ = some (.string (f k)) := cell_later hW hcell0
        have c1 := hR.cell hlt
        have c2 := hR.free k
        have hR' : Hid (RowF (wr.setCell ⟨w.heap.size, k, none⟩ (.string (f k))) w.heap.size n (cpTo f (k + 1))) := hR.set hlt (by simp [cpTo]) (fun j _ hjk => by
          unfold cpTo
          by_cases hj : j < k
          · rw [if_pos hj, if_pos (by omega)]
          · rw [if_neg hj, if_neg (by omega)])
        have hW' : Hid (Below w.heap.size w (wr.setCell ⟨w.heap.size, k, none⟩ (.string (f k)))) := hW.setCell (p := ⟨w.heap.size, k, none⟩) (Nat.le_refl _) _
        clear hR hW
        go_wp2
        exact ⟨⟨k + 1, by omega, by go_num, hR'.out, hW'.out⟩, by simp [intOf]; omega⟩
      · go_wp2
        go_ret
        exact ⟨_, _, rfl, .inr ⟨_, rfl, Nat.le_refl _, hR.congr (fun j hj => by unfold cpTo; rw [if_pos (by omega)])⟩, hW⟩
end Go.Proofs.Qxb6629376a
