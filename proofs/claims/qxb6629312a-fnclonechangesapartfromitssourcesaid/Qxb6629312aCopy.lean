import Derived.Test.Qxb6629312aClone
import Derived.Laws.CopyOwn
namespace Go.Proofs.Qxb6629312a
open Go.RowKit

theorem Try.info9 : (Try.prog.info? 9).map (fun i => (i.zero, i.size, i.bytes)) = some (some (.string ByteArray.empty), 1, 16) := by kernel_rfl
theorem Try.info2 : (Try.prog.info? 2).map (fun i => (i.zero, i.size, i.bytes)) = some (some (.int .i64 0), 1, 8) := by kernel_rfl
theorem Try.size9 : (Try.prog.info? 9).map (·.size) = some 1 := by kernel_rfl
theorem Try.size2 : (Try.prog.info? 2).map (·.size) = some 1 := by kernel_rfl

def blankS (n : Nat) : Array Value := madeCells #[.string ByteArray.empty] n
def blankI (n : Nat) : Array Value := madeCells #[.int .i64 0] n
def rowOf (f : Nat → Value) (n : Nat) : Array Value := ((List.range n).map f).toArray
theorem rowOf_size (f : Nat → Value) (n : Nat) : (rowOf f n).size = n := by simp [rowOf]
theorem rowOf_get (f : Nat → Value) {n k : Nat} (h : k < n) : (rowOf f n)[k]? = some (f k) := by simp [rowOf, h]

theorem make22 (n : Nat) (h : n ≤ 4096) (w : World) :
    (Instr.makeSlice 22 (.int .i64 (n : Int)) (.int .i64 (n : Int))).run Try.prog w = .ok (.slice (some ⟨w.heap.size, 0, none⟩) n n) (w.alloc (.cells (blankS n) 9)) := by
  obtain ⟨i, hi, hz0, hz1, hz2⟩ := info_parts Try.info9
  have hr := run_make (P := Try.prog) w 22 9 i _ Try.underlying22 hi hz0 .i64 .i64 n n (by omega) (by omega) (by rw [hz2]; omega) (by omega)
  rw [hr, hz1]
  simp [blankS, Value.cells]
theorem make23 (n : Nat) (h : n ≤ 4096) (w : World) :
    (Instr.makeSlice 23 (.int .i64 (n : Int)) (.int .i64 (n : Int))).run Try.prog w = .ok (.slice (some ⟨w.heap.size, 0, none⟩) n n) (w.alloc (.cells (blankI n) 2)) := by
  obtain ⟨i, hi, hz0, hz1, hz2⟩ := info_parts Try.info2
  have hr := run_make (P := Try.prog) w 23 2 i _ Try.underlying23 hi hz0 .i64 .i64 n n (by omega) (by omega) (by rw [hz2]; omega) (by omega)
  rw [hr, hz1]
  simp [blankI, Value.cells]

theorem setRow_alloc (W : World) (cs cs' : Array Value) (t : TypeId) : (W.alloc (.cells cs t)).setRow W.heap.size cs' = W.alloc (.cells cs' t) := by
  unfold World.setRow World.alloc
  simp only [World.mk.injEq, and_true]
  apply Array.ext_getElem?
  intro i
  rw [Array.getElem?_modify]
  by_cases hi : i = W.heap.size
  · subst hi; simp
  · rw [if_neg (Ne.symm hi)]
    simp only [Array.getElem?_push, hi, if_false]

theorem copy_new {t e : TypeId} (hu : Try.prog.underlying t = some (.slice e)) (hs : (Try.prog.info? e).map (·.size) = some 1) (W : World) (a : Option Addr) (n c : Nat) (f : Nat → Value) (z : Value) (ty : TypeId)
    (h1 : ∀ k, (f k).oneCell' = true) (h : ∀ k, k < n → ∃ b off, a = some ⟨b, off, none⟩ ∧ W.cell? ⟨b, off + k, none⟩ = some (f k)) :
    (Builtin.copy_ #[t, t] ty #[.slice (some ⟨W.heap.size, 0, none⟩) n n, .slice a n c]).run Try.prog (W.alloc (.cells (madeCells #[z] n) e)) = .ok (.int .i64 n) (W.alloc (.cells (rowOf f n) e)) := by
  by_cases h0 : n = 0
  · subst h0
    rw [run_copy_none _ t t ty e _ a 0 0 0 c hu hs (by simp)]
    have : madeCells #[z] 0 = rowOf f 0 := by simp [madeCells, rowOf]
    rw [this]
    rfl
  · obtain ⟨b, off, rfl, hc0⟩ := h 0 (by omega)
    have hb : b < W.heap.size := World.block_lt_of_cell? _ _ hc0
    have hr := run_copy_row (P := Try.prog) (W.alloc (.cells (madeCells #[z] n) e)) t t ty e W.heap.size 0 n n ⟨b, off, none⟩ n c (madeCells #[z] n) e ((List.range n).map f) hu hs heap_alloc_eq (by simp)
      (fun j v hj => by
        have hjn : j < n := by
          have := (List.getElem?_eq_some_iff.1 hj).1
          simpa using this
        obtain ⟨b', off', e, hc⟩ := h j hjn
        simp only [Option.some.injEq, Addr.mk.injEq] at e
        obtain ⟨rfl, rfl, _⟩ := e
        simp [hjn] at hj
        subst hj
        rw [show (⟨b, off, none⟩ : Addr).add j = ⟨b, off + j, none⟩ from by simp [Addr.add]]
        rw [World.cell?_alloc_past _ _ _ hb]
        exact hc) (by simp [size_madeCells]) (fun v hv => by simp at hv; obtain ⟨k, _, rfl⟩ := hv; exact h1 k)
    rw [hr, setRow_alloc]
    have e1 : ((madeCells #[z] n).toList.take 0 ++ (List.range n).map f ++ (madeCells #[z] n).toList.drop (0 + ((List.range n).map f).length)).toArray = rowOf f n := by
      have : (madeCells #[z] n).toList.drop (0 + ((List.range n).map f).length) = [] := List.drop_eq_nil_of_le (by simp [size_madeCells])
      rw [this]
      simp [rowOf]
    rw [e1]
    simp [goInt]
end Go.Proofs.Qxb6629312a
