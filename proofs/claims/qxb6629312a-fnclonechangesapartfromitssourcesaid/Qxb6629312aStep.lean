import Derived.Test.Qxb6629312aRank
namespace Go.Proofs.Qxb6629312a
open Go.RowKit
open Go.ChangeMaps (setBlock)

theorem heap_setCell_same {w : World} {b o : Nat} {v : Value} {arr : Array Value} {t : TypeId} (h : w.heap[b]? = some (.cells arr t)) : (w.setCell ⟨b, o, none⟩ v).heap[b]? = some (.cells (arr.setIfInBounds o v) t) := by
  simp [World.setCell, Array.getElem?_modify, h]
theorem heap_setCell_ne {w : World} {b o : Nat} {v : Value} {c : Nat} (h : c ≠ b) : (w.setCell ⟨b, o, none⟩ v).heap[c]? = w.heap[c]? := Below.heap_setCell w ⟨b, o, none⟩ v c h
theorem heap_alloc_lt {w : World} {o : Obj} {c : Nat} (h : c < w.heap.size) : (w.alloc o).heap[c]? = w.heap[c]? := Below.heap_alloc w o c h
theorem heap_alloc_eq {w : World} {o : Obj} : (w.alloc o).heap[w.heap.size]? = some o := (MapKept.heap_alloc w o).1
theorem heap_setBlock_eq {w : World} {b : Nat} {o : Obj} (h : b < w.heap.size) : (setBlock w b o).heap[b]? = some o := by simp [setBlock, h]
theorem heap_setBlock_ne {w : World} {b c : Nat} {o : Obj} (h : c ≠ b) : (setBlock w b o).heap[c]? = w.heap[c]? := by
  simp [setBlock, Ne.symm h]
theorem size_setBlock {w : World} {b : Nat} {o : Obj} : (setBlock w b o).heap.size = w.heap.size := by simp [setBlock]
theorem below_setBlock {B b : Nat} {a w : World} {o : Obj} (h : Below B a w) (hb : B ≤ b) : Below B a (setBlock w b o) :=
  h.trans ⟨rfl, rfl, rfl, by rw [size_setBlock]; omega, fun k hk => heap_setBlock_ne (by omega)⟩

theorem ents_congr {ids : Nat → ByteArray} {nb no nb' no' : Nat → Nat} {k : Nat} (h : ∀ j, j < k → nb' j = nb j ∧ no' j = no j) : ents ids nb' no' k = ents ids nb no k := by
  unfold ents
  congr 1
  refine List.map_congr_left fun j hj => ?_
  have := h j (by simpa using hj)
  simp [ent, this.1, this.2]

/-- A round of ZZnewRanking ahead of the store into the index: a new node at the heap's end, its pointer appended. -/
def newW (wr : World) (bo br k n : Nat) (id nm : ByteArray) (s : Int) : World :=
  (((wr.setCell ⟨bo, k, none⟩ (.pointer (some ⟨wr.heap.size, 0, none⟩))).setCell ⟨br, 0, none⟩ (.slice (some ⟨bo, 0, none⟩) (k + 1) n)).alloc (.cells #[.string id, .string nm, .int .i64 s] 32)).alloc (.cells #[.pointer (some ⟨wr.heap.size, 0, none⟩)] 29)

theorem newW_size (wr : World) (bo br k n : Nat) (id nm : ByteArray) (s : Int) : (newW wr bo br k n id nm s).heap.size = wr.heap.size + 2 := by simp [newW]

def nbNext (wr : World) (nb : Nat → Nat) (k : Nat) : Nat → Nat := fun j => if j = k then wr.heap.size else nb j

section
variable {wr : World} {lo br bo bm n k : Nat} {nb : Nat → Nat} {ids names : Nat → ByteArray} {sc : Nat → Int}

theorem newW_old {c : Nat} (h1 : c < wr.heap.size) (h2 : c ≠ bo) (h3 : c ≠ br) (id nm : ByteArray) (s : Int) : (newW wr bo br k n id nm s).heap[c]? = wr.heap[c]? := by
  unfold newW
  rw [heap_alloc_lt (by simp; omega), heap_alloc_lt (by simp; omega), heap_setCell_ne h3, heap_setCell_ne h2]

theorem newW_node (id nm : ByteArray) (s : Int) : (newW wr bo br k n id nm s).heap[wr.heap.size]? = some (.cells #[.string id, .string nm, .int .i64 s] 32) := by
  unfold newW
  rw [heap_alloc_lt (by simp)]
  have e : wr.heap.size = ((wr.setCell ⟨bo, k, none⟩ (.pointer (some ⟨wr.heap.size, 0, none⟩))).setCell ⟨br, 0, none⟩ (.slice (some ⟨bo, 0, none⟩) (k + 1) n)).heap.size := by simp
  rw [show ∀ (X : World) (o : Obj) (q : Nat), q = X.heap.size → (X.alloc o).heap[q]? = some o from fun X o q h => by rw [h]; exact heap_alloc_eq]
  exact e

theorem new_step (hR : Rk wr lo wr.heap.size br bo bm k n k nb (fun _ => 0) ids names sc) (hk : k < n) (hlo : lo ≤ wr.heap.size) :
    Rk (setBlock (newW wr bo br k n (ids k) (names k) (sc k)) bm (.map (ents ids (nbNext wr nb k) (fun _ => 0) (k + 1)) (k + 1))) lo (wr.heap.size + 2) br bo bm (k + 1) n (k + 1) (nbNext wr nb k) (fun _ => 0) ids names sc := by
  obtain ⟨arr, ho1, ho2, ho3⟩ := hR.ob
  have ne1 : bo ≠ br := fun h => by have := hR.rb; rw [← h, ho1] at this; simp at this
  have ne3 : bm ≠ br := fun h => by have := hR.rb; rw [← h, hR.mb] at this; simp at this
  have ne4 : bm ≠ bo := fun h => by have := hR.mb; rw [h, ho1] at this; simp at this
  have lr := hR.rlo
  have lo' := hR.olo
  have lm := hR.mlo
  have nbk : nbNext wr nb k k = wr.heap.size := by simp [nbNext]
  have nbj : ∀ j, j < k → nbNext wr nb k j = nb j := fun j hj => by simp [nbNext]; omega
  refine ⟨?_, ?_, ?_, ?_, ⟨lr.1, by omega⟩, ⟨lo'.1, by omega⟩, ⟨lm.1, by omega⟩, ?_⟩
  · rw [heap_setBlock_ne (Ne.symm ne3)]
    unfold newW
    rw [heap_alloc_lt (by simp; omega), heap_alloc_lt (by simp; omega)]
    have h1 := heap_setCell_ne (w := wr) (b := bo) (o := k) (v := .pointer (some ⟨wr.heap.size, 0, none⟩)) (c := br) (Ne.symm ne1)
    rw [hR.rb] at h1
    rw [heap_setCell_same h1]
    simp
  · refine ⟨arr.setIfInBounds k (.pointer (some ⟨wr.heap.size, 0, none⟩)), ?_, by simp [ho2], fun j hj => ?_⟩
    · rw [heap_setBlock_ne (Ne.symm ne4)]
      unfold newW
      rw [heap_alloc_lt (by simp; omega), heap_alloc_lt (by simp; omega), heap_setCell_ne ne1, heap_setCell_same ho1]
    · by_cases e : j = k
      · subst e
        rw [nbk]
        simp [ho2, hk]
      · rw [nbj j (by omega), Array.getElem?_setIfInBounds_ne (by omega)]
        exact ho3 j (by omega)
  · exact heap_setBlock_eq (by rw [newW_size]; omega)
  · intro j hj
    by_cases e : j = k
    · subst e
      refine ⟨#[.string (ids j), .string (names j), .int .i64 (sc j)], ?_, ?_⟩
      · rw [nbk, heap_setBlock_ne (by omega)]
        exact newW_node _ _ _
      · exact ⟨rfl, rfl, rfl⟩
    · obtain ⟨ar, h1, h2⟩ := hR.nd j (by omega)
      have hl := hR.nlo j (by omega)
      refine ⟨ar, ?_, h2⟩
      rw [nbj j (by omega)]
      have m1 : nb j ≠ bm := fun h => by have := hR.mb; rw [← h, h1] at this; simp at this
      have m2 : nb j ≠ bo := fun h => by rw [h, ho1] at h1; simp at h1
      have m3 : nb j ≠ br := fun h => by have := hR.rb; rw [← h, h1] at this; simp at this
      rw [heap_setBlock_ne m1, newW_old hl.2 m2 m3]
      exact h1
  · intro j hj
    by_cases e : j = k
    · subst e; rw [nbk]; omega
    · rw [nbj j (by omega)]
      have := hR.nlo j (by omega)
      omega

theorem start_a {w : World} {cells : Array Value} (hc : cells.size = n) :
    Rk (((w.alloc (.cells cells 29)).alloc (.map #[] 0)).alloc (.cells #[.slice (some ⟨w.heap.size, 0, none⟩) 0 n, .map (some (w.heap.size + 1))] 37)) w.heap.size (w.heap.size + 3) (w.heap.size + 1 + 1) w.heap.size (w.heap.size + 1) 0 n 0 nb (fun _ => 0) ids names sc := by
  have e1 : (w.alloc (.cells cells 29)).heap.size = w.heap.size + 1 := by simp
  have e2 : ((w.alloc (.cells cells 29)).alloc (.map #[] 0)).heap.size = w.heap.size + 1 + 1 := by simp
  refine ⟨?_, ⟨cells, ?_, hc, fun j hj => by omega⟩, ?_, fun j hj => by omega, by omega, by omega, by omega, fun j hj => by omega⟩
  · rw [← e2]; exact heap_alloc_eq
  · rw [heap_alloc_lt (by omega), heap_alloc_lt (by omega)]; exact heap_alloc_eq
  · rw [heap_alloc_lt (by omega), ← e1]; exact heap_alloc_eq

theorem start_b {w : World} {cells : Array Value} (hc : cells.size = n) :
    Rk (((w.alloc (.map #[] 0)).alloc (.cells cells 29)).alloc (.cells #[.slice (some ⟨w.heap.size + 1, 0, none⟩) 0 n, .map (some w.heap.size)] 37)) w.heap.size (w.heap.size + 3) (w.heap.size + 1 + 1) (w.heap.size + 1) w.heap.size 0 n 0 nb (fun _ => 0) ids names sc := by
  have e1 : (w.alloc (.map #[] 0)).heap.size = w.heap.size + 1 := by simp
  have e2 : ((w.alloc (.map #[] 0)).alloc (.cells cells 29)).heap.size = w.heap.size + 1 + 1 := by simp
  refine ⟨?_, ⟨cells, ?_, hc, fun j hj => by omega⟩, ?_, fun j hj => by omega, by omega, by omega, by omega, fun j hj => by omega⟩
  · rw [← e2]; exact heap_alloc_eq
  · rw [heap_alloc_lt (by omega), ← e1]; exact heap_alloc_eq
  · rw [heap_alloc_lt (by omega), heap_alloc_lt (by omega)]; exact heap_alloc_eq

theorem start_a' {w : World} {cells : Array Value} (hc : cells.size = n) :
    Rk (((w.alloc (.cells cells 29)).alloc (.map #[] 0)).alloc (.cells #[.slice (some ⟨w.heap.size, 0, none⟩) 0 n, .map (some (w.heap.size + 1))] 37)).drew w.heap.size (((w.alloc (.cells cells 29)).alloc (.map #[] 0)).alloc (.cells #[.slice (some ⟨w.heap.size, 0, none⟩) 0 n, .map (some (w.heap.size + 1))] 37)).drew.heap.size (w.heap.size + 1 + 1) w.heap.size (w.heap.size + 1) 0 n 0 nb (fun _ => 0) ids names sc :=
  (start_a hc).drew.widen (Nat.le_refl _) (by simp)
theorem start_b' {w : World} {cells : Array Value} (hc : cells.size = n) :
    Rk (((w.alloc (.map #[] 0)).alloc (.cells cells 29)).alloc (.cells #[.slice (some ⟨w.heap.size + 1, 0, none⟩) 0 n, .map (some w.heap.size)] 37)).drew w.heap.size (((w.alloc (.map #[] 0)).alloc (.cells cells 29)).alloc (.cells #[.slice (some ⟨w.heap.size + 1, 0, none⟩) 0 n, .map (some w.heap.size)] 37)).drew.heap.size (w.heap.size + 1 + 1) (w.heap.size + 1) w.heap.size 0 n 0 nb (fun _ => 0) ids names sc :=
  (start_b hc).drew.widen (Nat.le_refl _) (by simp)

theorem below_a {w : World} (a b c : Obj) : Below w.heap.size w (((w.alloc a).alloc b).alloc c).drew :=
  ((((Below.refl _ _).alloc (Nat.le_refl _) _).alloc (by simp) _).alloc (by simp; omega) _).drew

theorem new_step' (hR : Rk wr lo wr.heap.size br bo bm k n k nb (fun _ => 0) ids names sc) (hk : k < n) (hlo : lo ≤ wr.heap.size) :
    Rk (setBlock (newW wr bo br k n (ids k) (names k) (sc k)) bm (.map (ents ids (nbNext wr nb k) (fun _ => 0) (k + 1)) (k + 1))).drew.drew lo (setBlock (newW wr bo br k n (ids k) (names k) (sc k)) bm (.map (ents ids (nbNext wr nb k) (fun _ => 0) (k + 1)) (k + 1))).drew.drew.heap.size br bo bm (k + 1) n (k + 1) (nbNext wr nb k) (fun _ => 0) ids names sc :=
  (new_step hR hk hlo).drew.drew.widen (Nat.le_refl _) (by rw [World.size_drew, World.size_drew, size_setBlock, newW_size]; exact Nat.le_refl _)

theorem new_below {w : World} (hB : Below lo w wr) (hR : Rk wr lo wr.heap.size br bo bm k n k nb (fun _ => 0) ids names sc) (hlo : lo ≤ wr.heap.size) (id nm : ByteArray) (s : Int) (o : Obj) :
    Below lo w (setBlock (newW wr bo br k n id nm s) bm o) := by
  refine below_setBlock ?_ hR.mlo.1
  unfold newW
  exact (((hB.setCell (p := ⟨bo, k, none⟩) hR.olo.1 _).setCell (p := ⟨br, 0, none⟩) hR.rlo.1 _).alloc (by simp; omega) _).alloc (by simp; omega) _
end
end Go.Proofs.Qxb6629312a
