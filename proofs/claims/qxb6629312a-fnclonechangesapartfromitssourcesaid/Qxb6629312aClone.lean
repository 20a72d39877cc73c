import Derived.Test.Qxb6629312aNew
namespace Go.Proofs.Qxb6629312a
open Go.RowKit
open Go.ChangeMaps (setBlock)

theorem Try.info32 : (Try.prog.info? 32).map (fun i => (i.zero, i.size, i.bytes)) = some (some (.agg #[.string ByteArray.empty, .string ByteArray.empty, .int .i64 0]), 3, 40) := by kernel_rfl

def blanks (n : Nat) : Array Value := madeCells #[.string ByteArray.empty, .string ByteArray.empty, .int .i64 0] (n * 3)
theorem blanks_size (n : Nat) : (blanks n).size = n * 3 := size_madeCells _ _

theorem make38 (n : Nat) (h : n ≤ 4096) (w : World) :
    (Instr.makeSlice 38 (.int .i64 (n : Int)) (.int .i64 (n : Int))).run Try.prog w = .ok (.slice (some ⟨w.heap.size, 0, none⟩) n n) (w.alloc (.cells (blanks n) 32)) := by
  obtain ⟨i, hi, hz0, hz1, hz2⟩ := info_parts Try.info32
  have hr := run_make (P := Try.prog) w 38 32 i _ Try.underlying38 hi hz0 .i64 .i64 n n (by omega) (by omega) (by rw [hz2]; omega) (by omega)
  rw [hr, hz1]
  simp [blanks, Value.cells]

theorem make34n (n : Nat) (h : n ≤ 4096) (w : World) :
    (Instr.makeSlice 34 (.int .i64 (n : Int)) (.int .i64 (n : Int))).run Try.prog w = .ok (.slice (some ⟨w.heap.size, 0, none⟩) n n) (w.alloc (.cells (nils n) 29)) := by
  obtain ⟨i, hi, hz0, hz1, hz2⟩ := info_parts Try.info29
  have hr := run_make (P := Try.prog) w 34 29 i (.pointer none) Try.underlying34 hi hz0 .i64 .i64 n n (by omega) (by omega) (by rw [hz2]; omega) (by omega)
  rw [hr, hz1]
  simp [nils, Value.cells]

def cloneW (wr : World) (B bo k : Nat) (id nm : ByteArray) (s : Int) : World :=
  (((wr.setCell ⟨B, k * 3, none⟩ (.string id)).setCell ⟨B, k * 3 + 1, none⟩ (.string nm)).setCell ⟨B, k * 3 + 2, none⟩ (.int .i64 s)).setCell ⟨bo, k, none⟩ (.pointer (some ⟨B, k * 3, none⟩))
theorem cloneW_size (wr : World) (B bo k : Nat) (id nm : ByteArray) (s : Int) : (cloneW wr B bo k id nm s).heap.size = wr.heap.size := by simp [cloneW]
theorem cloneW_old {wr : World} {B bo k c : Nat} (h1 : c ≠ B) (h2 : c ≠ bo) (id nm : ByteArray) (s : Int) : (cloneW wr B bo k id nm s).heap[c]? = wr.heap[c]? := by
  unfold cloneW
  rw [heap_setCell_ne h2, heap_setCell_ne h1, heap_setCell_ne h1, heap_setCell_ne h1]

/-- Behind k rounds of Clone: w: the world ahead of the call; the entrants' row at w's end. -/
structure CRel (w wr : World) (cr bo bm n k : Nat) (ids names : Nat → ByteArray) (sc : Nat → Int) : Prop where
  rk : Rk wr w.heap.size wr.heap.size cr bo bm n n k (fun _ => w.heap.size) (fun j => j * 3) ids names sc
  en : ∃ arr, wr.heap[w.heap.size]? = some (.cells arr 32) ∧ arr.size = n * 3
  bl : Below w.heap.size w wr

namespace CRel
variable {w wr : World} {cr bo bm n k : Nat} {ids names : Nat → ByteArray} {sc : Nat → Int}
theorem oldo (h : CRel w wr cr bo bm n k ids names sc) {j : Nat} (hj : j < n) : ∃ v, wr.cell? ⟨bo, j, none⟩ = some v := by
  obtain ⟨arr, h1, h2, _⟩ := h.rk.ob
  exact ⟨arr[j], cell_of_block h1 (by simp)⟩
theorem olde (h : CRel w wr cr bo bm n k ids names sc) {o : Nat} (ho : o < n * 3) : ∃ v, wr.cell? ⟨w.heap.size, o, none⟩ = some v := by
  obtain ⟨arr, h1, h2⟩ := h.en
  exact ⟨arr[o], cell_of_block h1 (by simp)⟩
theorem fre (h : CRel w wr cr bo bm n k ids names sc) (o : Nat) : wr.frozen? ⟨w.heap.size, o, none⟩ = false := by
  obtain ⟨arr, h1, h2⟩ := h.en
  exact frozen_of_block h1 o
theorem fro (h : CRel w wr cr bo bm n k ids names sc) (o : Nat) : wr.frozen? ⟨bo, o, none⟩ = false := by
  obtain ⟨arr, h1, h2⟩ := h.rk.ob
  exact frozen_of_block h1 o
theorem ne1 (h : CRel w wr cr bo bm n k ids names sc) : ¬ bo = cr := fun e => by
  obtain ⟨arr, h1, _⟩ := h.rk.ob
  have := h.rk.rb; rw [← e, h1] at this; simp at this
theorem ne2 (h : CRel w wr cr bo bm n k ids names sc) : ¬ cr = bo := fun e => h.ne1 e.symm
theorem ne3 (h : CRel w wr cr bo bm n k ids names sc) : ¬ w.heap.size = cr := fun e => by
  obtain ⟨arr, h1, _⟩ := h.en
  have := h.rk.rb; rw [← e, h1] at this; simp at this
theorem ne4 (h : CRel w wr cr bo bm n k ids names sc) : ¬ w.heap.size = bo := fun e => by
  obtain ⟨arr, h1, _⟩ := h.en
  obtain ⟨arr', h2, _⟩ := h.rk.ob
  rw [← e, h1] at h2; simp at h2
theorem ne5 (h : CRel w wr cr bo bm n k ids names sc) : ¬ w.heap.size = bm := fun e => by
  obtain ⟨arr, h1, _⟩ := h.en
  have := h.rk.mb; rw [← e, h1] at this; simp at this
theorem ne6 (h : CRel w wr cr bo bm n k ids names sc) : ¬ bm = bo := fun e => by
  obtain ⟨arr, h1, _⟩ := h.rk.ob
  have := h.rk.mb; rw [e, h1] at this; simp at this
theorem ne7 (h : CRel w wr cr bo bm n k ids names sc) : ¬ bm = cr := fun e => by
  have := h.rk.rb; rw [← e, h.rk.mb] at this; simp at this
theorem f1 (h : CRel w wr cr bo bm n k ids names sc) (_hk : k < n) : (cloneW wr w.heap.size bo k (ids k) (names k) (sc k)).cell? ⟨cr, 1, none⟩ = some (.map (some bm)) := by
  have e := cloneW_old (wr := wr) (B := w.heap.size) (bo := bo) (k := k) (c := cr) (fun e => h.ne3 e.symm) h.ne2 (ids k) (names k) (sc k)
  have e2 := h.rk.c1
  simp only [World.cell?] at e2 ⊢
  rw [e]
  exact e2
theorem f2 (h : CRel w wr cr bo bm n k ids names sc) (_hk : k < n) {b : Nat} (hb : b < w.heap.size) (o : Nat) : (cloneW wr w.heap.size bo k (ids k) (names k) (sc k)).cell? ⟨b, o, none⟩ = wr.cell? ⟨b, o, none⟩ := by
  have ho := h.rk.olo.1
  have e := cloneW_old (wr := wr) (B := w.heap.size) (bo := bo) (k := k) (c := b) (by omega) (by omega) (ids k) (names k) (sc k)
  simp only [World.cell?]
  rw [e]
theorem hmu (h : CRel w wr cr bo bm n k ids names sc) (hk : k < n) (ha : Apart n ids) :
    (Instr.mapUpdate 35 (.map (some bm)) (.string (ids k)) (.pointer (some ⟨w.heap.size, k * 3, none⟩))).run Try.prog (cloneW wr w.heap.size bo k (ids k) (names k) (sc k)).drew.drew =
      .ok () (setBlock (cloneW wr w.heap.size bo k (ids k) (names k) (sc k)) bm (.map (ents ids (fun _ => w.heap.size) (fun j => j * 3) (k + 1)) (k + 1))).drew.drew := by
  have e := cloneW_old (wr := wr) (B := w.heap.size) (bo := bo) (k := k) (c := bm) (fun e => h.ne5 e.symm) h.ne6 (ids k) (names k) (sc k)
  rw [h.rk.mb] at e
  generalize cloneW wr w.heap.size bo k (ids k) (names k) (sc k) = X at e ⊢
  exact mapUpdate35 ha hk (fun _ => w.heap.size) (fun j => j * 3) bm w.heap.size (k * 3) rfl rfl X.drew.drew e

theorem drew (h : CRel w wr cr bo bm n k ids names sc) : CRel w wr.drew cr bo bm n k ids names sc := ⟨h.rk.drew, h.en, h.bl.drew⟩

theorem step (h : CRel w wr cr bo bm n k ids names sc) (hk : k < n) :
    CRel w (setBlock (cloneW wr w.heap.size bo k (ids k) (names k) (sc k)) bm (.map (ents ids (fun _ => w.heap.size) (fun j => j * 3) (k + 1)) (k + 1))) cr bo bm n (k + 1) ids names sc := by
  have b1 := h.rk.rlo
  have b2 := h.rk.olo
  have b3 := h.rk.mlo
  have hxs := cloneW_size wr w.heap.size bo k (ids k) (names k) (sc k)
  obtain ⟨arr, h1, h2⟩ := h.en
  obtain ⟨oarr, o1, o2, o3⟩ := h.rk.ob
  have x1 : (cloneW wr w.heap.size bo k (ids k) (names k) (sc k)).heap[w.heap.size]? =
      some (.cells (((arr.setIfInBounds (k * 3) (.string (ids k))).setIfInBounds (k * 3 + 1) (.string (names k))).setIfInBounds (k * 3 + 2) (.int .i64 (sc k))) 32) := by
    unfold cloneW
    rw [heap_setCell_ne h.ne4]
    exact heap_setCell_same (heap_setCell_same (heap_setCell_same h1))
  have x2 : (cloneW wr w.heap.size bo k (ids k) (names k) (sc k)).heap[bo]? = some (.cells (oarr.setIfInBounds k (.pointer (some ⟨w.heap.size, k * 3, none⟩))) 29) := by
    unfold cloneW
    refine heap_setCell_same ?_
    rw [heap_setCell_ne (Ne.symm h.ne4), heap_setCell_ne (Ne.symm h.ne4), heap_setCell_ne (Ne.symm h.ne4)]
    exact o1
  have x3 := cloneW_old (wr := wr) (B := w.heap.size) (bo := bo) (k := k) (c := cr) (fun e => h.ne3 e.symm) h.ne2 (ids k) (names k) (sc k)
  rw [h.rk.rb] at x3
  have x4 : Below w.heap.size w (cloneW wr w.heap.size bo k (ids k) (names k) (sc k)) := by
    unfold cloneW
    exact (((h.bl.setCell (p := ⟨w.heap.size, k * 3, none⟩) (Nat.le_refl _) _).setCell (p := ⟨w.heap.size, k * 3 + 1, none⟩) (Nat.le_refl _) _).setCell (p := ⟨w.heap.size, k * 3 + 2, none⟩) (Nat.le_refl _) _).setCell (p := ⟨bo, k, none⟩) b2.1 _
  generalize cloneW wr w.heap.size bo k (ids k) (names k) (sc k) = X at hxs x1 x2 x3 x4 ⊢
  have hsz : (setBlock X bm (.map (ents ids (fun _ => w.heap.size) (fun j => j * 3) (k + 1)) (k + 1))).heap.size = wr.heap.size := by
    rw [size_setBlock, hxs]
  rw [← heap_setBlock_ne (o := .map (ents ids (fun _ => w.heap.size) (fun j => j * 3) (k + 1)) (k + 1)) (b := bm) h.ne5] at x1
  rw [← heap_setBlock_ne (o := .map (ents ids (fun _ => w.heap.size) (fun j => j * 3) (k + 1)) (k + 1)) (b := bm) (Ne.symm h.ne6)] at x2
  rw [← heap_setBlock_ne (o := .map (ents ids (fun _ => w.heap.size) (fun j => j * 3) (k + 1)) (k + 1)) (b := bm) (Ne.symm h.ne7)] at x3
  refine ⟨⟨x3, ⟨_, x2, by simp [o2], fun j hj => ?_⟩, heap_setBlock_eq (by omega), fun j hj => ⟨_, x1, ?_⟩, ⟨b1.1, by omega⟩, ⟨b2.1, by omega⟩, ⟨b3.1, by omega⟩, fun j hj => ⟨Nat.le_refl _, by omega⟩⟩, ⟨_, x1, by simp [h2]⟩, below_setBlock x4 b3.1⟩
  · by_cases e : j = k
    · subst e
      simp [o2, hk]
    · rw [Array.getElem?_setIfInBounds_ne (by omega)]
      exact o3 j (by omega)
  · have hs : k * 3 + 2 < arr.size := by omega
    by_cases e : j = k
    · subst e
      refine ⟨?_, ?_, ?_⟩
      · rw [Array.getElem?_setIfInBounds_ne (by omega), Array.getElem?_setIfInBounds_ne (by omega), Array.getElem?_setIfInBounds_self_of_lt (by omega)]
      · rw [Array.getElem?_setIfInBounds_ne (by omega), Array.getElem?_setIfInBounds_self_of_lt (by simp; omega)]
      · rw [Array.getElem?_setIfInBounds_self_of_lt (by simp; omega)]
    · obtain ⟨ar, a1, a2, a3, a4⟩ := h.rk.nd j (by omega)
      rw [h1] at a1
      simp only [Option.some.injEq, Obj.cells.injEq] at a1
      obtain ⟨rfl, _⟩ := a1
      refine ⟨?_, ?_, ?_⟩
      · rw [Array.getElem?_setIfInBounds_ne (by omega), Array.getElem?_setIfInBounds_ne (by omega), Array.getElem?_setIfInBounds_ne (by omega)]; exact a2
      · rw [Array.getElem?_setIfInBounds_ne (by omega), Array.getElem?_setIfInBounds_ne (by omega), Array.getElem?_setIfInBounds_ne (by omega)]; exact a3
      · rw [Array.getElem?_setIfInBounds_ne (by omega), Array.getElem?_setIfInBounds_ne (by omega), Array.getElem?_setIfInBounds_ne (by omega)]; exact a4

theorem start_a {w : World} : CRel w ((((w.alloc (.cells (blanks n) 32)).alloc (.cells (nils n) 29)).alloc (.map #[] 0)).alloc (.cells #[.slice (some ⟨w.heap.size + 1, 0, none⟩) n n, .map (some (w.heap.size + 1 + 1))] 37)).drew (w.heap.size + 1 + 1 + 1) (w.heap.size + 1) (w.heap.size + 1 + 1) n 0 ids names sc := by
  have e0 : (w.alloc (.cells (blanks n) 32)).heap.size = w.heap.size + 1 := by simp
  have e1 : ((w.alloc (.cells (blanks n) 32)).alloc (.cells (nils n) 29)).heap.size = w.heap.size + 1 + 1 := by simp
  have e2 : (((w.alloc (.cells (blanks n) 32)).alloc (.cells (nils n) 29)).alloc (.map #[] 0)).heap.size = w.heap.size + 1 + 1 + 1 := by simp
  have e3 : ((((w.alloc (.cells (blanks n) 32)).alloc (.cells (nils n) 29)).alloc (.map #[] 0)).alloc (.cells #[.slice (some ⟨w.heap.size + 1, 0, none⟩) n n, .map (some (w.heap.size + 1 + 1))] 37)).drew.heap.size = w.heap.size + 4 := by simp
  refine ⟨⟨?_, ⟨nils n, ?_, nils_size n, fun j hj => by omega⟩, ?_, fun j hj => by omega, by omega, by omega, by omega, fun j hj => by omega⟩, ⟨blanks n, ?_, blanks_size n⟩, ?_⟩
  · show (World.alloc _ _).heap[_]? = _
    rw [← e2]; exact heap_alloc_eq
  · show (World.alloc _ _).heap[_]? = _
    rw [heap_alloc_lt (by omega), heap_alloc_lt (by omega), ← e0]; exact heap_alloc_eq
  · show (World.alloc _ _).heap[_]? = _
    rw [heap_alloc_lt (by omega), ← e1]; exact heap_alloc_eq
  · show (World.alloc _ _).heap[_]? = _
    rw [heap_alloc_lt (by omega), heap_alloc_lt (by omega), heap_alloc_lt (by omega)]; exact heap_alloc_eq
  · exact ((((Below.refl _ _).alloc (Nat.le_refl _) _).alloc (by omega) _).alloc (by omega) _).alloc (by omega) _ |>.drew

theorem start_b {w : World} : CRel w ((((w.alloc (.cells (blanks n) 32)).alloc (.map #[] 0)).alloc (.cells (nils n) 29)).alloc (.cells #[.slice (some ⟨w.heap.size + 1 + 1, 0, none⟩) n n, .map (some (w.heap.size + 1))] 37)).drew (w.heap.size + 1 + 1 + 1) (w.heap.size + 1 + 1) (w.heap.size + 1) n 0 ids names sc := by
  have e0 : (w.alloc (.cells (blanks n) 32)).heap.size = w.heap.size + 1 := by simp
  have e1 : ((w.alloc (.cells (blanks n) 32)).alloc (.map #[] 0)).heap.size = w.heap.size + 1 + 1 := by simp
  have e2 : (((w.alloc (.cells (blanks n) 32)).alloc (.map #[] 0)).alloc (.cells (nils n) 29)).heap.size = w.heap.size + 1 + 1 + 1 := by simp
  have e3 : ((((w.alloc (.cells (blanks n) 32)).alloc (.map #[] 0)).alloc (.cells (nils n) 29)).alloc (.cells #[.slice (some ⟨w.heap.size + 1 + 1, 0, none⟩) n n, .map (some (w.heap.size + 1))] 37)).drew.heap.size = w.heap.size + 4 := by simp
  refine ⟨⟨?_, ⟨nils n, ?_, nils_size n, fun j hj => by omega⟩, ?_, fun j hj => by omega, by omega, by omega, by omega, fun j hj => by omega⟩, ⟨blanks n, ?_, blanks_size n⟩, ?_⟩
  · show (World.alloc _ _).heap[_]? = _
    rw [← e2]; exact heap_alloc_eq
  · show (World.alloc _ _).heap[_]? = _
    rw [heap_alloc_lt (by omega), ← e1]; exact heap_alloc_eq
  · show (World.alloc _ _).heap[_]? = _
    rw [heap_alloc_lt (by omega), heap_alloc_lt (by omega), ← e0]; exact heap_alloc_eq
  · show (World.alloc _ _).heap[_]? = _
    rw [heap_alloc_lt (by omega), heap_alloc_lt (by omega), heap_alloc_lt (by omega)]; exact heap_alloc_eq
  · exact ((((Below.refl _ _).alloc (Nat.le_refl _) _).alloc (by omega) _).alloc (by omega) _).alloc (by omega) _ |>.drew
end CRel

set_option maxHeartbeats 1000000 in
theorem clone8 (lo br bo bm n cap : Nat) (nb no : Nat → Nat) (ids names : Nat → ByteArray) (sc : Nat → Int) (w : World) (hn : n ≤ 4096) (ha : Apart n ids)
    (hR : Rk w lo w.heap.size br bo bm n cap n nb no ids names sc) :
    Calls Try.prog 8 #[.pointer (some ⟨br, 0, none⟩)] w fun e w' =>
      ∃ bo' bm', e = .returned (.pointer (some ⟨w.heap.size + 1 + 1 + 1, 0, none⟩)) ∧ Rk w' w.heap.size w'.heap.size (w.heap.size + 1 + 1 + 1) bo' bm' n n n (fun _ => w.heap.size) (fun j => j * 3) ids names sc ∧ Below w.heap.size w w' := by
  have HA : Hid (Apart n ids) := ha
  have HR : Hid (Rk w lo w.heap.size br bo bm n cap n nb no ids names sc) := hR
  have e0 := hR.c0
  have l0 : br < w.heap.size := hR.rlo.2
  have l1 : br < w.heap.size + 1 := by omega
  have l2 : br < w.heap.size + 1 + 1 := by omega
  have l3 : br < w.heap.size + 1 + 1 + 1 := by omega
  clear ha hR
  have hmk := make34n n hn
  have hml := make38 n hn
  have hmm := makeMap35
  go_enter Try.func8, Try.ntmps8
  go_wp2
  go_region
  all_goals go_wp2
  all_goals
    clear hmk hml hmm l1 l2 l3
    generalize hcr : w.heap.size + 1 + 1 + 1 = cr
    have HCR : Hid (w.heap.size + 1 + 1 + 1 = cr) := hcr
    clear hcr
    go_loopw [32] (fun i wr => ∃ k bo' bm', k ≤ n ∧ i = .int .i64 (k : Nat) ∧ CRel w wr cr bo' bm' n k ids names sc) (fun i _ => n - (intOf i).toNat)
    case atStart =>
      have HCR' := HCR.out
      subst HCR'
      first
        | exact ⟨0, w.heap.size + 1, w.heap.size + 1 + 1, Nat.zero_le _, rfl, CRel.start_a⟩
        | exact ⟨0, w.heap.size + 1 + 1, w.heap.size + 1, Nat.zero_le _, rfl, CRel.start_b⟩
    case round =>
      obtain ⟨k, bo', bm', hk, rfl, hC⟩ := hrel
      by_cases hlt : k < n
      · have hRo := HR.out.below hC.bl (Nat.le_refl _)
        have r0 := hRo.co hlt
        have r1 := hRo.n0 hlt
        have r2 := hRo.n1 hlt
        have r3 := hRo.n2 hlt
        have q0 := hC.rk.c0
        have q1 := hC.rk.c1
        obtain ⟨o0, qo⟩ := hC.oldo hlt
        obtain ⟨v0, p0⟩ := hC.olde (o := k * 3) (by omega)
        obtain ⟨v1, p1⟩ := hC.olde (o := k * 3 + 1) (by omega)
        obtain ⟨v2, p2⟩ := hC.olde (o := k * 3 + 2) (by omega)
        have z0 := hC.fre (k * 3)
        have z1 := hC.fre (k * 3 + 1)
        have z2 := hC.fre (k * 3 + 2)
        have zo := hC.fro k
        have l1 := hC.rk.rlo.2
        have l2 := hC.rk.olo.2
        have l3 := hC.rk.mlo.2
        have m1 := hC.ne1
        have m2 := hC.ne2
        have m3 := hC.ne3
        have m4 := hC.ne4
        have m5 := hC.ne5
        have HC : Hid (CRel w wr cr bo' bm' n k ids names sc) := hC
        clear hC hRo
        have f1 := HC.out.f1 hlt
        have f2 := (HC.out.f2 hlt (HR.out.nlo k hlt).2 (no k)).trans r1
        have hmu := HC.out.hmu hlt HA.out
        go_wp2
        go_region
        go_wp2
        rw [show (((wr.setCell ⟨w.heap.size, k * 3, none⟩ (.string (ids k))).setCell ⟨w.heap.size, k * 3 + 1, none⟩ (.string (names k))).setCell ⟨w.heap.size, k * 3 + 2, none⟩ (.int .i64 (sc k))).setCell ⟨bo', k, none⟩ (.pointer (some ⟨w.heap.size, k * 3, none⟩)) = cloneW wr w.heap.size bo' k (ids k) (names k) (sc k) from rfl]
        go_region
        go_wp2
        exact ⟨⟨k + 1, bo', bm', by omega, by go_num, (HC.out.step hlt).drew.drew⟩, by simp [intOf]; omega⟩
      · have hkn : k = n := by omega
        subst hkn
        go_wp2
        go_ret
        exact ⟨bo', bm', by rw [HCR.out]; rfl, by rw [HCR.out]; exact hC.rk, hC.bl⟩
end Go.Proofs.Qxb6629312a
