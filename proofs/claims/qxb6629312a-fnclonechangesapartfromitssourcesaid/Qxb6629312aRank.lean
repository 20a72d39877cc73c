import Derived.Test.Qxb6629312aFits
import Derived.RegionTactic
import Derived.BigRegion
import Derived.ArgAppend
import Derived.Maps.OwnSet
namespace Go.Proofs.Qxb6629312a
open Go.RowKit
open Go.ChangeMaps (setBlock)
open Go.MapKept (bytes_beq)

/-! ### the index: an array of entries, in the order of their births -/
def ent (ids : Nat → ByteArray) (nb no : Nat → Nat) (j : Nat) : MapEntry := { key := .string (ids j), val := .pointer (some ⟨nb j, no j, none⟩), born := j }
def ents (ids : Nat → ByteArray) (nb no : Nat → Nat) (k : Nat) : Array MapEntry := ((List.range k).map (ent ids nb no)).toArray

theorem ents_succ (ids : Nat → ByteArray) (nb no : Nat → Nat) (k : Nat) : ents ids nb no (k + 1) = (ents ids nb no k).push (ent ids nb no k) := by
  simp [ents, List.range_succ]

theorem ents_size (ids : Nat → ByteArray) (nb no : Nat → Nat) (k : Nat) : (ents ids nb no k).size = k := by simp [ents]

theorem findNow_none {s : ByteArray} : ∀ (l : List MapEntry) (i : Nat), (∀ e ∈ l, ∃ t, e.key = .string t ∧ t ≠ s) → Instr.findNow .string (.string s) l i = some none
  | [], _, _ => rfl
  | e :: l, i, h => by
    obtain ⟨t, ht, hne⟩ := h e (.head _)
    have hb : (s == t) = false := by rw [Bool.eq_false_iff]; exact fun x => hne ((bytes_beq _ _).1 x).symm
    simp only [Instr.findNow, ht, Instr.sameNow, hb]
    exact findNow_none l (i + 1) (fun e he => h e (.tail _ he))

theorem findNow_hit {s : ByteArray} : ∀ (l : List MapEntry) (i j : Nat) (e : MapEntry), (∀ q e', q < j → l[q]? = some e' → ∃ t, e'.key = .string t ∧ t ≠ s) → l[j]? = some e → e.key = .string s → Instr.findNow .string (.string s) l i = some (some (i + j, e.val))
  | [], _, _, _, _, h, _ => by simp at h
  | x :: l, i, 0, e, _, h, hk => by
    simp at h; subst h
    have hb : (s == s) = true := (bytes_beq _ _).2 rfl
    simp only [Instr.findNow, hk, Instr.sameNow, hb]
    simp
  | x :: l, i, j + 1, e, hq, h, hk => by
    obtain ⟨t, ht, hne⟩ := hq 0 x (by omega) (by simp)
    have hb : (s == t) = false := by rw [Bool.eq_false_iff]; exact fun x => hne ((bytes_beq _ _).1 x).symm
    simp only [Instr.findNow, ht, Instr.sameNow, hb]
    have := findNow_hit l (i + 1) j e (fun q e' hq' he' => hq (q + 1) e' (by omega) (by simpa using he')) (by simpa using h) hk
    rw [this]
    congr 3
    omega

theorem find_new {n k : Nat} {ids : Nat → ByteArray} (ha : Apart n ids) (hk : k < n) (nb no : Nat → Nat) : Instr.findNow .string (.string (ids k)) (ents ids nb no k).toList 0 = some none := by
  refine findNow_none _ _ fun e he => ?_
  simp [ents] at he
  obtain ⟨j, hj, rfl⟩ := he
  exact ⟨ids j, rfl, ha j k hj hk⟩

theorem find_old {n k : Nat} {ids : Nat → ByteArray} (ha : Apart n ids) (hk : k < n) (nb no : Nat → Nat) : Instr.findNow .string (.string (ids k)) (ents ids nb no n).toList 0 = some (some (k, .pointer (some ⟨nb k, no k, none⟩))) := by
  have := findNow_hit (s := ids k) (ents ids nb no n).toList 0 k (ent ids nb no k) (fun q e' hq he' => ?_) (by simp [ents, hk]) rfl
  · rw [this]; simp [ent]
  · have hq' : q < n := by omega
    simp [ents, hq'] at he'
    subst he'
    exact ⟨ids q, rfl, ha q k hq hk⟩

/-- 'm[id] = e', id new. -/
theorem mapUpdate35 {n k : Nat} {ids : Nat → ByteArray} (ha : Apart n ids) (hk : k < n) (nb no : Nat → Nat) (bm b o : Nat) (hb : nb k = b) (ho : no k = o) (W : World) (h : W.heap[bm]? = some (.map (ents ids nb no k) k)) :
    (Instr.mapUpdate 35 (.map (some bm)) (.string (ids k)) (.pointer (some ⟨b, o, none⟩))).run Try.prog W = .ok () (setBlock W bm (.map (ents ids nb no (k + 1)) (k + 1))) := by
  subst hb ho
  have hf : (Instr.findKey 9 (.string (ids k)) (ents ids nb no k).toList).run Try.prog W = .ok none W := MapKept.run_findKey Try.underlying9 (find_new ha hk nb no)
  have hc : ∀ m, (Instr.checkKey false (m + 1) 9 (.string (ids k))).run Try.prog W = .ok () W := fun m => MapKept.run_checkKey Try.underlying9 (show MapKept.IsKey .string (.string (ids k)) from trivial) false m
  have hc1 := hc 9999
  simp only [Nat.reduceAdd] at hc1
  have e1 : ents ids nb no (k + 1) = (ents ids nb no k).push { key := .string (ids k), val := .pointer (some ⟨nb k, no k, none⟩), born := k } := ents_succ ids nb no k
  rw [e1]
  simp [Instr.mapUpdate, run_underlying Try.underlying35, MapKept.run_getObj_map h, hc1, hf, MapKept.run_setObj_map _ h, Result.andThen, setBlock]

/-- 'm[id]', id there. -/
theorem lookup35 {n k : Nat} {ids : Nat → ByteArray} (ha : Apart n ids) (hk : k < n) (nb no : Nat → Nat) (bm : Nat) (W : World) (h : W.heap[bm]? = some (.map (ents ids nb no n) n)) :
    (Instr.lookup 35 (.map (some bm)) (.string (ids k)) false).run Try.prog W = .ok (.pointer (some ⟨nb k, no k, none⟩)) W := by
  have hf : (Instr.findKey 9 (.string (ids k)) (ents ids nb no n).toList).run Try.prog W = .ok (some (k, .pointer (some ⟨nb k, no k, none⟩))) W := MapKept.run_findKey Try.underlying9 (find_old ha hk nb no)
  have hc : ∀ e m, (Instr.checkKey e (m + 1) 9 (.string (ids k))).run Try.prog W = .ok () W := fun e m => MapKept.run_checkKey Try.underlying9 (show MapKept.IsKey .string (.string (ids k)) from trivial) e m
  have hc1 := fun e => hc e 9999
  simp only [Nat.reduceAdd] at hc1
  simp [Instr.lookup, run_underlying Try.underlying35, MapKept.run_getObj_map h, hc1, hf, Result.andThen]

theorem len35 (ids : Nat → ByteArray) (nb no : Nat → Nat) (n bm : Nat) (ty : TypeId) (W : World) (h : W.heap[bm]? = some (.map (ents ids nb no n) n)) :
    (Builtin.len_ #[35] ty #[.map (some bm)]).run Try.prog W = .ok (.int .i64 n) W := by
  simp [Builtin.len_, run_underlying Try.underlying35, MapKept.run_getObj_map h, goInt, Result.andThen, ents_size]

/-! ### a Ranking in memory -/
/-- k entrants lie in the ranking at block br: its order (a row of cap pointers at bo, L of them in the slice) and its index (bm) lead to them; entrant j lies at (nb j, no j). All of it lies in blocks lo .. hi-1. -/
structure Rk (W : World) (lo hi br bo bm L cap k : Nat) (nb no : Nat → Nat) (ids names : Nat → ByteArray) (sc : Nat → Int) : Prop where
  rb : W.heap[br]? = some (.cells #[.slice (some ⟨bo, 0, none⟩) L cap, .map (some bm)] 37)
  ob : ∃ arr, W.heap[bo]? = some (.cells arr 29) ∧ arr.size = cap ∧ ∀ j, j < k → arr[j]? = some (.pointer (some ⟨nb j, no j, none⟩))
  mb : W.heap[bm]? = some (.map (ents ids nb no k) k)
  nd : ∀ j, j < k → ∃ arr, W.heap[nb j]? = some (.cells arr 32) ∧ arr[no j]? = some (.string (ids j)) ∧ arr[no j + 1]? = some (.string (names j)) ∧ arr[no j + 2]? = some (.int .i64 (sc j))
  rlo : lo ≤ br ∧ br < hi
  olo : lo ≤ bo ∧ bo < hi
  mlo : lo ≤ bm ∧ bm < hi
  nlo : ∀ j, j < k → lo ≤ nb j ∧ nb j < hi

theorem cell_of_block {W : World} {b o : Nat} {arr : Array Value} {t : TypeId} {v : Value} (h : W.heap[b]? = some (.cells arr t)) (ha : arr[o]? = some v) : W.cell? ⟨b, o, none⟩ = some v := by
  simp [World.cell?, h, ha]
theorem frozen_of_block {W : World} {b : Nat} {arr : Array Value} {t : TypeId} (h : W.heap[b]? = some (.cells arr t)) (o : Nat) : W.frozen? ⟨b, o, none⟩ = false := by
  simp [World.frozen?, h]
theorem lt_of_block {W : World} {b : Nat} {o : Obj} (h : W.heap[b]? = some o) : b < W.heap.size := (Array.getElem?_eq_some_iff.1 h).1

namespace Rk
variable {W : World} {lo hi br bo bm L cap k : Nat} {nb no : Nat → Nat} {ids names : Nat → ByteArray} {sc : Nat → Int}

theorem c0 (h : Rk W lo hi br bo bm L cap k nb no ids names sc) : W.cell? ⟨br, 0, none⟩ = some (.slice (some ⟨bo, 0, none⟩) L cap) := cell_of_block h.rb rfl
theorem c1 (h : Rk W lo hi br bo bm L cap k nb no ids names sc) : W.cell? ⟨br, 1, none⟩ = some (.map (some bm)) := cell_of_block h.rb rfl
theorem co (h : Rk W lo hi br bo bm L cap k nb no ids names sc) {j : Nat} (hj : j < k) : W.cell? ⟨bo, j, none⟩ = some (.pointer (some ⟨nb j, no j, none⟩)) := by
  obtain ⟨arr, h1, _, h2⟩ := h.ob
  exact cell_of_block h1 (h2 j hj)
theorem n0 (h : Rk W lo hi br bo bm L cap k nb no ids names sc) {j : Nat} (hj : j < k) : W.cell? ⟨nb j, no j, none⟩ = some (.string (ids j)) := by
  obtain ⟨arr, h1, h2, _⟩ := h.nd j hj
  exact cell_of_block h1 h2
theorem n1 (h : Rk W lo hi br bo bm L cap k nb no ids names sc) {j : Nat} (hj : j < k) : W.cell? ⟨nb j, no j + 1, none⟩ = some (.string (names j)) := by
  obtain ⟨arr, h1, _, h2, _⟩ := h.nd j hj
  exact cell_of_block h1 h2
theorem n2 (h : Rk W lo hi br bo bm L cap k nb no ids names sc) {j : Nat} (hj : j < k) : W.cell? ⟨nb j, no j + 2, none⟩ = some (.int .i64 (sc j)) := by
  obtain ⟨arr, h1, _, _, h2⟩ := h.nd j hj
  exact cell_of_block h1 h2

/-- It stays what it is while its own blocks do. -/
theorem keep {W' : World} (h : Rk W lo hi br bo bm L cap k nb no ids names sc) (hk : ∀ b, lo ≤ b → b < hi → W'.heap[b]? = W.heap[b]?) : Rk W' lo hi br bo bm L cap k nb no ids names sc where
  rb := (hk _ h.rlo.1 h.rlo.2).trans h.rb
  ob := by
    obtain ⟨arr, h1, h2⟩ := h.ob
    exact ⟨arr, (hk _ h.olo.1 h.olo.2).trans h1, h2⟩
  mb := (hk _ h.mlo.1 h.mlo.2).trans h.mb
  nd := fun j hj => by
    obtain ⟨arr, h1, h2⟩ := h.nd j hj
    exact ⟨arr, (hk _ (h.nlo j hj).1 (h.nlo j hj).2).trans h1, h2⟩
  rlo := h.rlo
  olo := h.olo
  mlo := h.mlo
  nlo := h.nlo

theorem drew (h : Rk W lo hi br bo bm L cap k nb no ids names sc) : Rk W.drew lo hi br bo bm L cap k nb no ids names sc := h.keep (W' := W.drew) fun _ _ _ => rfl
theorem drewN (h : Rk W lo hi br bo bm L cap k nb no ids names sc) (m : Nat) : Rk (W.drewN m) lo hi br bo bm L cap k nb no ids names sc := h.keep (W' := W.drewN m) fun _ _ _ => rfl

theorem widen {lo' hi' : Nat} (h : Rk W lo hi br bo bm L cap k nb no ids names sc) (hl : lo' ≤ lo) (hh : hi ≤ hi') : Rk W lo' hi' br bo bm L cap k nb no ids names sc where
  rb := h.rb
  ob := h.ob
  mb := h.mb
  nd := h.nd
  rlo := ⟨by have := h.rlo; omega, by have := h.rlo; omega⟩
  olo := ⟨by have := h.olo; omega, by have := h.olo; omega⟩
  mlo := ⟨by have := h.mlo; omega, by have := h.mlo; omega⟩
  nlo := fun j hj => ⟨by have := h.nlo j hj; omega, by have := h.nlo j hj; omega⟩

theorem below {B : Nat} {W' : World} (h : Rk W lo hi br bo bm L cap k nb no ids names sc) (hb : Below B W W') (hB : hi ≤ B) : Rk W' lo hi br bo bm L cap k nb no ids names sc :=
  h.keep fun b _ hb' => hb.block b (by omega)
end Rk

end Go.Proofs.Qxb6629312a
