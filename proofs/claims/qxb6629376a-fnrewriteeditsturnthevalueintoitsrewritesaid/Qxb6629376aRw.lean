import Derived.Test.Qxb6629376aPlain
namespace Go.Proofs.Qxb6629376a
open Go.RowKit

theorem Try.info9 : (Try.prog.info? 9).map (fun i => (i.zero, i.size, i.bytes)) = some (some (.string ByteArray.empty), 1, 16) := by kernel_rfl
theorem Try.info33 : (Try.prog.info? 33).map (fun i => (i.zero, i.size, i.bytes)) = some (some (.agg #[.int .i64 0, .int .i64 0, .string ByteArray.empty]), 3, 32) := by kernel_rfl

/-- 'xs[:i]'. -/
theorem slice_to (a : Option Addr) (n c i : Nat) (h : i ≤ c) (w : World) : (Instr.slice 22 (.slice a n c) none (some (.int .i64 (i : Int))) none).run Try.prog w = .ok (.slice a i c) w := by
  obtain ⟨j, hj, _, hs, _⟩ := info_parts Try.info9
  have ha : ∀ x : Addr, x.add 0 = x := fun x => by cases x with | mk b o s => cases s <;> simp [Addr.add]
  cases a <;> simp [Instr.slice, run_underlying Try.underlying22, Instr.sliceBounds, Instr.sliceBound, asIntOf, sizeOf, typeInfo, hj, ha] <;> (intro hh; omega)

set_option maxHeartbeats 400000 in
theorem optionAt11 (nm : ByteArray) (a : Option Addr) (n c i : Nat) (f : Nat → ByteArray) (w : World) (hi : i ≤ n) (hc : n ≤ c) (h1 : StrsAt w a n f) (hb : offT (nm.size + 1) f n ≤ 4000000) :
    Calls Try.prog 11 #[.agg #[.string nm, .slice a n c], .int .i64 i] w fun e w' => e = .returned (.int .i64 (offT (nm.size + 1) f i)) ∧ w' = w.alloc (.cells #[.string nm, .slice a n c] 25) := by
  have H1 : Hid (StrsAt w a n f) := h1
  have hsl := slice_to a n c i (by omega)
  have hb0 := offT_ge (s := nm.size + 1) (f := f) n
  have hns : (nm.size : Int) ≤ 4000000 := by omega
  clear h1
  go_enter Try.func11, Try.ntmps11
  go_wp2
  go_loop [5, 17] (fun t j => ∃ k : Nat, k ≤ i ∧ j = .int .i64 k ∧ t = .int .i64 (offT (nm.size + 1) f k)) (fun _ j => i - (intOf j).toNat)
  case atStart => exact ⟨0, Nat.zero_le _, rfl, rfl⟩
  case round =>
    obtain ⟨k, hk, rfl, rfl⟩ := hrel
    by_cases hlt : k < i
    · obtain ⟨b, off, rfl, hcell, hsz⟩ := H1.out k (by omega)
      have hm := offT_lt (s := nm.size + 1) (f := f) (show k < n by omega)
      have hl0 : b < w.heap.size := World.block_lt_of_cell? _ _ hcell
      have e : Hid (offT (nm.size + 1) f (k + 1) = offT (nm.size + 1) f k + (f k).size + 1) := rfl
      generalize offT (nm.size + 1) f k = q at *
      go_wp2
      go_round
      case rel => exact ⟨k + 1, by omega, by go_num, by rw [e.out]; go_num⟩
      case measure => simp [intOf]; omega
    · have : k = i := by omega
      subst this
      go_wp2
      go_ret
      exact ⟨rfl, rfl⟩

/-- The edits as cells. -/
def cellsE (wi : ByteArray) (l : List (Nat × Nat)) : List Value := l.flatMap fun p => [.int .i64 (p.1 : Int), .int .i64 (p.2 : Int), .string wi]
theorem cellsE_append (wi : ByteArray) (l m : List (Nat × Nat)) : cellsE wi (l ++ m) = cellsE wi l ++ cellsE wi m := by simp [cellsE]
theorem cellsE_one (wi : ByteArray) (p : Nat × Nat) : cellsE wi [p] = [.int .i64 (p.1 : Int), .int .i64 (p.2 : Int), .string wi] := by simp [cellsE]

/-- A slice value that owns the edits l (each with the text wi), among the blocks from base on. -/
def EdsAt (w : World) (base : Nat) (v : Value) (wi : ByteArray) (l : List (Nat × Nat)) : Prop := w.ownsRow base 33 3 v l.length (cellsE wi l)
theorem EdsAt.nil (w : World) (base : Nat) (wi : ByteArray) : EdsAt w base (.slice none 0 0) wi [] := World.ownsRow_nil w base 33 3

theorem three_new (w : World) (a b c : Value) (t : TypeId) : ∀ j u, [a, b, c][j]? = some u → (w.alloc (.cells #[a, b, c] t)).cell? ((⟨w.heap.size, 0, none⟩ : Addr).add j) = some u := by
  intro j u h
  rw [Addr.add_lit, World.cell?_alloc_at _ _ _ _ rfl, Nat.zero_add]
  simpa using h

/-- What is appended in one round: one edit, laid in a block of its own. -/
theorem src_one (w : World) (g : Nat) (hg : g = w.heap.size) (p q : Int) (wi : ByteArray) (t : TypeId) : Src Try.prog 3 26 (.slice (some ⟨g, 0, none⟩) 1 1) 1 [.int .i64 p, .int .i64 q, .string wi] (w.alloc (.cells #[.int .i64 p, .int .i64 q, .string wi] t)) := by
  subst hg
  exact Src.ofSlice _ Try.underlying26 _ 1 1 _ rfl (three_new w _ _ _ t) (by intro u hu; simp at hu; rcases hu with rfl | rfl | rfl <;> rfl)

theorem EdsAt.append {w' : World} {base : Nat} {v' : Value} {wi : ByteArray} {l : List (Nat × Nat)} {p q : Nat} {y z : Int} (hy : y = (p : Int)) (hz : z = (q : Int)) (h' : w'.ownsRow base 33 3 v' (l.length + 1) (cellsE wi l ++ [.int .i64 y, .int .i64 z, .string wi])) : EdsAt w' base v' wi (l ++ [(p, q)]) := by
  subst hy hz
  unfold EdsAt
  rw [cellsE_append, cellsE_one, List.length_append]
  exact h'
theorem EdsAt.rebase {w : World} {base base' : Nat} {v : Value} {wi : ByteArray} {l : List (Nat × Nat)} (h : EdsAt w base v wi l) (hb : base' ≤ base) : EdsAt w base' v wi l := by
  refine ⟨h.1, ?_⟩
  rcases h.2 with h2 | ⟨g, cap, cur, h1, h2, h3⟩
  · exact .inl h2
  · exact .inr ⟨g, cap, cur, h1, by omega, h3⟩

set_option maxHeartbeats 1000000 in
theorem rewrite6 (nm : ByteArray) (a : Option Addr) (n c : Nat) (opt wi : ByteArray) (f : Nat → ByteArray) (w : World) (hc : n ≤ c) (h1 : StrsAt w a n f) (hb : offT (nm.size + 1) f n ≤ 4000000) :
    Calls Try.prog 6 #[.agg #[.string nm, .slice a n c], .string opt, .string wi] w fun e w' => ∃ v, e = .returned v ∧ EdsAt w' w.heap.size v wi (edT (nm.size + 1) f opt n) ∧ Below w.heap.size w w' := by
  have H1 : Hid (StrsAt (w.alloc (.cells #[.string nm, .slice a n c] 25)) a n f) := h1.below ((Below.refl _ _).alloc (Nat.le_refl _) _)
  have hb0 := offT_ge (s := nm.size + 1) (f := f) n
  have hB : Hid (Below w.heap.size w (w.alloc (.cells #[.string nm, .slice a n c] 25))) := (Below.refl _ _).alloc (Nat.le_refl _) _
  have b0 : (w.alloc (.cells #[.string nm, .slice a n c] 25)).cell? ⟨w.heap.size, 0, none⟩ = some (.string nm) := by simp
  have b1 : (w.alloc (.cells #[.string nm, .slice a n c] 25)).cell? ⟨w.heap.size, 1, none⟩ = some (.slice a n c) := by simp
  have bz : w.heap.size < (w.alloc (.cells #[.string nm, .slice a n c] 25)).heap.size := by simp
  obtain ⟨i0, hi, hz0, hz1, hz2⟩ := info_parts Try.info33
  clear h1
  go_enter Try.func6, Try.ntmps6
  go_wp2
  generalize w.alloc (.cells #[.string nm, .slice a n c] 25) = w1 at H1 hB b0 b1 bz ⊢
  go_loopw [7, 14] (fun v j wr => ∃ k : Nat, k ≤ n ∧ j = .int .i64 k ∧ EdsAt wr w1.heap.size v wi (edT (nm.size + 1) f opt k) ∧ Below w1.heap.size w1 wr) (fun _ j _ => n - (intOf j).toNat)
  case atStart => exact ⟨0, Nat.zero_le _, rfl, EdsAt.nil _ _ _, Below.refl _ _⟩
  case round =>
    obtain ⟨k, hk, rfl, hE, hW⟩ := hrel
    by_cases hlt : k < n
    · obtain ⟨b, off, rfl, hcell0, hsz⟩ := H1.out k hlt
      have hcell : wr.cell? ⟨b, off + k, none⟩ = some (.string (f k)) := cell_later hW hcell0
      have d0 : wr.cell? ⟨w.heap.size, 0, none⟩ = some (.string nm) := cell_later hW b0
      have d1 : wr.cell? ⟨w.heap.size, 1, none⟩ = some (.slice (some ⟨b, off, none⟩) n c) := cell_later hW b1
      have hm := offT_lt (s := nm.size + 1) (f := f) hlt
      by_cases hh : hit f opt k = true
      · have he : ((f k).toList == opt.toList) = true := hh
        have hE' : Hid (edT (nm.size + 1) f opt (k + 1) = edT (nm.size + 1) f opt k ++ [(offT (nm.size + 1) f k, offT (nm.size + 1) f k + (f k).size)]) := by
          show edT (nm.size + 1) f opt k ++ (if hit f opt k = true then _ else _) = _
          rw [if_pos hh]
        have hlE := edT_len (nm.size + 1) f opt k
        clear hh
        go_wp2_with fail
        refine (optionAt11 nm _ n c k f wr (by omega) hc (H1.out.below hW) hb).mono ?_
        rintro e w2 ⟨rfl, hw⟩
        replace hw := hw.symm; subst hw
        have hO := hE
        unfold EdsAt at hO
        clear hE
        generalize hEk : edT (nm.size + 1) f opt k = Ek at hE' hlE hO
        generalize offT (nm.size + 1) f k = q at *
        clear hEk
        go_wp2_with (at_builtin; refine wpList_append_src _ rfl _ _ 26 26 rfl w1.heap.size 33 i0 _ 3 32 Try.underlying26 hi hz0 hz1 hz2 rfl _ _ _ rfl ((hO.alloc _).alloc _) _ 1 [.int .i64 (q : Int), .int .i64 ((q : Int) + ((f k).size : Int)), .string wi] rfl ?_ ?_ ?_ ?_ ?_)
        · exact src_one (wr.alloc _) _ (by simp) _ _ _ _
        · unfold maxLen; omega
        · omega
        · have := hW.size; simp; omega
        · intro v' w' hO' hg
          have hW' : Hid (Below w1.heap.size w1 w') := ((hW.alloc hW.size _).alloc (by have := hW.size; simp; omega) _).grown hg (by have := hW.size; simp; omega) (fun kk hkk => (hO.lt kk hkk).1)
          have hO'' : Hid (EdsAt w' w1.heap.size v' wi (Ek ++ [(q, q + (f k).size)])) := EdsAt.append rfl (by simp) hO'
          clear hO' hg hO hW hcell hcell0 d0 d1
          go_wp2
          exact ⟨⟨k + 1, by omega, by go_num, by rw [hE'.out]; exact hO''.out, hW'.out⟩, by simp [intOf]; omega⟩
      · have he : ((f k).toList == opt.toList) = false := by simpa [hit] using hh
        have hE' : Hid (EdsAt wr w1.heap.size u7 wi (edT (nm.size + 1) f opt (k + 1))) := by
          show EdsAt wr w1.heap.size u7 wi (edT (nm.size + 1) f opt k ++ (if hit f opt k = true then _ else _))
          rw [if_neg hh, List.append_nil]
          exact hE
        clear hh hE
        go_wp2
        exact ⟨⟨k + 1, by omega, by go_num, hE'.out, hW⟩, by simp [intOf]; omega⟩
    · have hkn : k = n := by omega
      subst hkn
      go_wp2
      go_ret
      exact ⟨_, rfl, hE.rebase hB.out.size, hB.out.trans (hW.mono hB.out.size)⟩
end Go.Proofs.Qxb6629376a
