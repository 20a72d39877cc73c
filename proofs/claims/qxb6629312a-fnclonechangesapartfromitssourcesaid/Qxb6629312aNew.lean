import Derived.Test.Qxb6629312aStep
namespace Go.Proofs.Qxb6629312a
open Go.RowKit
open Go.ChangeMaps (setBlock)

theorem Try.info29 : (Try.prog.info? 29).map (fun i => (i.zero, i.size, i.bytes)) = some (some (.pointer none), 1, 8) := by kernel_rfl

def nils (n : Nat) : Array Value := madeCells #[.pointer none] n
theorem nils_size (n : Nat) : (nils n).size = n := size_madeCells _ _

theorem make34 (n : Nat) (h : n ≤ 4096) (w : World) :
    (Instr.makeSlice 34 (.int .i64 0) (.int .i64 (n : Int))).run Try.prog w = .ok (.slice (some ⟨w.heap.size, 0, none⟩) 0 n) (w.alloc (.cells (nils n) 29)) := by
  obtain ⟨i, hi, hz0, hz1, hz2⟩ := info_parts Try.info29
  have hr := run_make (P := Try.prog) w 34 29 i (.pointer none) Try.underlying34 hi hz0 .i64 .i64 0 n (by omega) (by omega) (by rw [hz2]; omega) (by omega)
  rw [hr, hz1]
  simp [nils, Value.cells]

theorem makeMap35 (n : Int) (w : World) :
    (Instr.makeMap 35 (some (.int .i64 n))).run Try.prog w = .ok (.map (some w.heap.size)) (w.alloc (.map #[] 0)) := by
  simp [Instr.makeMap, run_underlying Try.underlying35, asInt, asIntOf, newObj]
  rfl

def IntsAt (w : World) (a : Option Addr) (n : Nat) (f : Nat → Int) : Prop :=
  ∀ k, k < n → ∃ b off, a = some ⟨b, off, none⟩ ∧ w.cell? ⟨b, off + k, none⟩ = some (.int .i64 (f k))

set_option maxHeartbeats 1000000 in
theorem new7 (a0 a1 a2 : Option Addr) (n c0 c1 c2 : Nat) (s0 s1 : Nat → ByteArray) (sc : Nat → Int) (w : World) (hn : n ≤ 4096) (ha : Apart n s0)
    (h0 : StrsAt w a0 n s0) (h1 : StrsAt w a1 n s1) (h2 : IntsAt w a2 n sc) :
    Calls Try.prog 7 #[.slice a0 n c0, .slice a1 n c1, .slice a2 n c2] w fun e w' =>
      ∃ bo bm nb, e = .returned (.pointer (some ⟨w.heap.size + 1 + 1, 0, none⟩)) ∧ Rk w' w.heap.size w'.heap.size (w.heap.size + 1 + 1) bo bm n n n nb (fun _ => 0) s0 s1 sc ∧ Below w.heap.size w w' := by
  have H0 : Hid (StrsAt w a0 n s0) := h0
  have H1 : Hid (StrsAt w a1 n s1) := h1
  have H2 : Hid (IntsAt w a2 n sc) := h2
  have HA : Hid (Apart n s0) := ha
  clear h0 h1 h2 ha
  have hmk := make34 n hn
  have hmm := makeMap35
  go_enter Try.func7, Try.ntmps7
  go_wp2
  go_region
  all_goals go_wp2
  all_goals
    clear hmk hmm
    generalize hbr : w.heap.size + 1 + 1 = br
    have HBR : Hid (w.heap.size + 1 + 1 = br) := hbr
    clear hbr
    go_loopw [8, 9] (fun i _ wr => ∃ k bo bm nb, k ≤ n ∧ i = .int .i64 (k : Nat) ∧ Rk wr w.heap.size wr.heap.size (br) bo bm k n k nb (fun _ => 0) s0 s1 sc ∧ Below w.heap.size w wr) (fun i _ _ => n - (intOf i).toNat)
    case atStart =>
      have HBR' := HBR.out
      subst HBR'
      first
        | exact ⟨0, w.heap.size, w.heap.size + 1, fun _ => 0, Nat.zero_le _, rfl, start_a' (nils_size n), below_a _ _ _⟩
        | exact ⟨0, w.heap.size + 1, w.heap.size, fun _ => 0, Nat.zero_le _, rfl, start_b' (nils_size n), below_a _ _ _⟩
    case round =>
      obtain ⟨k, bo, bm, nb, hk, rfl, hR, hB⟩ := hrel
      by_cases hlt : k < n
      · obtain ⟨b0, off0, rfl, hc0, _⟩ := H0.out k hlt
        obtain ⟨b1, off1, rfl, hc1, _⟩ := H1.out k hlt
        obtain ⟨b2, off2, rfl, hc2⟩ := H2.out k hlt
        have hlen : (k : Int) < (n : Int) := by omega
        have d0 : wr.cell? ⟨b0, off0 + k, none⟩ = some (.string (s0 k)) := cell_later hB hc0
        have d1 : wr.cell? ⟨b1, off1 + k, none⟩ = some (.string (s1 k)) := cell_later hB hc1
        have d2 : wr.cell? ⟨b2, off2 + k, none⟩ = some (.int .i64 (sc k)) := cell_later hB hc2
        have e0 := hR.c0
        have e1 := hR.c1
        have l0 : br < wr.heap.size := hR.rlo.2
        have l1 : bo < wr.heap.size := hR.olo.2
        have l2 : bm < wr.heap.size := hR.mlo.2
        obtain ⟨arr, ho1, ho2, ho3⟩ := hR.ob
        have x0 : wr.cell? ⟨bo, k, none⟩ = some (arr[k]'(by omega)) := cell_of_block ho1 (by simp)
        generalize arr[k]'(by omega) = vk at x0
        have x1 : wr.frozen? ⟨bo, k, none⟩ = false := frozen_of_block ho1 k
        have x2 : wr.frozen? ⟨br, 0, none⟩ = false := frozen_of_block hR.rb 0
        have ne1 : ¬ bo = br := fun h => by have := hR.rb; rw [← h, ho1] at this; simp at this
        have ne2 : ¬ br = bo := fun h => ne1 h.symm
        have ne3 : ¬ bm = br := fun h => by have := hR.rb; rw [← h, hR.mb] at this; simp at this
        have ne4 : ¬ bm = bo := fun h => by have := hR.mb; rw [h, ho1] at this; simp at this
        have HR : Hid _ := hR
        clear ho1 ho2 ho3
        clear hR hc0 hc1 hc2
        have f1 : (newW wr bo br k n (s0 k) (s1 k) (sc k)).cell? ⟨br, 1, none⟩ = some (.map (some bm)) := by
          refine (World.cell?_of_block (w := setBlock (newW wr bo br k n (s0 k) (s1 k) (sc k)) bm (.map (ents s0 (nbNext wr nb k) (fun _ => 0) (k + 1)) (k + 1))) ?_).trans (new_step HR.out hlt hB.size).c1
          exact (heap_setBlock_ne (Ne.symm ne3)).symm
        have f2 : (newW wr bo br k n (s0 k) (s1 k) (sc k)).cell? ⟨wr.heap.size, 0, none⟩ = some (.string (s0 k)) := cell_of_block (newW_node _ _ _) rfl
        have f3 : (newW wr bo br k n (s0 k) (s1 k) (sc k)).heap[bm]? = some (.map (ents s0 (nbNext wr nb k) (fun _ => 0) k) k) := by
          rw [newW_old l2 ne4 ne3, HR.out.mb, ents_congr (nb := nb) (nb' := nbNext wr nb k) (fun j hj => ⟨by simp [nbNext]; omega, rfl⟩)]
        have hmu : (Instr.mapUpdate 35 (.map (some bm)) (.string (s0 k)) (.pointer (some ⟨wr.heap.size, 0, none⟩))).run Try.prog (newW wr bo br k n (s0 k) (s1 k) (sc k)).drew.drew =
            .ok () (setBlock (newW wr bo br k n (s0 k) (s1 k) (sc k)) bm (.map (ents s0 (nbNext wr nb k) (fun _ => 0) (k + 1)) (k + 1))).drew.drew :=
          mapUpdate35 HA.out hlt (nbNext wr nb k) (fun _ => 0) bm wr.heap.size 0 (by simp [nbNext]) rfl _ f3
        clear f3
        go_wp2
        go_region
        go_wp2
        rw [show (((wr.setCell ⟨bo, k, none⟩ (.pointer (some ⟨wr.heap.size, 0, none⟩))).setCell ⟨br, 0, none⟩ (.slice (some ⟨bo, 0, none⟩) (k + 1) n)).alloc (.cells #[.string (s0 k), .string (s1 k), .int .i64 (sc k)] 32)).alloc (.cells #[.pointer (some ⟨wr.heap.size, 0, none⟩)] 29) = newW wr bo br k n (s0 k) (s1 k) (sc k) from rfl]
        go_region
        go_wp2
        exact ⟨⟨k + 1, bo, bm, nbNext wr nb k, by omega, by go_num, new_step' HR.out hlt hB.size, (new_below hB HR.out hB.size _ _ _ _).drew.drew⟩, by simp [intOf]; omega⟩
      · have hkn : k = n := by omega
        subst hkn
        go_wp2
        go_ret
        exact ⟨bo, bm, nb, by rw [HBR.out]; rfl, by rw [HBR.out]; exact hR, hB⟩
end Go.Proofs.Qxb6629312a
