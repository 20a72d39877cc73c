import Derived.Test.Qxb6629376aAux
namespace Go.Proofs.Qxb6629376a
open Go.RowKit

set_option maxHeartbeats 2000000 in
set_option maxRecDepth 100000 in
theorem law4 (nm : ByteArray) (a : Option Addr) (n c : Nat) (k0 : Int) (x opt wi : ByteArray) (f : Nat → ByteArray) (w : World) (hc : n ≤ c) (h1 : StrsAt w a n f) (z0 : nm.size ≤ maxLen) (z1 : x.size ≤ maxLen) (z2 : opt.size ≤ maxLen) (z3 : wi.size ≤ maxLen) :
    Calls Try.prog 4 #[.string nm, .slice a n c, .int .i64 k0, .string x, .string opt, .string wi] w fun e w' => e = .returned (.bool true) ∧ Below w.heap.size w w' := by
  have H1 : Hid (StrsAt w a n f) := h1
  have Z0 : Hid (nm.size ≤ maxLen ∧ x.size ≤ maxLen ∧ opt.size ≤ maxLen ∧ wi.size ≤ maxLen) := ⟨z0, z1, z2, z3⟩
  clear h1 z0 z1 z2 z3
  go_enter Try.func4, Try.ntmps4
  go_wp2_with fail
  refine (bytes10 nm a n c k0 x opt wi f w H1.out Z0.out.1 Z0.out.2.1 Z0.out.2.2.1 Z0.out.2.2.2).mono ?_
  rintro e w1 ⟨⟨b, rfl, hq⟩, hw⟩
  replace hw := hw.symm; subst hw
  cases b
  · go_wp2
    go_ret
    exact ⟨rfl, Below.refl _ _⟩
  have hS : Hid (SizesLe n f) := hq rfl
  clear hq
  by_cases g_nm : (1048576 : Int) < (nm.size : Int)
  · as_aux_lemma =>
    go_wp2
    go_ret
    exact ⟨rfl, Below.refl _ _⟩
  have g_nmb : decide ((1048576 : Int) < (nm.size : Int)) = false := decide_eq_false g_nm
  by_cases g_n : (1048576 : Int) < (n : Int)
  · as_aux_lemma =>
    go_wp2
    go_ret
    exact ⟨rfl, Below.refl _ _⟩
  have g_nb : decide ((1048576 : Int) < (n : Int)) = false := decide_eq_false g_n
  by_cases g_x : (1048576 : Int) < (x.size : Int)
  · as_aux_lemma =>
    go_wp2
    go_ret
    exact ⟨rfl, Below.refl _ _⟩
  have g_xb : decide ((1048576 : Int) < (x.size : Int)) = false := decide_eq_false g_x
  by_cases g_opt : (1048576 : Int) < (opt.size : Int)
  · as_aux_lemma =>
    go_wp2
    go_ret
    exact ⟨rfl, Below.refl _ _⟩
  have g_optb : decide ((1048576 : Int) < (opt.size : Int)) = false := decide_eq_false g_opt
  by_cases g_wi : (1048576 : Int) < (wi.size : Int)
  · as_aux_lemma =>
    go_wp2
    go_ret
    exact ⟨rfl, Below.refl _ _⟩
  have g_wib : decide ((1048576 : Int) < (wi.size : Int)) = false := decide_eq_false g_wi
  have s0 : decide ((1048576 : Int) < (nm.size : Int) + 16 * (n : Int) + 16 + (x.size : Int) + (opt.size : Int) + (wi.size : Int)) = false ∨ (1048576 : Int) < (nm.size : Int) + 16 * (n : Int) + 16 + (x.size : Int) + (opt.size : Int) + (wi.size : Int) := by
    by_cases h : (1048576 : Int) < (nm.size : Int) + 16 * (n : Int) + 16 + (x.size : Int) + (opt.size : Int) + (wi.size : Int)
    · exact .inr h
    · exact .inl (decide_eq_false h)
  rcases s0 with s0 | s0
  rotate_left
  · go_wp2
    go_ret
    exact ⟨rfl, Below.refl _ _⟩
  go_wp2_with fail
  go_loop [13, 85] (fun z i => ∃ (j : Nat) (t : Int), j ≤ n ∧ i = .int .i64 j ∧ z = .int .i64 t ∧ (offT 0 f j : Int) + nm.size + x.size ≤ t + j ∧ t ≤ 1048576 ∧ 0 ≤ t) (fun _ i => n - (intOf i).toNat)
  case atStart => exact ⟨0, _, Nat.zero_le _, rfl, rfl, by simp [offT]; omega, by have := of_decide_eq_false s0; omega, by omega⟩
  case round =>
    obtain ⟨j, t, hj, rfl, rfl, ht, ht1, ht2⟩ := hrel
    by_cases hlt : j < n
    · as_aux_lemma =>
      obtain ⟨b, off, rfl, hcell, _⟩ := H1.out j hlt
      have hsz := hS.out j hlt
      have e : Hid (offT 0 f (j + 1) = offT 0 f j + (f j).size + 1) := rfl
      generalize offT 0 f j = q at *
      go_wp2
      · go_ret
        exact ⟨rfl, Below.refl _ _⟩
      · go_round
        case rel => exact ⟨j + 1, _, by omega, by go_num, rfl, by rw [e.out]; omega, by omega, by omega⟩
        case measure => simp [intOf]; omega
    · have hjn : j = n := by omega
      subst hjn
      have hoffx : offT (nm.size + 1) f j + x.size ≤ 3000000 := by
        have e0 : ∀ s, offT s f j = offT 0 f j + s := by
          intro s
          induction s with
          | zero => rfl
          | succ s ih => rw [offT_base, ih]; omega
        rw [e0]; omega
      by_cases k1 : k0 < 0
      · have k1b : decide (k0 < 0) = true := decide_eq_true k1
        as_aux_lemma =>
        go_wp2
        go_ret
        exact ⟨rfl, Below.refl _ _⟩
      have k1b : decide (k0 < 0) = false := decide_eq_false k1
      by_cases k2 : (j : Int) < k0
      · as_aux_lemma =>
        go_wp2
        go_ret
        exact ⟨rfl, Below.refl _ _⟩
      have k2b : decide ((j : Int) < k0) = false := decide_eq_false k2
      obtain ⟨k, rfl⟩ : ∃ k : Nat, k0 = k := ⟨k0.toNat, by omega⟩
      have hkn : k ≤ j := by omega
      have hoff : offT (nm.size + 1) f j ≤ 4000000 := by omega
      have hoff' : offT (nm.size + 1) (ins f k x) (j + 1) ≤ 4000000 := by
        obtain ⟨d, rfl⟩ : ∃ d, j = k + d := ⟨j - k, by omega⟩
        rw [show k + d + 1 = k + 1 + d by omega, offT_ins_ge]
        omega
      clear k1 k2 ht ht1 ht2 hj hlt
      have hmk := make22 j (by omega)
      have hsl := slice_to a j c k (by omega)
      have hsf := slice_from a j c k hkn
      obtain ⟨i9, hi, hz0, hz1, hz2⟩ := info_parts Try.info9
      have hM : (w.alloc (.cells (madeCells #[.string ByteArray.empty] (j + 1)) 9)).ownsRow w.heap.size 9 1 (.slice (some ⟨w.heap.size, 0, none⟩) 0 (j + 1)) 0 [] := World.ownsRow_made w _ (j + 1) (Nat.le_refl _) (by unfold maxLen; omega) (by rw [size_madeCells, Nat.mul_one])
      have hMB : Hid (Below w.heap.size w (w.alloc (.cells (madeCells #[.string ByteArray.empty] (j + 1)) 9))) := (Below.refl _ _).alloc (Nat.le_refl _) _
      have HM : Hid (StrsAt (w.alloc (.cells (madeCells #[.string ByteArray.empty] (j + 1)) 9)) a j f) := H1.out.below hMB.out
      go_wp2_with (at_builtin; refine wpList_append_src _ rfl (.tmp 108) (.tmp 111) 22 22 rfl w.heap.size 9 i9 _ 1 16 Try.underlying22 hi hz0 hz1 hz2 rfl _ _ _ rfl hM _ k (strC f k) rfl (src_strs (HM.out.take hkn) _) ?_ ?_ ?_ ?_)
      · unfold maxLen; omega
      · omega
      · intro v1 w2 hO1 hg1
        have hW1 : Below w.heap.size w w2 := hMB.out.grown hg1 (by simp) (fun kk hkk => by simp [Value.ownBlock] at hkk; omega)
        clear hg1 hM hMB HM hmk hsl
        go_wp2_with (at_builtin; refine wpList_append_src _ rfl (.tmp 113) (.tmp 115) 22 22 rfl w.heap.size 9 i9 _ 1 16 Try.underlying22 hi hz0 hz1 hz2 rfl _ _ _ rfl (hO1.alloc _) _ 1 [.string x] rfl (src_str1 w2 _ rfl _ _) ?_ ?_ ?_ ?_)
        · unfold maxLen; omega
        · omega
        · have := hW1.size; simp; omega
        · intro v2 w3 hO2 hg2
          have hW2 : Below w.heap.size w w3 := (hW1.alloc hW1.size _).grown hg2 (by have := hW1.size; simp; omega) (fun kk hkk => (hO1.lt kk hkk).1)
          have HS2 : Hid (StrsAt w3 a j f) := H1.out.below hW2
          clear hg2 hO1 hW1
          go_wp2_with (at_builtin; refine wpList_append_src _ rfl (.tmp 117) (.tmp 120) 22 22 rfl w.heap.size 9 i9 _ 1 16 Try.underlying22 hi hz0 hz1 hz2 rfl _ _ _ rfl hO2 _ (j - k) (strC (fun q => f (k + q)) (j - k)) rfl (src_strs (HS2.out.drop hc) _) ?_ ?_ ?_ ?_)
          · unfold maxLen; omega
          · omega
          · exact hW2.size
          · intro v3 w4 hO3 hg3
            have hW3 : Below w.heap.size w w4 := hW2.grown hg3 hW2.size (fun kk hkk => (hO2.lt kk hkk).1)
            have hO4 : w4.ownsRow w.heap.size 9 1 v3 (j + 1) (strC (ins f k x) (j + 1)) := by
              rw [← ins_cells f k j x hkn]
              have e : k + 1 + (j - k) = j + 1 := by omega
              rw [← e, List.append_assoc]; exact hO3
            obtain ⟨g, c', hv3, hc', HG0⟩ := strs_of_row hO4 (fun q hq => by
              unfold ins
              split
              · exact (H1.out q (by omega)).elim fun _ h => h.elim fun _ h => h.2.2
              · split
                · exact Z0.out.2.1
                · exact (H1.out (q - 1) (by omega)).elim fun _ h => h.elim fun _ h => h.2.2)
            subst hv3
            have HS4 : Hid (StrsAt w4 a j f) := H1.out.below hW3
            have HW4 : Hid (Below w.heap.size w w4) := hW3
            have HG4 : Hid (StrsAt w4 (some ⟨g, 0, none⟩) (j + 1) (ins f k x)) := HG0
            clear hO3 hg3 hO4 hO2 hW2 hW3 HS2 HG0 hsf hi hz0 hz1 hz2
            go_wp2_with fail
            have y0 : ((w4.alloc (.cells #[.string nm, .slice a j c] 25)).alloc (.cells #[.string nm, .slice (some ⟨g, 0, none⟩) (j + 1) c'] 25)).cell? ⟨w4.heap.size + 1, 0, none⟩ = some (.string nm) := by simp
            have y1 : ((w4.alloc (.cells #[.string nm, .slice a j c] 25)).alloc (.cells #[.string nm, .slice (some ⟨g, 0, none⟩) (j + 1) c'] 25)).cell? ⟨w4.heap.size + 1, 1, none⟩ = some (.slice (some ⟨g, 0, none⟩) (j + 1) c') := by simp
            have yB : Below w4.heap.size w4 ((w4.alloc (.cells #[.string nm, .slice a j c] 25)).alloc (.cells #[.string nm, .slice (some ⟨g, 0, none⟩) (j + 1) c'] 25)) := ((Below.refl _ _).alloc (Nat.le_refl _) _).alloc (by simp) _
            generalize (w4.alloc (.cells #[.string nm, .slice a j c] 25)).alloc (.cells #[.string nm, .slice (some ⟨g, 0, none⟩) (j + 1) c'] 25) = wA at y0 y1 yB ⊢
            generalize w4.heap.size + 1 = yb at y0 y1 ⊢
            have HA1 : Hid (StrsAt wA a j f) := HS4.out.below yB
            have HA2 : Hid (StrsAt wA (some ⟨g, 0, none⟩) (j + 1) (ins f k x)) := HG4.out.below yB
            have HAB : Hid (Below w.heap.size w wA) := HW4.out.trans (yB.mono HW4.out.size)
            clear HS4 HW4 HG4 yB
            refine (rewrite6 nm a j c opt wi f wA hc HA1.out hoff).mono ?_
            rintro e w5 ⟨v5, rfl, hE5, hB5⟩
            obtain ⟨a5, cap5, hv5⟩ := hE5.len
            subst hv5
            have y0' : w5.cell? ⟨yb, 0, none⟩ = some (.string nm) := cell_later hB5 y0
            have y1' : w5.cell? ⟨yb, 1, none⟩ = some (.slice (some ⟨g, 0, none⟩) (j + 1) c') := cell_later hB5 y1
            have HE5 : Hid (EdsAt w5 wA.heap.size (.slice a5 (edT (nm.size + 1) f opt j).length cap5) wi (edT (nm.size + 1) f opt j)) := hE5
            have HB1 : Hid (StrsAt w5 a j f) := HA1.out.below hB5
            have HB2 : Hid (StrsAt w5 (some ⟨g, 0, none⟩) (j + 1) (ins f k x)) := HA2.out.below hB5
            have HBB : Hid (Below w.heap.size w w5) := HAB.out.trans (hB5.mono HAB.out.size)
            clear hE5 hB5 HA1 HA2 HAB y0 y1
            go_wp2_with fail
            refine (rewrite6 nm (some ⟨g, 0, none⟩) (j + 1) c' opt wi (ins f k x) w5 hc' HB2.out hoff').mono ?_
            rintro e w6 ⟨v6, rfl, hE6, hB6⟩
            obtain ⟨a6, cap6, hv6⟩ := hE6.len
            subst hv6
            have HC5 : Hid (EdsAt w6 wA.heap.size (.slice a5 (edT (nm.size + 1) f opt j).length cap5) wi (edT (nm.size + 1) f opt j)) := HE5.out.below hB6
            have HC6 : Hid (EdsAt w6 w5.heap.size (.slice a6 (edT (nm.size + 1) (ins f k x) opt (j + 1)).length cap6) wi (edT (nm.size + 1) (ins f k x) opt (j + 1))) := hE6
            have HC1 : Hid (StrsAt w6 a j f) := HB1.out.below hB6
            have HCB : Hid (Below w.heap.size w w6) := HBB.out.trans (hB6.mono HBB.out.size)
            clear hE6 hB6 HE5 HB1 HB2 HBB y0' y1'
            have hsl := slice_to a j c k (by omega)
            go_wp2_with fail
            have hoffk := offT_mono (s := nm.size + 1) (f := f) hkn
            refine (text7 nm a k c f w6 (HC1.out.take hkn) (by omega)).mono ?_
            rintro e w7 ⟨rfl, hB7⟩
            have HD5 : Hid (EdsAt w7 wA.heap.size (.slice a5 (edT (nm.size + 1) f opt j).length cap5) wi (edT (nm.size + 1) f opt j)) := HC5.out.below hB7
            have HD6 : Hid (EdsAt w7 w5.heap.size (.slice a6 (edT (nm.size + 1) (ins f k x) opt (j + 1)).length cap6) wi (edT (nm.size + 1) (ins f k x) opt (j + 1))) := HC6.out.below hB7
            have HD1 : Hid (StrsAt w7 a j f) := HC1.out.below hB7
            have HDB : Hid (Below w.heap.size w w7) := HCB.out.trans (hB7.mono HCB.out.size)
            have htx : (({ data := (textT nm f k).toArray } : ByteArray).size : Int) + 1 = (offT (nm.size + 1) f k : Int) := by
              rw [← textT_len]; simp [ByteArray.size]
            generalize ({ data := (textT nm f k).toArray } : ByteArray) = tx at htx ⊢
            have hlaw : Hid (edT (nm.size + 1) (ins f k x) opt (j + 1) = (edT (nm.size + 1) f opt j).filter (fun p => decide (p.1 < offT (nm.size + 1) f k)) ++ midT (offT (nm.size + 1) f k) x opt ++ ((edT (nm.size + 1) f opt j).filter (fun p => decide (offT (nm.size + 1) f k ≤ p.1))).map (shiftBy (x.size + 1))) := insert_law _ _ _ _ _ _ hkn
            have hlen5 := edT_len (nm.size + 1) f opt j
            have hlen6 := edT_len (nm.size + 1) (ins f k x) opt (j + 1)
            have hmem : Hid (∀ p ∈ edT (nm.size + 1) f opt j, p.2 = p.1 + opt.size ∧ p.2 ≤ 4000000) := fun p hp => by have := edT_mem hp; exact ⟨this.2.1, by omega⟩
            have hcnt : Hid ((edT (nm.size + 1) f opt j).length = cntT f opt j) := edT_cnt _ _ _ _
            generalize edT (nm.size + 1) (ins f k x) opt (j + 1) = E6 at HD6 hlaw hlen6 ⊢
            generalize edT (nm.size + 1) f opt j = E5 at HD5 hlaw hlen5 hmem hcnt ⊢
            have hA : offT (nm.size + 1) f k ≤ 4000000 := by omega
            generalize offT (nm.size + 1) f k = A at htx hlaw hA ⊢
            clear HC5 HC6 HC1 HCB hB7 hsl hoffk hoff hoff' hoffx
            have hmk := make26 E5.length (by omega)
            have hM7 : Hid (EdsAt (w7.alloc (.cells (madeCells #[.int .i64 0, .int .i64 0, .string ByteArray.empty] ((E5.length + 1) * 3)) 33)) w7.heap.size (.slice (some ⟨w7.heap.size, 0, none⟩) 0 (E5.length + 1)) wi []) := EdsAt.made _ _ _ _ (by omega) (Nat.le_refl _)
            have hM7B : Hid (Below w7.heap.size w7 (w7.alloc (.cells (madeCells #[.int .i64 0, .int .i64 0, .string ByteArray.empty] ((E5.length + 1) * 3)) 33))) := (Below.refl _ _).alloc (Nat.le_refl _) _
            obtain ⟨i33, hi, hz0, hz1, hz2⟩ := info_parts Try.info33
            go_wp2_with fail
            clear hmk htx
            go_loopw [23, 152] (fun v i wr => ∃ q : Nat, q ≤ E5.length ∧ i = .int .i64 q ∧ EdsAt wr w7.heap.size v wi ((E5.take q).filter (fun p => decide (p.1 < A))) ∧ Below w7.heap.size w7 wr) (fun _ i _ => E5.length - (intOf i).toNat)
            case atStart => exact ⟨0, Nat.zero_le _, rfl, hM7.out, hM7B.out⟩
            case round =>
              obtain ⟨q, hq, rfl, hE, hB⟩ := hrel
              by_cases hlt : q < E5.length
              · as_aux_lemma =>
                obtain ⟨P, Q, hPQ⟩ := entry hlt
                have hm := hmem.out _ (List.mem_of_getElem? hPQ)
                obtain ⟨g5, rfl, d0, d1, d2⟩ := (HD5.out.below hB).nth' hPQ
                have hstep := filter_step (fun p => decide (p.1 < A)) hPQ
                have hfl := filter_len (fun p => decide (p.1 < A)) E5 q
                have hQ : Q ≤ 4000000 := hm.2
                have hP : P ≤ 4000000 := by have := hm.1; simp only at this; omega
                clear hm hPQ
                generalize (E5.take q).filter (fun p => decide (p.1 < A)) = F at hE hstep hfl
                by_cases hPA : (P : Int) < (A : Int)
                · have hF : Hid ((E5.take (q + 1)).filter (fun p => decide (p.1 < A)) = F ++ [(P, Q)]) := by show _ = _; rw [hstep, if_pos (by simp; omega)]
                  clear hstep
                  unfold EdsAt at hE
                  go_wp2_with (at_builtin; refine wpList_append_src _ rfl (.tmp 160) (.tmp 162) 26 26 rfl w7.heap.size 33 i33 _ 3 32 Try.underlying26 hi hz0 hz1 hz2 rfl _ _ _ rfl ((hE.alloc _).alloc _) _ 1 [.int .i64 (P : Int), .int .i64 (Q : Int), .string wi] rfl ?_ ?_ ?_ ?_ ?_)
                  · exact src_one (wr.alloc _) _ (by simp) _ _ _ _
                  · unfold maxLen; omega
                  · omega
                  · have := hB.size; simp; omega
                  · intro v' w' hO' hg
                    have hB' : Hid (Below w7.heap.size w7 w') := ((hB.alloc hB.size _).alloc (by have := hB.size; simp; omega) _).grown hg (by have := hB.size; simp; omega) (fun kk hkk => (hE.lt kk hkk).1)
                    have hO'' : Hid (EdsAt w' w7.heap.size v' wi (F ++ [(P, Q)])) := EdsAt.append rfl rfl hO'
                    clear hO' hg hE hB
                    go_wp2
                    exact ⟨⟨q + 1, by omega, by go_num, by rw [hF.out]; exact hO''.out, hB'.out⟩, by simp [intOf]; omega⟩
                · have hF : Hid ((E5.take (q + 1)).filter (fun p => decide (p.1 < A)) = F) := by show _ = _; rw [hstep, if_neg (by simp; omega), List.append_nil]
                  clear hstep
                  have hB' : Hid (Below w7.heap.size w7 (wr.alloc (.cells #[.int .i64 (P : Int), .int .i64 (Q : Int), .string wi] 33))) := hB.alloc hB.size _
                  have hE' : Hid (EdsAt (wr.alloc (.cells #[.int .i64 (P : Int), .int .i64 (Q : Int), .string wi] 33)) w7.heap.size u23 wi F) := World.ownsRow.alloc hE _
                  clear hE hB
                  go_wp2
                  exact ⟨⟨q + 1, by omega, by go_num, by rw [hF.out]; exact hE'.out, hB'.out⟩, by simp [intOf]; omega⟩
              · have hqe : q = E5.length := by omega
                subst hqe
                rw [List.take_length] at hE
                have hfl := Nat.le_trans (List.length_filter_le (fun p => decide (p.1 < A)) E5) (Nat.le_refl _)
                generalize E5.filter (fun p => decide (p.1 < A)) = F1 at hE hlaw hfl
                go_upto_if 167 with fail
                go_cut [23] (fun v wx => EdsAt wx w7.heap.size v wi (F1 ++ midT A x opt) ∧ Below w7.heap.size w7 wx)
                case first =>
                  as_aux_lemma =>
                  generalize hbx : (x.toList == opt.toList) = bx
                  have hx : Hid ((x.toList == opt.toList) = bx) := hbx
                  clear hbx
                  cases bx
                  rotate_left
                  · have hmid : Hid (midT A x opt = [(A, A + x.size)]) := by show _ = _; unfold midT; rw [if_pos hx.out]
                    unfold EdsAt at hE
                    go_wp2_with (at_builtin; refine wpList_append_src _ rfl (.tmp 168) (.tmp 176) 26 26 rfl w7.heap.size 33 i33 _ 3 32 Try.underlying26 hi hz0 hz1 hz2 rfl _ _ _ rfl (hE.alloc _) _ 1 [.int .i64 (A : Int), .int .i64 ((A : Int) + (x.size : Int)), .string wi] rfl (src_one wr _ rfl _ _ _ _) ?_ ?_ ?_ ?_)
                    · unfold maxLen; omega
                    · omega
                    · have := hB.size; simp; omega
                    · intro v' w' hO' hg
                      have hB' : Hid (Below w7.heap.size w7 w') := (hB.alloc hB.size _).grown hg (by have := hB.size; simp; omega) (fun kk hkk => (hE.lt kk hkk).1)
                      have hO'' : Hid (EdsAt w' w7.heap.size v' wi (F1 ++ [(A, A + x.size)])) := EdsAt.append rfl (by simp) hO'
                      clear hO' hg hE hB
                      go_wp2
                      go_meet
                      exact ⟨by rw [hmid.out]; exact hO''.out, hB'.out⟩
                  · have hmid : Hid (midT A x opt = []) := by show _ = _; unfold midT; rw [hx.out]; rfl
                    go_wp2
                    go_meet
                    exact ⟨by rw [hmid.out, List.append_nil]; exact hE, hB⟩
                case rest =>
                clear hE hB
                obtain ⟨hE, hB⟩ := hcut
                have hml : (midT A x opt).length ≤ 1 := by unfold midT; split <;> simp
                have hfl2 : (F1 ++ midT A x opt).length ≤ E5.length + 1 := by rw [List.length_append]; omega
                generalize F1 ++ midT A x opt = F2 at hE hlaw hfl2
                have HE2 : Hid (EdsAt wc w7.heap.size u23 wi F2) := hE
                have HB2 : Hid (Below w7.heap.size w7 wc) := hB
                clear hE hB hfl hml
                go_wp2_with fail
                go_loopw [23, 180] (fun v i wr => ∃ q : Nat, q ≤ E5.length ∧ i = .int .i64 q ∧ EdsAt wr w7.heap.size v wi (F2 ++ ((E5.take q).filter (fun p => decide (A ≤ p.1))).map (shiftBy (x.size + 1))) ∧ Below w7.heap.size w7 wr) (fun _ i _ => E5.length - (intOf i).toNat)
                case atStart => exact ⟨0, Nat.zero_le _, rfl, by simpa using HE2.out, HB2.out⟩
                case round =>
                  obtain ⟨q, hq, rfl, hE, hB⟩ := hrel
                  by_cases hlt : q < E5.length
                  · as_aux_lemma =>
                    obtain ⟨P, Q, hPQ⟩ := entry hlt
                    have hm := hmem.out _ (List.mem_of_getElem? hPQ)
                    obtain ⟨g5, rfl, d0, d1, d2⟩ := (HD5.out.below hB).nth' hPQ
                    have hstep := filter_step (fun p => decide (A ≤ p.1)) hPQ
                    have hfl := filter_len (fun p => decide (A ≤ p.1)) E5 q
                    have hQ : Q ≤ 4000000 := hm.2
                    have hP : P ≤ 4000000 := by have := hm.1; simp only at this; omega
                    clear hm hPQ
                    generalize (E5.take q).filter (fun p => decide (A ≤ p.1)) = F at hE hstep hfl
                    have hFl : (F2 ++ F.map (shiftBy (x.size + 1))).length ≤ 4000000 := by rw [List.length_append, List.length_map]; omega
                    by_cases hPA : (A : Int) ≤ (P : Int)
                    · have hF : Hid (F2 ++ ((E5.take (q + 1)).filter (fun p => decide (A ≤ p.1))).map (shiftBy (x.size + 1)) = F2 ++ F.map (shiftBy (x.size + 1)) ++ [(P + (x.size + 1), Q + (x.size + 1))]) := by show _ = _; rw [hstep, if_pos (by simp; omega), List.map_append, List.append_assoc]; rfl
                      clear hstep
                      generalize F2 ++ F.map (shiftBy (x.size + 1)) = F3 at hE hF hFl
                      unfold EdsAt at hE
                      go_wp2_with (at_builtin; refine wpList_append_src _ rfl (.tmp 188) (.tmp 200) 26 26 rfl w7.heap.size 33 i33 _ 3 32 Try.underlying26 hi hz0 hz1 hz2 rfl _ _ _ rfl ((hE.alloc _).alloc _) _ 1 [.int .i64 ((P : Int) + ((x.size : Int) + 1)), .int .i64 ((Q : Int) + ((x.size : Int) + 1)), .string wi] rfl ?_ ?_ ?_ ?_ ?_)
                      · exact src_one (wr.alloc _) _ (by simp) _ _ _ _
                      · unfold maxLen; omega
                      · omega
                      · have := hB.size; simp; omega
                      · intro v' w' hO' hg
                        have hB' : Hid (Below w7.heap.size w7 w') := ((hB.alloc hB.size _).alloc (by have := hB.size; simp; omega) _).grown hg (by have := hB.size; simp; omega) (fun kk hkk => (hE.lt kk hkk).1)
                        have hO'' : Hid (EdsAt w' w7.heap.size v' wi (F3 ++ [(P + (x.size + 1), Q + (x.size + 1))])) := EdsAt.append (by simp) (by simp) hO'
                        clear hO' hg hE hB
                        go_wp2
                        exact ⟨⟨q + 1, by omega, by go_num, by rw [hF.out]; exact hO''.out, hB'.out⟩, by simp [intOf]; omega⟩
                    · have hF : Hid (F2 ++ ((E5.take (q + 1)).filter (fun p => decide (A ≤ p.1))).map (shiftBy (x.size + 1)) = F2 ++ F.map (shiftBy (x.size + 1))) := by show _ = _; rw [hstep, if_neg (by simp; omega), List.append_nil]
                      clear hstep
                      generalize F2 ++ F.map (shiftBy (x.size + 1)) = F3 at hE hF hFl
                      have hB' : Hid (Below w7.heap.size w7 (wr.alloc (.cells #[.int .i64 (P : Int), .int .i64 (Q : Int), .string wi] 33))) := hB.alloc hB.size _
                      have hE' : Hid (EdsAt (wr.alloc (.cells #[.int .i64 (P : Int), .int .i64 (Q : Int), .string wi] 33)) w7.heap.size u23 wi F3) := World.ownsRow.alloc hE _
                      clear hE hB
                      go_wp2
                      exact ⟨⟨q + 1, by omega, by go_num, by rw [hF.out]; exact hE'.out, hB'.out⟩, by simp [intOf]; omega⟩
                  · have hqe : q = E5.length := by omega
                    subst hqe
                    rw [List.take_length, ← hlaw.out] at hE
                    obtain ⟨a8, cap8, hv8⟩ := hE.len
                    subst hv8
                    have HX8 : Hid (EdsAt wr w7.heap.size (.slice a8 E6.length cap8) wi E6) := hE
                    have HX6 : Hid (EdsAt wr w5.heap.size (.slice a6 E6.length cap6) wi E6) := HD6.out.below hB
                    have HX5 : Hid (EdsAt wr wA.heap.size (.slice a5 E5.length cap5) wi E5) := HD5.out.below hB
                    have HX1 : Hid (StrsAt wr a j f) := HD1.out.below hB
                    have HXB : Hid (Below w.heap.size w wr) := HDB.out.trans (hB.mono HDB.out.size)
                    clear hE hB HE2 HB2 HD5 HD6 HD1 HDB hM7 hM7B hlaw hfl2
                    go_wp2_with fail
                    go_loopw [28] (fun i wx => ∃ q m : Nat, q ≤ E6.length ∧ i = .int .i64 q ∧ wx = wr.drewN m) (fun i _ => E6.length - (intOf i).toNat)
                    case atStart => exact ⟨0, 0, Nat.zero_le _, rfl, rfl⟩
                    case round =>
                      obtain ⟨q, m, hq, rfl, rfl⟩ := hrel
                      by_cases hlt6 : q < E6.length
                      · as_aux_lemma =>
                        obtain ⟨P, Q, hPQ⟩ := entry hlt6
                        obtain ⟨g6, rfl, d0, d1, d2⟩ := HX6.out.nth' hPQ
                        obtain ⟨g8, rfl, e0, e1, e2⟩ := HX8.out.nth' hPQ
                        have hqi : (q : Int) < (E6.length : Int) := by omega
                        clear hPQ
                        go_wp2_with fail
                        go_quiet (fail)
                        go_wp2_with fail
                        exact ⟨⟨q + 1, _, by omega, by go_num, rfl⟩, by simp [intOf]; omega⟩
                      · go_wp2_with fail
                        clear hlt6 hq
                        go_loop [29, 253] (fun t i => ∃ p : Nat, p ≤ j ∧ i = .int .i64 p ∧ t = .int .i64 (cntT f opt p)) (fun _ i => j - (intOf i).toNat)
                        case atStart => exact ⟨0, Nat.zero_le _, rfl, rfl⟩
                        case round =>
                          obtain ⟨p, hp, rfl, rfl⟩ := hrel
                          by_cases hpl : p < j
                          · as_aux_lemma =>
                            obtain ⟨b1, off1, rfl, hcell, _⟩ := HX1.out p hpl
                            have hcl := cntT_le f opt p
                            have e : Hid (cntT f opt (p + 1) = cntT f opt p + (if hit f opt p = true then 1 else 0)) := rfl
                            generalize cntT f opt p = N at *
                            by_cases hh : hit f opt p = true
                            · have he : ((f p).toList == opt.toList) = true := hh
                              rw [hh] at e
                              clear hh
                              go_wp2
                              go_round
                              case rel => exact ⟨p + 1, by omega, by go_num, by rw [e.out]; go_num⟩
                              case measure => simp [intOf]; omega
                            · have he : ((f p).toList == opt.toList) = false := by simpa [hit] using hh
                              have hh' : hit f opt p = false := by simpa using hh
                              rw [hh'] at e
                              clear hh hh'
                              go_wp2
                              go_round
                              case rel => exact ⟨p + 1, by omega, by go_num, by rw [e.out]; rfl⟩
                              case measure => simp [intOf]; omega
                          · have hpj : p = j := by omega
                            subst hpj
                            have hne : ((E5.length : Int) != (cntT f opt p : Int)) = false := by rw [hcnt.out]; simp
                            go_wp2_with fail
                            go_loopw [269] (fun i wx => ∃ q : Nat, q ≤ E5.length ∧ i = .int .i64 q ∧ Below (wr.drewN m).heap.size (wr.drewN m) wx) (fun i _ => E5.length - (intOf i).toNat)
                            case atStart => exact ⟨0, Nat.zero_le _, rfl, Below.refl _ _⟩
                            case round =>
                              obtain ⟨q, hq, rfl, hB⟩ := hrel
                              by_cases hlt : q < E5.length
                              · as_aux_lemma =>
                                obtain ⟨P, Q, hPQ⟩ := entry hlt
                                have hm := hmem.out _ (List.mem_of_getElem? hPQ)
                                obtain ⟨g5, rfl, d0, d1, d2⟩ := (EdsAt.below (HX5.out.drewN m) hB).nth' hPQ
                                have hQ : Q ≤ 4000000 := hm.2
                                have hQP : Q = P + opt.size := hm.1
                                have hP : P ≤ 4000000 := by omega
                                have hsub : ((Q : Int) - (P : Int) != (opt.size : Int)) = false := by rw [hQP]; simp; omega
                                clear hm hPQ hQP
                                have hB' : Hid _ := hB.alloc hB.size (.cells #[.int .i64 (P : Int), .int .i64 (Q : Int), .string wi] 33)
                                go_wp2
                                exact ⟨⟨q + 1, by omega, by go_num, hB'.out⟩, by simp [intOf]; omega⟩
                              · go_wp2
                                go_ret
                                exact ⟨rfl, (below_drewN HXB.out m).trans (hB.mono (below_drewN HXB.out m).size)⟩
end Go.Proofs.Qxb6629376a
