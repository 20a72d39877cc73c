import Derived.Test.Qxb6629376aApply
namespace Go.Proofs.Qxb6629376a
open Go.RowKit

/-- After k rounds: the first k options rewritten. -/
def mixTo (f : Nat → ByteArray) (opt wi : ByteArray) (k : Nat) : Nat → ByteArray := fun j => if j < k then rwT f opt wi j else f j

theorem quo_fact (n wi : Nat) (h : 0 < n) (hh : ¬ (16777216 / (n : Int) < (wi : Int))) : n * wi ≤ 16777216 := by
  have h1 : (wi : Int) ≤ 16777216 / (n : Int) := by omega
  have h2 : (wi : Int) * (n : Int) ≤ 16777216 := by
    have := Int.mul_le_mul_of_nonneg_right h1 (show (0 : Int) ≤ (n : Int) by omega)
    have h3 := Int.ediv_mul_le 16777216 (show (n : Int) ≠ 0 by omega)
    omega
  have h4 : ((n * wi : Nat) : Int) ≤ 16777216 := by
    rw [Int.natCast_mul, Int.mul_comm]; exact h2
  omega

set_option maxHeartbeats 2000000 in
set_option maxRecDepth 100000 in
theorem law3 (nm : ByteArray) (a : Option Addr) (n c : Nat) (opt wi : ByteArray) (f : Nat → ByteArray) (w : World) (hc : n ≤ c) (h1 : StrsAt w a n f) (z0 : nm.size ≤ maxLen) (z2 : opt.size ≤ maxLen) (z3 : wi.size ≤ maxLen) :
    Calls Try.prog 3 #[.string nm, .slice a n c, .string opt, .string wi] w fun e w' => e = .returned (.bool true) ∧ Below w.heap.size w w' := by
  have H1 : Hid (StrsAt w a n f) := h1
  have Z0 : Hid (nm.size ≤ maxLen ∧ opt.size ≤ maxLen ∧ wi.size ≤ maxLen) := ⟨z0, z2, z3⟩
  clear h1 z0 z2 z3
  go_enter Try.func3, Try.ntmps3
  go_wp2_with fail
  refine (bytes5 nm a n c opt wi f w H1.out Z0.out.1 Z0.out.2.1 Z0.out.2.2).mono ?_
  rintro e w1 ⟨⟨b, rfl, hq⟩, hw⟩
  replace hw := hw.symm; subst hw
  cases b
  · go_wp2
    go_ret
    exact ⟨rfl, Below.refl _ _⟩
  have hS : Hid (SizesLe n f) := hq rfl
  clear hq
  by_cases g_nm : (1048576 : Int) < (nm.size : Int)
  · as_aux_lemma =>
    go_wp2
    go_ret
    exact ⟨rfl, Below.refl _ _⟩
  have g_nmb : decide ((1048576 : Int) < (nm.size : Int)) = false := decide_eq_false g_nm
  by_cases g_n : (1048576 : Int) < (n : Int)
  · as_aux_lemma =>
    go_wp2
    go_ret
    exact ⟨rfl, Below.refl _ _⟩
  have g_nb : decide ((1048576 : Int) < (n : Int)) = false := decide_eq_false g_n
  by_cases g_opt : (1048576 : Int) < (opt.size : Int)
  · as_aux_lemma =>
    go_wp2
    go_ret
    exact ⟨rfl, Below.refl _ _⟩
  have g_optb : decide ((1048576 : Int) < (opt.size : Int)) = false := decide_eq_false g_opt
  by_cases g_wi : (1048576 : Int) < (wi.size : Int)
  · as_aux_lemma =>
    go_wp2
    go_ret
    exact ⟨rfl, Below.refl _ _⟩
  have g_wib : decide ((1048576 : Int) < (wi.size : Int)) = false := decide_eq_false g_wi
  have s0 : decide ((1048576 : Int) < (nm.size : Int) + 16 * (n : Int) + (opt.size : Int) + (wi.size : Int)) = false ∨ (1048576 : Int) < (nm.size : Int) + 16 * (n : Int) + (opt.size : Int) + (wi.size : Int) := by
    by_cases h : (1048576 : Int) < (nm.size : Int) + 16 * (n : Int) + (opt.size : Int) + (wi.size : Int)
    · exact .inr h
    · exact .inl (decide_eq_false h)
  rcases s0 with s0 | s0
  rotate_left
  · as_aux_lemma =>
    go_wp2
    go_ret
    exact ⟨rfl, Below.refl _ _⟩
  go_wp2_with fail
  go_loop [9, 63] (fun z i => ∃ (j : Nat) (t : Int), j ≤ n ∧ i = .int .i64 j ∧ z = .int .i64 t ∧ (offT 0 f j : Int) + nm.size ≤ t + j ∧ t ≤ 1048576 ∧ 0 ≤ t) (fun _ i => n - (intOf i).toNat)
  case atStart => exact ⟨0, _, Nat.zero_le _, rfl, rfl, by simp [offT]; omega, by have := of_decide_eq_false s0; omega, by omega⟩
  case round =>
    obtain ⟨j, t, hj, rfl, rfl, ht, ht1, ht2⟩ := hrel
    by_cases hlt : j < n
    · as_aux_lemma =>
      obtain ⟨b, off, rfl, hcell, _⟩ := H1.out j hlt
      have hsz := hS.out j hlt
      have e : Hid (offT 0 f (j + 1) = offT 0 f j + (f j).size + 1) := rfl
      generalize offT 0 f j = q at *
      go_wp2
      · go_ret
        exact ⟨rfl, Below.refl _ _⟩
      · go_round
        case rel => exact ⟨j + 1, _, by omega, by go_num, rfl, by rw [e.out]; omega, by omega, by omega⟩
        case measure => simp [intOf]; omega
    · have hjn : j = n := by omega
      subst hjn
      have hoff : offT (nm.size + 1) f j ≤ 3000000 := by
        have e0 : ∀ s, offT s f j = offT 0 f j + s := by
          intro s
          induction s with
          | zero => rfl
          | succ s ih => rw [offT_base, ih]; omega
        rw [e0]; omega
      clear ht ht1 ht2 hj hlt
      go_upto_region 15 with fail
      go_cut [84] (fun v wx => wx = w ∧ (v = .bool true ∨ (v = .bool false ∧ j * wi.size ≤ 16777216)))
      case first =>
        as_aux_lemma =>
        by_cases hj0 : (0 : Int) < (j : Int)
        · have hj0b : decide ((0 : Int) < (j : Int)) = true := decide_eq_true hj0
          by_cases hh : 16777216 / (j : Int) < (wi.size : Int)
          · have hhb : decide (16777216 / (j : Int) < (wi.size : Int)) = true := decide_eq_true hh
            go_wp2
            go_meet
            exact ⟨rfl, .inl rfl⟩
          · have hp : Hid (j * wi.size ≤ 16777216) := quo_fact j wi.size (by omega) hh
            have hhb : decide (16777216 / (j : Int) < (wi.size : Int)) = false := decide_eq_false hh
            go_wp2
            go_meet
            exact ⟨rfl, .inr ⟨rfl, hp.out⟩⟩
        · have hj0b : decide ((0 : Int) < (j : Int)) = false := decide_eq_false hj0
          have hp : Hid (j * wi.size ≤ 16777216) := by
            have : j = 0 := by omega
            show _ ≤ _
            rw [this]; simp
          go_wp2
          go_meet
          exact ⟨rfl, .inr ⟨rfl, hp.out⟩⟩
      case rest =>
      obtain ⟨hwc, hv⟩ := hcut
      subst hwc
      rcases hv with hv | ⟨hv, hp⟩
      · subst hv
        as_aux_lemma =>
        go_wp2
        go_ret
        exact ⟨rfl, Below.refl _ _⟩
      subst hv
      have HP : Hid (j * wi.size ≤ 16777216) := hp
      clear hp
      go_wp2_with fail
      have yB : Below wc.heap.size wc (wc.alloc (.cells #[.string nm, .slice a j c] 25)) := (Below.refl _ _).alloc (Nat.le_refl _) _
      generalize wc.alloc (.cells #[.string nm, .slice a j c] 25) = wA at yB ⊢
      have HA1 : Hid (StrsAt wA a j f) := H1.out.below yB
      have HAB : Hid (Below wc.heap.size wc wA) := yB
      clear yB
      refine (rewrite6 nm a j c opt wi f wA hc HA1.out (by omega)).mono ?_
      rintro e w5 ⟨v5, rfl, hE5, hB5⟩
      obtain ⟨a5, cap5, hv5⟩ := hE5.len
      subst hv5
      have HE5 : Hid (EdsAt w5 wA.heap.size (.slice a5 (edT (nm.size + 1) f opt j).length cap5) wi (edT (nm.size + 1) f opt j)) := hE5
      have HB1 : Hid (StrsAt w5 a j f) := HA1.out.below hB5
      have HBB : Hid (Below wc.heap.size wc w5) := HAB.out.trans (hB5.mono HAB.out.size)
      clear hE5 hB5 HA1 HAB
      go_wp2_with fail
      refine (text7 nm a j c f w5 HB1.out (by omega)).mono ?_
      rintro e w6 ⟨rfl, hB6⟩
      have HC5 : Hid (EdsAt w6 wA.heap.size (.slice a5 (edT (nm.size + 1) f opt j).length cap5) wi (edT (nm.size + 1) f opt j)) := HE5.out.below hB6
      have HC1 : Hid (StrsAt w6 a j f) := HB1.out.below hB6
      have HCB : Hid (Below wc.heap.size wc w6) := HBB.out.trans (hB6.mono HBB.out.size)
      clear hB6 HE5 HB1 HBB
      have htx : Hid (({ data := (textT nm f j).toArray } : ByteArray).data.toList = textT nm f j) := by show _ = _; simp
      generalize ({ data := (textT nm f j).toArray } : ByteArray) = tx at htx ⊢
      go_wp2_with fail
      refine (clone8 a j c f w6 HC1.out (by omega)).mono ?_
      rintro e w7 ⟨a7, c7, rfl, hR7, hB7⟩
      have HD5 : Hid (EdsAt w7 wA.heap.size (.slice a5 (edT (nm.size + 1) f opt j).length cap5) wi (edT (nm.size + 1) f opt j)) := HC5.out.below hB7
      have HDB : Hid (Below wc.heap.size wc w7) := HCB.out.trans (hB7.mono HCB.out.size)
      have HR7 : Hid (RowOr w7 w6.heap.size a7 j (mixTo f opt wi 0)) := by
        show RowOr _ _ _ _ _
        rcases hR7 with h | ⟨g, e, hg, r⟩
        · exact .inl h
        · exact .inr ⟨g, e, hg, r.congr (fun q _ => by simp [mixTo])⟩
      have HM6 : Hid (EdsAt w6 wA.heap.size (.slice a5 (edT (nm.size + 1) f opt j).length cap5) wi (edT (nm.size + 1) f opt j)) := HC5.out
      have HB67 : Hid (Below w6.heap.size w6 w7) := hB7
      clear hB7 hR7 HC5 HC1 HD5
      go_wp2_with fail
      go_loopw [16, 17] (fun t i wr => ∃ k : Nat, k ≤ j ∧ i = .int .i64 k ∧ t = .int .i64 (cntT f opt k) ∧ RowOr wr w6.heap.size a7 j (mixTo f opt wi k) ∧ Below w6.heap.size w6 wr) (fun _ i _ => j - (intOf i).toNat)
      case atStart => exact ⟨0, Nat.zero_le _, rfl, rfl, HR7.out, HB67.out⟩
      case round =>
        obtain ⟨k, hk, rfl, rfl, hR, hB⟩ := hrel
        by_cases hlt : k < j
        · as_aux_lemma =>
          rcases hR with h0 | ⟨g, rfl, hg, r⟩
          · omega
          have c1 := r.cell hlt
          have e1 : mixTo f opt wi k k = f k := by simp [mixTo]
          rw [e1] at c1
          have c2 := r.free k
          have hcl := cntT_le f opt k
          have e : Hid (cntT f opt (k + 1) = cntT f opt k + (if hit f opt k = true then 1 else 0)) := rfl
          generalize cntT f opt k = N at *
          by_cases hh : hit f opt k = true
          · have he : ((f k).toList == opt.toList) = true := hh
            have er : rwT f opt wi k = wi := by unfold rwT; rw [if_pos hh]
            have hR' : Hid (RowOr (wr.setCell ⟨g, k, none⟩ (.string wi)) w6.heap.size (some ⟨g, 0, none⟩) j (mixTo f opt wi (k + 1))) := .inr ⟨g, rfl, hg, r.set hlt (by unfold mixTo; rw [if_pos (by omega), er]) (fun q _ hqk => by
              unfold mixTo
              by_cases hq : q < k
              · rw [if_pos hq, if_pos (by omega)]
              · rw [if_neg hq, if_neg (by omega)])⟩
            have hB' : Hid (Below w6.heap.size w6 (wr.setCell ⟨g, k, none⟩ (.string wi))) := hB.setCell (p := ⟨g, k, none⟩) hg _
            rw [hh] at e
            clear hh r hB er e1
            go_wp2
            exact ⟨⟨k + 1, by omega, by go_num, by rw [e.out]; go_num, hR'.out, hB'.out⟩, by simp [intOf]; omega⟩
          · have he : ((f k).toList == opt.toList) = false := by simpa [hit] using hh
            have er : rwT f opt wi k = f k := by unfold rwT; rw [if_neg hh]
            have hR' : Hid (RowOr wr w6.heap.size (some ⟨g, 0, none⟩) j (mixTo f opt wi (k + 1))) := .inr ⟨g, rfl, hg, r.congr (fun q _ => by
              unfold mixTo
              by_cases hq : q < k
              · rw [if_pos hq, if_pos (by omega)]
              · by_cases hq2 : q = k
                · subst hq2
                  rw [if_pos (by omega), if_neg hq, er]
                · rw [if_neg hq, if_neg (by omega)])⟩
            have hh' : hit f opt k = false := by simpa using hh
            rw [hh'] at e
            clear hh hh' r er e1
            go_wp2
            exact ⟨⟨k + 1, by omega, by go_num, by rw [e.out]; rfl, hR'.out, hB⟩, by simp [intOf]; omega⟩
        · have hkj : k = j := by omega
          subst hkj
          have HS : Hid (StrsAt wr a7 k (rwT f opt wi)) := by
            show StrsAt _ _ _ _
            have h2 := hR.strs (fun q hq => by
              unfold mixTo
              rw [if_pos hq]
              unfold rwT
              split
              · exact Z0.out.2.2
              · exact (H1.out q hq).elim fun _ h => h.elim fun _ h => h.2.2)
            intro q hq
            have := h2 q hq
            unfold mixTo at this
            rwa [if_pos hq] at this
          have HE : Hid (EdsAt wr wA.heap.size (.slice a5 (edT (nm.size + 1) f opt k).length cap5) wi (edT (nm.size + 1) f opt k)) := HM6.out.below hB
          have HXB : Hid (Below wc.heap.size wc wr) := HCB.out.trans (hB.mono HCB.out.size)
          clear hR hB HR7 HB67 HM6 HCB HDB
          go_wp2_with fail
          have hrw := offT_rw (nm.size + 1) f opt wi k
          have hrw2 : k * wi.size ≤ 16777216 := HP.out
          refine (text7 nm a7 k c7 (rwT f opt wi) wr HS.out (by omega)).mono ?_
          rintro e w8 ⟨rfl, hB8⟩
          have HE8 : Hid (EdsAt w8 wA.heap.size (.slice a5 (edT (nm.size + 1) f opt k).length cap5) wi (edT (nm.size + 1) f opt k)) := HE.out.below hB8
          have HXB8 : Hid (Below wc.heap.size wc w8) := HXB.out.trans (hB8.mono HXB.out.size)
          clear hB8 HE HXB HS hrw
          go_wp2_with fail
          have htl := textT_len' nm f k
          refine (apply9 nm f k opt wi tx a5 cap5 wA.heap.size w8 htx.out HE8.out (by omega) (by omega)).mono ?_
          rintro e w9 ⟨rfl, hB9⟩
          have HE9 : Hid (EdsAt w9 wA.heap.size (.slice a5 (edT (nm.size + 1) f opt k).length cap5) wi (edT (nm.size + 1) f opt k)) := HE8.out.below hB9
          have HXB9 : Hid (Below wc.heap.size wc w9) := HXB8.out.trans (hB9.mono HXB8.out.size)
          have hlen := edT_len (nm.size + 1) f opt k
          have hcut : Hid (∀ p ∈ edT (nm.size + 1) f opt k, (tx.data.toList.take p.2).drop p.1 = opt.data.toList ∧ p.1 ≤ p.2 ∧ p.2 ≤ tx.size) := fun p hp => by
            have h1 := edT_cut nm f opt k [] p hp
            rw [List.append_nil] at h1
            have h2 := edT_mem hp
            have h3 : tx.size = (textT nm f k).length := by rw [← htx.out]; simp
            rw [htx.out]
            rw [htl] at h2
            exact ⟨h1, by omega, by omega⟩
          have hne : (((edT (nm.size + 1) f opt k).length : Int) != (cntT f opt k : Int)) = false := by rw [edT_cnt]; simp
          have htxs : tx.size ≤ 3000000 := by
            have h3 : tx.size = (textT nm f k).length := by rw [← htx.out]; simp
            omega
          clear hB9 HE8 HXB8 htl htx hrw2
          generalize textT nm (rwT f opt wi) k = R
          generalize edT (nm.size + 1) f opt k = E at HE9 hlen hcut hne ⊢
          generalize ({ data := R.toArray } : ByteArray) = rx
          go_wp2_with fail
          go_loopw [137] (fun i wr => ∃ q : Nat, q ≤ E.length ∧ i = .int .i64 q ∧ Below w9.heap.size w9 wr) (fun i _ => E.length - (intOf i).toNat)
          case atStart => exact ⟨0, Nat.zero_le _, rfl, Below.refl _ _⟩
          case round =>
            obtain ⟨q, hq, rfl, hB⟩ := hrel
            by_cases hlt : q < E.length
            · as_aux_lemma =>
              have hq1 : q + 1 ≤ E.length := hlt
              obtain ⟨P, Q, hPQ⟩ := entry hlt
              have hm := hcut.out _ (List.mem_of_getElem? hPQ)
              obtain ⟨g5, rfl, d0, d1, d2⟩ := (HE9.out.below hB).nth' hPQ
              simp only at hm
              have hPQ2 : P ≤ Q := hm.2.1
              have hQs : Q ≤ tx.size := hm.2.2
              have hx : tx.extract P Q = opt := Go.WideShapes.bytes_inj (by rw [cut_data]; exact hm.1)
              have hB' : Hid _ := hB.alloc hB.size (.cells #[.int .i64 (P : Int), .int .i64 (Q : Int), .string wi] 33)
              clear hm hPQ
              go_wp2
              exact ⟨⟨q + 1, hq1, by go_num, hB'.out⟩, by simp [intOf]; omega⟩
            · as_aux_lemma =>
              go_wp2
              go_ret
              exact ⟨rfl, HXB9.out.trans (hB.mono HXB9.out.size)⟩
end Go.Proofs.Qxb6629376a
