import Derived.Test.Qxb6629376aClone
import Derived.Lib.Strings
namespace Go.Proofs.Qxb6629376a
open Go.RowKit

theorem cut_data (s : ByteArray) (p q : Nat) : (s.extract p q).data.toList = (s.data.toList.take q).drop p := by
  rw [Lib.extract_data, List.drop_take]

set_option maxHeartbeats 2000000 in
theorem apply9 (nm : ByteArray) (f : Nat → ByteArray) (n : Nat) (opt wi s : ByteArray) (a5 : Option Addr) (cap5 base5 : Nat) (w : World) (hs : s.data.toList = textT nm f n)
    (hE : EdsAt w base5 (.slice a5 (edT (nm.size + 1) f opt n).length cap5) wi (edT (nm.size + 1) f opt n)) (hb : (textT nm f n).length + n * wi.size ≤ 90000000) (hn : n ≤ 4000000) :
    Calls Try.prog 9 #[.string s, .slice a5 (edT (nm.size + 1) f opt n).length cap5] w fun e w' => e = .returned (.tuple #[.string ⟨(textT nm (rwT f opt wi) n).toArray⟩, .bool true]) ∧ Below w.heap.size w w' := by
  have HE : Hid (EdsAt w base5 (.slice a5 (edT (nm.size + 1) f opt n).length cap5) wi (edT (nm.size + 1) f opt n)) := hE
  have hsz : s.size ≤ 90000000 := by have : s.size = s.data.toList.length := by simp
                                     rw [this, hs]; omega
  have hlen := edT_len (nm.size + 1) f opt n
  have hpos : Hid (∀ (q : Nat) (p : Nat × Nat), (edT (nm.size + 1) f opt n)[q]? = some p → (apT s.data.toList wi.data.toList ((edT (nm.size + 1) f opt n).take q)).1 ≤ p.1) := fun q p h => by
    rw [hs]; exact apT_pos nm f opt wi n (textT nm f n) ⟨[], by simp⟩ q p h
  have hout : Hid (∀ q, q ≤ (edT (nm.size + 1) f opt n).length → (apT s.data.toList wi.data.toList ((edT (nm.size + 1) f opt n).take q)).2.length ≤ 90000000 ∧ (apT s.data.toList wi.data.toList ((edT (nm.size + 1) f opt n).take q)).1 ≤ s.size) := fun q hq => by
    have h1 := apT_out nm f opt wi n q hq
    have h2 : q * wi.size ≤ n * wi.size := Nat.mul_le_mul_right _ (by omega)
    have h3 : s.size = (textT nm f n).length := by rw [← hs]; simp
    rw [hs]
    omega
  have hmem : Hid (∀ p ∈ edT (nm.size + 1) f opt n, p.1 ≤ p.2 ∧ p.2 ≤ s.size) := fun p hp => by
    have h1 := edT_mem hp
    have h3 : s.size = (textT nm f n).length := by rw [← hs]; simp
    rw [textT_len'] at h1
    omega
  have hlaw : Hid ((apT s.data.toList wi.data.toList (edT (nm.size + 1) f opt n)).2 ++ s.data.toList.drop (apT s.data.toList wi.data.toList (edT (nm.size + 1) f opt n)).1 = textT nm (rwT f opt wi) n) := by
    show _ = _
    rw [hs]; exact edits_law nm f opt wi n
  have hwi : wi.size ≤ 90000000 ∨ n = 0 := by
    rcases Nat.eq_zero_or_pos n with e | e
    · exact .inr e
    · have : 1 * wi.size ≤ n * wi.size := Nat.mul_le_mul_right _ e
      omega
  have HWI : Hid (wi.size ≤ 90000000 ∨ n = 0) := hwi
  clear hE hb hwi
  generalize edT (nm.size + 1) f opt n = E at HE hpos hout hmem hlaw hlen ⊢
  generalize textT nm (rwT f opt wi) n = R at hlaw ⊢
  have hmk := make36 s.size (by omega)
  have hM : Hid (BytesAt (w.alloc (.cells (madeCells #[.int .u8 0] s.size) 5)) w.heap.size (.slice (some ⟨w.heap.size, 0, none⟩) 0 s.size) []) := BytesAt.made w s.size w.heap.size (by omega) (Nat.le_refl _)
  have hMB : Hid (Below w.heap.size w (w.alloc (.cells (madeCells #[.int .u8 0] s.size) 5))) := (Below.refl _ _).alloc (Nat.le_refl _) _
  obtain ⟨i0, hi, hz0, hz1, hz2⟩ := info_parts Try.info5
  clear hs
  go_enter Try.func9, Try.ntmps9
  go_wp2
  clear hmk
  go_loopw [6, 7, 15] (fun v p i wr => ∃ q : Nat, q ≤ E.length ∧ i = .int .i64 q ∧ p = .int .i64 ((apT s.data.toList wi.data.toList (E.take q)).1 : Nat) ∧ BytesAt wr w.heap.size v (apT s.data.toList wi.data.toList (E.take q)).2 ∧ Below w.heap.size w wr) (fun _ _ i _ => E.length - (intOf i).toNat)
  case atStart => exact ⟨0, Nat.zero_le _, rfl, rfl, hM.out, hMB.out⟩
  case round =>
    obtain ⟨q, hq, rfl, rfl, hO, hW⟩ := hrel
    by_cases hlt : q < E.length
    · as_aux_lemma =>
      have hq1 : q + 1 ≤ E.length := hlt
      obtain ⟨P, Q, hPQ⟩ := entry hlt
      obtain ⟨g5, rfl, d0, d1, d2⟩ := (HE.out.below hW).nth' hPQ
      have hp1 := hpos.out q _ hPQ
      have hm1 := hmem.out _ (List.mem_of_getElem? hPQ)
      have ho1 := hout.out q (by omega)
      have ho2 := hout.out (q + 1) (by omega)
      have hst : Hid (apT s.data.toList wi.data.toList (E.take (q + 1)) = stepA s.data.toList wi.data.toList (apT s.data.toList wi.data.toList (E.take q)) (P, Q)) := by
        show _ = _
        obtain ⟨hl, he⟩ := List.getElem?_eq_some_iff.1 hPQ
        rw [List.take_succ_eq_append_getElem hl, he, apT_snoc]
      rw [hst.out] at ho2
      unfold BytesAt at hO
      generalize apT s.data.toList wi.data.toList (E.take q) = st at hp1 ho1 ho2 hst hO ⊢
      obtain ⟨pos, out⟩ := st
      simp only [stepA, List.length_append] at ho2
      simp only at hp1 hm1 ho1 hO
      have hw2 : wi.size ≤ 90000000 := by have h : wi.data.toList.length = wi.size := by simp
                                          omega
      have t1 : decide ((P : Int) < (pos : Int)) = false := decide_eq_false (by omega)
      have t2 : decide ((Q : Int) < (P : Int)) = false := decide_eq_false (by omega)
      have t3 : decide ((s.size : Int) < (Q : Int)) = false := decide_eq_false (by omega)
      have hpP : pos ≤ P := hp1
      have hPs : P ≤ s.size := by omega
      have hQs : Q ≤ s.size := by omega
      have hPQ2 : P ≤ Q := hm1.1
      have hol : out.length ≤ 90000000 := ho1.1
      have hex : (s.extract pos P).size ≤ 90000000 := by simp; omega
      clear hPQ hp1 hm1 ho1 ho2
      go_wp2_with (at_builtin; refine wpList_append_src _ rfl (.tmp 37) (.tmp 42) 36 9 rfl w.heap.size 5 i0 _ 1 1 Try.underlying36 hi hz0 hz1 hz2 rfl _ _ _ rfl (hO.alloc _) _ (s.extract pos P).size (byteCells (s.extract pos P)) rfl (Src.ofString _ Try.underlying9 _) ?_ ?_ ?_ ?_)
      · unfold maxLen; omega
      · omega
      · have := hW.size; simp; omega
      · intro v1 w2 hO2 hg2
        have hW2 : Below w.heap.size w w2 := (hW.alloc hW.size _).grown hg2 (by have := hW.size; simp; omega) (fun kk hkk => (hO.lt kk hkk).1)
        have hP2 : BytesAt w2 w.heap.size v1 (out ++ (s.extract pos P).data.toList) := BytesAt.add (k := P - pos) (by simp; omega) rfl hO2
        have hne2 : some wr.heap.size ≠ u6.ownBlock := fun e => by have := (hO.lt _ e.symm).2; omega
        have zb : Hid (w2.heap[wr.heap.size]? = some (.cells #[.int .i64 (P : Int), .int .i64 (Q : Int), .string wi] 33)) := (hg2.block wr.heap.size (by simp) hne2).trans (MapKept.heap_alloc wr _).1
        have x1 : w2.cell? ⟨wr.heap.size, 1, none⟩ = some (.int .i64 (Q : Int)) := by simp [World.cell?, zb.out]
        have x2 : w2.cell? ⟨wr.heap.size, 2, none⟩ = some (.string wi) := by simp [World.cell?, zb.out]
        have hl2 : (out ++ (s.extract pos P).data.toList).length ≤ 180000000 := by simp; omega
        generalize hout2 : out ++ (s.extract pos P).data.toList = out2 at hP2 hl2
        have HO2 : Hid (out ++ (s.extract pos P).data.toList = out2) := hout2
        clear hout2
        unfold BytesAt at hP2
        clear hO2 hg2 d0 d1 d2
        go_wp2_with (at_builtin; refine wpList_append_src _ rfl (.tmp 44) (.tmp 46) 36 9 rfl w.heap.size 5 i0 _ 1 1 Try.underlying36 hi hz0 hz1 hz2 rfl _ _ _ rfl hP2 _ wi.size (byteCells wi) rfl (Src.ofString _ Try.underlying9 _) ?_ ?_ ?_ ?_)
        · unfold maxLen; omega
        · omega
        · exact hW2.size
        · intro v3 w3 hO3 hg3
          have hW3 : Hid (Below w.heap.size w w3) := hW2.grown hg3 hW2.size (fun kk hkk => (hP2.lt kk hkk).1)
          have hP3 : Hid (BytesAt w3 w.heap.size v3 (out2 ++ wi.data.toList)) := BytesAt.add (k := wi.size) (by simp) rfl hO3
          have y1 : w3.cell? ⟨wr.heap.size, 1, none⟩ = some (.int .i64 (Q : Int)) := World.grownBy.cell hg3 x1 (fun e => by
            rcases hP2.2 with ⟨h, _⟩ | ⟨g, cap, cur, h, h1, h2, _⟩
            · rw [h] at e; cases e
            · rw [h] at e
              simp [Value.ownBlock] at e
              subst e
              rw [zb.out] at h2
              simp at h2)
          clear hO3 hg3 hP2 x1 x2 zb hne2 hW2 hW hO
          go_wp2
          exact ⟨⟨q + 1, hq1, by go_num, by rw [hst.out]; rfl, by rw [hst.out]; show BytesAt _ _ _ (out ++ (s.data.toList.take P).drop pos ++ wi.data.toList); rw [← cut_data, HO2.out]; exact hP3.out, hW3.out⟩, by simp [intOf]; omega⟩
    · as_aux_lemma =>
      have hqe : q = E.length := by omega
      subst hqe
      rw [List.take_length] at hO ⊢
      have ho1 := hout.out E.length (Nat.le_refl _)
      rw [List.take_length] at ho1
      unfold BytesAt at hO
      generalize apT s.data.toList wi.data.toList E = st at ho1 hlaw hO ⊢
      obtain ⟨pos, out⟩ := st
      simp only at ho1 hO
      have hps : pos ≤ s.size := ho1.2
      have hol : out.length ≤ 90000000 := ho1.1
      have hex : (s.extract pos s.size).size ≤ 90000000 := by simp; omega
      clear ho1
      go_wp2_with (at_builtin; refine wpList_append_src _ rfl (.tmp 51) (.tmp 54) 36 9 rfl w.heap.size 5 i0 _ 1 1 Try.underlying36 hi hz0 hz1 hz2 rfl _ _ _ rfl hO _ (s.extract pos s.size).size (byteCells (s.extract pos s.size)) rfl (Src.ofString _ Try.underlying9 _) ?_ ?_ ?_ ?_)
      · unfold maxLen; omega
      · omega
      · exact hW.size
      · intro v1 w2 hO2 hg2
        have hW2 : Hid (Below w.heap.size w w2) := hW.grown hg2 hW.size (fun kk hkk => (hO.lt kk hkk).1)
        have hP2 : BytesAt w2 w.heap.size v1 R := by
          have e : R = out ++ (s.extract pos s.size).data.toList := by
            rw [← hlaw.out, cut_data]
            have : s.data.toList.take s.size = s.data.toList := List.take_of_length_le (by simp)
            rw [this]
          rw [e]
          exact BytesAt.add (k := s.size - pos) (by simp) rfl hO2
        have hcv := hP2.text
        clear hO2 hg2 hO hW hP2
        go_wp2
        go_ret2
        exact ⟨rfl, hW2.out⟩
end Go.Proofs.Qxb6629376a
