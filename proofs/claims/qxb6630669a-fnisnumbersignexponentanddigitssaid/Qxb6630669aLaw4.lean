import Derived.Test.Qxb6630669aTests
import Derived.Test.Qxb6630669aLaw3
namespace Go.Proofs.Qxb6630669a
open Go.RowKit

theorem bl_append (s t : ByteArray) : bl (s ++ t) = bl s ++ bl t := by
  unfold bl
  rw [ByteArray.data_append, Array.toList_append, List.map_append]
theorem bl_one (s : ByteArray) : bl ({ data := #[45] } ++ s) = 45 :: bl s := by rw [bl_append]; rfl
theorem bl_mid (s t : ByteArray) (b : UInt8) : bl (s ++ { data := #[b] } ++ t) = bl s ++ (b.toNat : Int) :: bl t := by
  rw [bl_append, bl_append, List.append_assoc]; rfl
theorem bl_cons {s : ByteArray} (h : 0 < s.size) : bl s = (s[0].toNat : Int) :: (bl s).drop 1 := by
  have hl : 0 < (bl s).length := by rw [bl_length]; exact h
  have := List.drop_eq_getElem_cons hl
  rw [List.drop_zero] at this
  rw [this, bl_get s 0 h]
  rfl
theorem bl_nil {s : ByteArray} (h : ¬ 0 < s.size) : bl s = [] := List.eq_nil_of_length_eq_zero (by rw [bl_length]; omega)

theorem n0 {s : ByteArray} (h : ¬ 0 < s.size) : accN (runFrom 0 (45 :: bl s)) = false := by rw [bl_nil h]; exact neg_nil
theorem n1 {s : ByteArray} (h : 0 < s.size) (h' : (s[0].toNat : Int) = 45) : accN (runFrom 0 (45 :: bl s)) = false := by
  rw [bl_cons h, h']; exact neg_minus _
theorem n2 {s : ByteArray} (h : 0 < s.size) (h' : (s[0].toNat : Int) ≠ 45) : accN (runFrom 0 (45 :: bl s)) = accN (runFrom 0 (bl s)) := by
  rw [bl_cons h]; exact neg_other h' _
theorem digs_all {s : ByteArray} (h : digsN (bl s) = true) : 0 < s.size ∧ (bl s).all dig = true := by
  unfold digsN at h
  rw [Bool.and_eq_true] at h
  refine ⟨?_, h.2⟩
  rw [← bl_length]
  cases hb : bl s with
  | nil => rw [hb] at h; simp at h
  | cons c l => simp
theorem d1 {s : ByteArray} (h : digsN (bl s) = true) (h1 : s.size = 1) : accN (runFrom 0 (bl s)) = true := by
  obtain ⟨hl, ha⟩ := digs_all h
  have hd : (bl s).drop 1 = [] := List.drop_of_length_le (by rw [bl_length]; omega)
  rw [bl_cons hl, hd] at ha ⊢
  by_cases hc : (s[0].toNat : Int) = 48
  · rw [hc]; exact digs_zero1
  · exact digs_other hc ha
theorem d2 {s : ByteArray} (h : digsN (bl s) = true) (hl : 0 < s.size) (hc : (s[0].toNat : Int) ≠ 48) : accN (runFrom 0 (bl s)) = true := by
  obtain ⟨_, ha⟩ := digs_all h
  rw [bl_cons hl] at ha ⊢
  exact digs_other hc ha
theorem d3 {s : ByteArray} (h : digsN (bl s) = true) (hl : 0 < s.size) (h1 : s.size ≠ 1) (hc : (s[0].toNat : Int) = 48) : accN (runFrom 0 (bl s)) = false := by
  obtain ⟨_, ha⟩ := digs_all h
  rw [bl_cons hl, hc] at ha ⊢
  refine digs_zero (fun e => ?_) (by simpa using (by simpa using ha : _ ∧ _).2)
  have := congrArg List.length e
  rw [List.length_drop, bl_length] at this
  simp at this
  omega

set_option maxHeartbeats 2000000 in
theorem walk4 (s t : ByteArray) (w : World) (hs : s.size ≤ maxLen) (ht : t.size ≤ maxLen) :
    Calls Try.prog 4 #[.string s, .string t] w fun e w' => e = .returned (.bool true) ∧ Grown w w' := by
  by_cases h1 : (s.size : Int) + (t.size : Int) ≤ 1048576
  · have g1 : decide ((1048576 : Int) < (s.size : Int)) = false := decide_eq_false (by omega)
    have g2 : decide ((1048576 : Int) < (t.size : Int)) = false := decide_eq_false (by omega)
    have g3 : decide ((1048576 : Int) < (s.size : Int) + (t.size : Int)) = false := decide_eq_false (by omega)
    go_enter Try.func4, Try.ntmps4
    go_wp2_with fail
    refine (bytes9 s t _ hs ht).mono ?_
    rintro e w1 ⟨rfl, hw⟩
    replace hw := hw.symm; subst hw
    rw [decide_eq_true h1]
    go_wp2_with fail
    refine (isNumber6 s _ (by omega)).mono ?_
    rintro e w1 ⟨rfl, hw⟩
    replace hw := hw.symm; subst hw
    generalize hW : accN (runFrom 0 (bl s)) = W
    have HW : Hid (accN (runFrom 0 (bl s)) = W) := hW
    clear hW
    go_wp2_with fail
    refine (isNumber6 _ _ (by rw [ByteArray.size_append]; show 1 + _ ≤ _; omega)).mono ?_
    rintro e w1 ⟨rfl, hw⟩
    replace hw := hw.symm; subst hw
    rw [bl_one]
    generalize hN : accN (runFrom 0 (45 :: bl s)) = N
    have HN : Hid (accN (runFrom 0 (45 :: bl s)) = N) := hN
    clear hN
    go_upto_region 9 with fail
    go_cut [43] (fun v wx => wx = w ∧ v = .bool false)
    case first =>
      as_aux_lemma =>
      by_cases hl : 0 < s.size
      · have hlb : decide ((0 : Int) < (s.size : Int)) = true := decide_eq_true (by omega)
        by_cases hc : (s[0].toNat : Int) = 45
        · have e : N = false := by rw [← HN.out]; exact n1 hl hc
          subst e
          have hcb : ((s[0].toNat : Int) != 45) = false := by simp [hc]
          go_wp2
          go_meet
          exact ⟨rfl, rfl⟩
        · have e : N = W := by rw [← HN.out, ← HW.out]; exact n2 hl hc
          subst e
          have hcb : ((s[0].toNat : Int) != 45) = true := by simp [hc]
          have hnn : (N != N) = false := by simp
          go_wp2
          go_meet
          exact ⟨rfl, rfl⟩
      · have hlb : decide ((0 : Int) < (s.size : Int)) = false := decide_eq_false (by omega)
        have e : N = false := by rw [← HN.out]; exact n0 hl
        subst e
        go_wp2
        go_meet
        exact ⟨rfl, rfl⟩
    case rest =>
    obtain ⟨hw, hv⟩ := hcut
    subst hw hv
    go_upto_region 11 with fail
    go_cut [7] (fun v wx => wx = wc ∧ v = .bool (W && !hasE (bl s) && tailN (bl t)))
    case first =>
      as_aux_lemma =>
      cases W
      · go_wp2
        go_meet
        exact ⟨rfl, rfl⟩
      · go_wp2_with fail
        refine (hasE10 s _ (by omega)).mono ?_
        rintro e w1 ⟨rfl, hw⟩
        replace hw := hw.symm; subst hw
        generalize hB : hasE (bl s) = B
        have HB : Hid (hasE (bl s) = B) := hB
        clear hB
        cases B
        · go_wp2_with fail
          refine (tail11 t _ (by omega)).mono ?_
          rintro e w1 ⟨rfl, hw⟩
          replace hw := hw.symm; subst hw
          generalize hT : tailN (bl t) = T
          have HT : Hid (tailN (bl t) = T) := hT
          clear hT
          go_wp2
          go_meet
          exact ⟨rfl, by rw [HB.out, HT.out]; simp⟩
        · go_wp2
          go_meet
          exact ⟨rfl, by rw [HB.out]; rfl⟩
    case rest =>
    obtain ⟨hw, hv⟩ := hcut
    subst hw hv
    generalize hV : (W && !hasE (bl s) && tailN (bl t)) = V
    have HV : Hid ((W && !hasE (bl s) && tailN (bl t)) = V) := hV
    clear hV
    have hVV : (V != V) = false := by simp
    go_wp2_with fail
    refine (isNumber6 _ _ (by rw [ByteArray.size_append, ByteArray.size_append]; show _ + 1 + _ ≤ _; omega)).mono ?_
    rintro e w1 ⟨rfl, hw⟩
    replace hw := hw.symm; subst hw
    rw [bl_mid, show (((101 : UInt8).toNat : Nat) : Int) = 101 from rfl, exp_law (e := 101) rfl (bl s) (bl t) (run_le _ _ (by omega)), HW.out, HV.out]
    go_wp2_with fail
    refine (isNumber6 _ _ (by rw [ByteArray.size_append, ByteArray.size_append]; show _ + 1 + _ ≤ _; omega)).mono ?_
    rintro e w1 ⟨rfl, hw⟩
    replace hw := hw.symm; subst hw
    rw [bl_mid, show (((69 : UInt8).toNat : Nat) : Int) = 69 from rfl, exp_law (e := 69) rfl (bl s) (bl t) (run_le _ _ (by omega)), HW.out, HV.out]
    go_wp2_with fail
    refine (digs12 s _ (by omega)).mono ?_
    rintro e w1 ⟨rfl, hw⟩
    replace hw := hw.symm; subst hw
    generalize hD : digsN (bl s) = D
    have HD : Hid (digsN (bl s) = D) := hD
    clear hD
    cases D
    · go_wp2
      go_ret
      exact ⟨rfl, Grown.refl _⟩
    · have hl := (digs_all HD.out).1
      by_cases h1 : s.size = 1
      · have h1b : ((s.size : Int) == 1) = true := by simp [h1]
        have e : W = true := by rw [← HW.out]; exact d1 HD.out h1
        subst e
        clear h1
        go_wp2
        go_ret
        exact ⟨rfl, Grown.refl _⟩
      · have h1b : ((s.size : Int) == 1) = false := beq_eq_false_iff_ne.mpr (by omega)
        by_cases hc : (s[0].toNat : Int) = 48
        · have hcb : ((s[0].toNat : Int) != 48) = false := by simp [hc]
          have e : W = false := by rw [← HW.out]; exact d3 HD.out hl h1 hc
          subst e
          go_wp2
          go_ret
          exact ⟨rfl, Grown.refl _⟩
        · have hcb : ((s[0].toNat : Int) != 48) = true := by simp [hc]
          have e : W = true := by rw [← HW.out]; exact d2 HD.out hl hc
          subst e
          go_wp2
          go_ret
          exact ⟨rfl, Grown.refl _⟩
  · go_enter Try.func4, Try.ntmps4
    go_wp2_with fail
    refine (bytes9 s t _ hs ht).mono ?_
    rintro e w1 ⟨rfl, hw⟩
    replace hw := hw.symm; subst hw
    rw [decide_eq_false (p := (s.size : Int) + (t.size : Int) ≤ 1048576) (by omega)]
    go_wp2
    go_ret
    exact ⟨rfl, Grown.refl _⟩
end Go.Proofs.Qxb6630669a
