import Derived.Test.Qxb6630669aPhases
namespace Go.Proofs.Qxb6630669a
open Go.RowKit

set_option maxHeartbeats 2000000 in
set_option maxRecDepth 100000 in
theorem isNumber6 (s : ByteArray) (w : World) (hs : s.size ≤ 4000000) :
    Calls Try.prog 6 #[.string s] w fun e w' => e = .returned (.bool (accN (runFrom 0 (bl s)))) ∧ w' = w := by
  go_enter Try.func6, Try.ntmps6
  go_upto_region 2 with fail
  go_cut [15] (fun v wx => wx = w ∧ v = .bool (isAt s 0 45))
  case first =>
    as_aux_lemma =>
    by_cases hi : 0 < s.size
    · have hv : Hid (isAt s 0 45 = ((s[0].toNat : Int) == 45)) := by show _ = _; unfold isAt; rw [dif_pos hi]
      go_wp2
      all_goals
        go_meet
        exact ⟨rfl, by rw [hv.out]⟩
    · have hv : Hid (isAt s 0 45 = false) := by show _ = _; unfold isAt; rw [dif_neg hi]
      go_wp2
      go_meet
      exact ⟨rfl, by rw [hv.out]⟩
  case rest =>
  obtain ⟨hw, hv⟩ := hcut
  subst hw hv
  go_upto_if 15 with fail
  go_cut [3] (fun v wx => wx = wc ∧ ∃ i : Nat, v = .int .i64 i ∧ Q1 s i)
  case first =>
    as_aux_lemma =>
    generalize hb : isAt s 0 45 = b
    have HB : Hid (isAt s 0 45 = b) := hb
    clear hb
    cases b
    · go_wp2
      go_meet
      exact ⟨rfl, 0, rfl, q1_no HB.out⟩
    · go_wp2
      go_meet
      exact ⟨rfl, 1, rfl, q1_yes HB.out⟩
  case rest =>
  obtain ⟨hw, i, hv, hQ1⟩ := hcut
  subst hw hv
  have hi : i ≤ s.size := hQ1.1
  have HQ1 : Hid (Q1 s i) := hQ1
  clear hQ1
  go_upto_block 0 with fail
  go_cut [3] (fun v wx => wx = wc ∧ ∃ i' : Nat, v = .int .i64 i' ∧ Q2 s i')
  case first =>
    as_aux_lemma =>
    go_upto_region 5 with fail
    go_cut [18] (fun v wx => wx = wc ∧ v = .bool (isAt s i 48))
    case first =>
      as_aux_lemma =>
      by_cases hl : i < s.size
      · have hv : Hid (isAt s i 48 = ((s[i].toNat : Int) == 48)) := by show _ = _; unfold isAt; rw [dif_pos hl]
        go_wp2
        all_goals
          go_meet
          exact ⟨rfl, by rw [hv.out]⟩
      · have hv : Hid (isAt s i 48 = false) := by show _ = _; unfold isAt; rw [dif_neg hl]
        go_wp2
        go_meet
        exact ⟨rfl, by rw [hv.out]⟩
    case rest =>
    obtain ⟨hw, hv⟩ := hcut
    subst hw hv
    go_upto_if 18 with fail
    generalize hb : isAt s i 48 = b
    have HB : Hid (isAt s i 48 = b) := hb
    clear hb
    cases b
    · by_cases hl : i < s.size
      · have hlb : decide ((i : Int) < (s.size : Int)) = true := decide_eq_true (by omega)
        by_cases h1 : (49 : Int) ≤ (s[i].toNat : Int)
        · have h1b : decide ((49 : Int) ≤ (s[i].toNat : Int)) = true := decide_eq_true h1
          by_cases h2 : (s[i].toNat : Int) ≤ 57
          · have h2b : decide ((s[i].toNat : Int) ≤ 57) = true := decide_eq_true h2
            have hz : Hid (isNZ s i = true) := by show _ = _; unfold isNZ; rw [dif_pos hl]; exact decide_eq_true ⟨h1, h2⟩
            go_wp2_with fail
            refine (after13 s i _ hs hi).mono ?_
            rintro e w1 ⟨j, rfl, hij, hj, hD, hS, hw⟩
            replace hw := hw.symm; subst hw
            have hq : Hid (Q2 s j) := q2_digs HQ1.out hz.out hij hj hD hS
            clear hD hS
            go_wp2
            go_meet
            exact ⟨rfl, j, rfl, hq.out⟩
          · have h2b : decide ((s[i].toNat : Int) ≤ 57) = false := decide_eq_false h2
            have hz : Hid (isNZ s i = false) := by show _ = _; unfold isNZ; rw [dif_pos hl]; exact decide_eq_false (by omega)
            have hno : Hid (accN (runFrom 0 (bl s)) = false) := q2_no HQ1.out HB.out hz.out
            go_wp2
            go_ret
            exact ⟨by rw [hno.out]; rfl, rfl⟩
        · have h1b : decide ((49 : Int) ≤ (s[i].toNat : Int)) = false := decide_eq_false h1
          have hz : Hid (isNZ s i = false) := by show _ = _; unfold isNZ; rw [dif_pos hl]; exact decide_eq_false (by omega)
          have hno : Hid (accN (runFrom 0 (bl s)) = false) := q2_no HQ1.out HB.out hz.out
          go_wp2
          go_ret
          exact ⟨by rw [hno.out]; rfl, rfl⟩
      · have hlb : decide ((i : Int) < (s.size : Int)) = false := decide_eq_false (by omega)
        have hz : Hid (isNZ s i = false) := by show _ = _; unfold isNZ; rw [dif_neg hl]
        have hno : Hid (accN (runFrom 0 (bl s)) = false) := q2_no HQ1.out HB.out hz.out
        go_wp2
        go_ret
        exact ⟨by rw [hno.out]; rfl, rfl⟩
    · have hq : Hid (Q2 s (i + 1)) := q2_zero HQ1.out HB.out
      have hl : i + 1 ≤ s.size := hq.out.1
      go_wp2
      go_meet
      exact ⟨rfl, i + 1, by go_num, hq.out⟩
  case rest =>
  obtain ⟨hw, i, hv, hQ2⟩ := hcut
  subst hw hv
  have hi : i ≤ s.size := hQ2.1
  have HQ2 : Hid (Q2 s i) := hQ2
  clear hQ2
  go_upto_region 9 with fail
  go_cut [60] (fun v wx => wx = wc ∧ v = .bool (isAt s i 46))
  case first =>
    as_aux_lemma =>
    by_cases hl : i < s.size
    · have hv : Hid (isAt s i 46 = ((s[i].toNat : Int) == 46)) := by show _ = _; unfold isAt; rw [dif_pos hl]
      go_wp2
      all_goals
        go_meet
        exact ⟨rfl, by rw [hv.out]⟩
    · have hv : Hid (isAt s i 46 = false) := by show _ = _; unfold isAt; rw [dif_neg hl]
      go_wp2
      go_meet
      exact ⟨rfl, by rw [hv.out]⟩
  case rest =>
  obtain ⟨hw, hv⟩ := hcut
  subst hw hv
  go_upto_if 60 with fail
  go_cut [3, 4] (fun v v4 wx => wx = wc ∧ ∃ i' : Nat, v = .int .i64 i' ∧ Q3 s i')
  case first =>
    as_aux_lemma =>
    generalize hb : isAt s i 46 = b
    have HB : Hid (isAt s i 46 = b) := hb
    clear hb
    cases b
    · have hq : Hid (Q3 s i) := q3_no HQ2.out HB.out
      go_wp2
      go_meet
      exact ⟨rfl, i, rfl, hq.out⟩
    · have hq := q3_four HQ2.out HB.out
      obtain ⟨hl, h4⟩ := hq
      have H4 : Hid (stT s (i + 1) = 4) := h4
      clear h4
      go_wp2_with fail
      refine (after13 s (i + 1) _ hs hl).mono ?_
      rintro e w1 ⟨j, rfl, hij, hj, hD, hS, hw⟩
      replace hw := hw.symm; subst hw
      have HD : Hid (DigsTo s (i + 1) j) := hD
      have HS : Hid (StopAt s j) := hS
      clear hD hS
      by_cases hji : j = i + 1
      · subst hji
        have hno : Hid (accN (runFrom 0 (bl s)) = false) := q3_none H4.out hl HS.out
        go_wp2
        go_ret
        exact ⟨by rw [hno.out]; rfl, rfl⟩
      · have hq : Hid (Q3 s j) := q3_digs H4.out hij hji hj HD.out HS.out
        have hjb : ((j : Int) == (i : Int) + 1) = false := by simp; omega
        go_wp2
        go_meet
        exact ⟨rfl, j, rfl, hq.out⟩
  case rest =>
  obtain ⟨hw, i, hv, hQ3⟩ := hcut
  subst hw hv
  have hi : i ≤ s.size := hQ3.1
  have HQ3 : Hid (Q3 s i) := hQ3
  clear hQ3
  go_upto_region 14 with fail
  go_cut [84] (fun v wx => wx = wc ∧ v = .bool (isE s i))
  case first =>
    as_aux_lemma =>
    by_cases hl : i < s.size
    · by_cases h1 : (s[i].toNat : Int) = 101
      · have hv : Hid (isE s i = true) := by show _ = _; unfold isE; rw [dif_pos hl]; exact decide_eq_true (.inl h1)
        have h1b : ((s[i].toNat : Int) == 101) = true := by simp [h1]
        go_wp2
        go_meet
        exact ⟨rfl, by rw [hv.out]⟩
      · have h1b : ((s[i].toNat : Int) == 101) = false := by simp [h1]
        by_cases h2 : (s[i].toNat : Int) = 69
        · have hv : Hid (isE s i = true) := by show _ = _; unfold isE; rw [dif_pos hl]; exact decide_eq_true (.inr h2)
          have h2b : ((s[i].toNat : Int) == 69) = true := by simp [h2]
          go_wp2
          go_meet
          exact ⟨rfl, by rw [hv.out]⟩
        · have hv : Hid (isE s i = false) := by show _ = _; unfold isE; rw [dif_pos hl]; exact decide_eq_false (by omega)
          have h2b : ((s[i].toNat : Int) == 69) = false := by simp [h2]
          go_wp2
          go_meet
          exact ⟨rfl, by rw [hv.out]⟩
    · have hv : Hid (isE s i = false) := by show _ = _; unfold isE; rw [dif_neg hl]
      have hlb : decide ((i : Int) < (s.size : Int)) = false := decide_eq_false (by omega)
      go_wp2
      go_meet
      exact ⟨rfl, by rw [hv.out]⟩
  case rest =>
  obtain ⟨hw, hv⟩ := hcut
  subst hw hv
  go_upto_if 84 with fail
  go_cut [3, 5] (fun v v5 wx => wx = wc ∧ ∃ i' : Nat, v = .int .i64 i' ∧ Q4 s i')
  case first =>
    as_aux_lemma =>
    generalize hb : isE s i = b
    have HB : Hid (isE s i = b) := hb
    clear hb
    cases b
    · have hq : Hid (Q4 s i) := q4_noE HQ3.out HB.out
      go_wp2
      go_meet
      exact ⟨rfl, i, rfl, hq.out⟩
    · have hq := q4_six HQ3.out HB.out
      obtain ⟨hl, h6⟩ := hq
      obtain ⟨k, hk⟩ : ∃ k, k = i + 1 := ⟨_, rfl⟩
      rw [← hk] at hl h6
      have H6 : Hid (stT s k = 6) := h6
      clear h6
      go_upto_region 16 with fail
      have hki : (i : Int) + 1 = (k : Int) := by omega
      simp only [hki]
      clear hki hk
      go_cut [102] (fun v wx => wx = wc ∧ v = .bool (isSg s k))
      case first =>
        as_aux_lemma =>
        by_cases hl : k < s.size
        · by_cases h1 : (s[k].toNat : Int) = 43
          · have hv : Hid (isSg s k = true) := by show _ = _; unfold isSg; rw [dif_pos hl]; exact decide_eq_true (.inl h1)
            have h1b : ((s[k].toNat : Int) == 43) = true := by simp [h1]
            go_wp2
            go_meet
            exact ⟨rfl, by rw [hv.out]⟩
          · have h1b : ((s[k].toNat : Int) == 43) = false := by simp [h1]
            by_cases h2 : (s[k].toNat : Int) = 45
            · have hv : Hid (isSg s k = true) := by show _ = _; unfold isSg; rw [dif_pos hl]; exact decide_eq_true (.inr h2)
              have h2b : ((s[k].toNat : Int) == 45) = true := by simp [h2]
              go_wp2
              go_meet
              exact ⟨rfl, by rw [hv.out]⟩
            · have hv : Hid (isSg s k = false) := by show _ = _; unfold isSg; rw [dif_pos hl]; exact decide_eq_false (by omega)
              have h2b : ((s[k].toNat : Int) == 45) = false := by simp [h2]
              go_wp2
              go_meet
              exact ⟨rfl, by rw [hv.out]⟩
        · have hv : Hid (isSg s k = false) := by show _ = _; unfold isSg; rw [dif_neg hl]
          have hlb : decide ((k : Int) < (s.size : Int)) = false := decide_eq_false (by omega)
          go_wp2
          go_meet
          exact ⟨rfl, by rw [hv.out]⟩
      case rest =>
      obtain ⟨hw, hv⟩ := hcut
      subst hw hv
      go_upto_if 102 with fail
      go_cut [3] (fun v wx => wx = wc ∧ ∃ i' : Nat, v = .int .i64 i' ∧ Q5 s i')
      case first =>
        as_aux_lemma =>
        generalize hb : isSg s k = b
        have HB : Hid (isSg s k = b) := hb
        clear hb
        cases b
        · have hq : Hid (Q5 s k) := q5_no hl H6.out HB.out
          go_wp2
          go_meet
          exact ⟨rfl, k, rfl, hq.out⟩
        · have hq : Hid (Q5 s (k + 1)) := q5_yes H6.out HB.out
          go_wp2
          go_meet
          exact ⟨rfl, k + 1, by go_num, hq.out⟩
      case rest =>
      obtain ⟨hw, k, hv, hQ5⟩ := hcut
      subst hw hv
      have hk : k ≤ s.size := hQ5.1
      have HQ5 : Hid (Q5 s k) := hQ5
      clear hQ5
      go_wp2_with fail
      refine (after13 s k _ hs hk).mono ?_
      rintro e w1 ⟨j, rfl, hij, hj, hD, hS, hw⟩
      replace hw := hw.symm; subst hw
      have HD : Hid (DigsTo s k j) := hD
      have HS : Hid (StopAt s j) := hS
      clear hD hS
      by_cases hji : j = k
      · subst hji
        have hno : Hid (accN (runFrom 0 (bl s)) = false) := q4_none HQ5.out HS.out
        go_wp2
        go_ret
        exact ⟨by rw [hno.out]; rfl, rfl⟩
      · have hq : Hid (Q4 s j) := q4_digs HQ5.out hij hji hj HD.out HS.out
        have hjb : ((j : Int) == (k : Int)) = false := by simp; omega
        go_wp2
        go_meet
        exact ⟨rfl, j, rfl, hq.out⟩
  case rest =>
  obtain ⟨hw, i, hv, hQ4⟩ := hcut
  subst hw hv
  have hi : i ≤ s.size := hQ4.1
  have HE : Hid (((i : Int) == (s.size : Int)) = accN (runFrom 0 (bl s))) := q4_end hQ4
  clear hQ4
  go_wp2
  all_goals
    go_ret
    exact ⟨by rw [← HE.out]; rfl, rfl⟩
end Go.Proofs.Qxb6630669a
