import Derived.Test.Qxb6630713aBase
namespace Go.Proofs.Qxb6630713a
open Go.RowKit

theorem grant_whole (mh held red : Int) : grant mh red held red = red := by unfold grant; split <;> rfl
theorem grant_le {mh asked held red : Int} (h : asked ≤ red) : asked ≤ grant mh asked held red ∧ grant mh asked held red ≤ red := by unfold grant; split <;> omega
theorem grant_or (mh asked held red : Int) : grant mh asked held red = red ∨ (grant mh asked held red = asked ∧ ¬ (0 < held - asked ∧ held - asked < mh)) := by
  unfold grant
  split
  · exact .inl rfl
  · rename_i h; exact .inr ⟨rfl, h⟩

set_option maxHeartbeats 1000000 in
theorem walk3 (mr mh asked held red : Int) (w : World) (b1 : asked ≤ 9223372036854775807) (b2 : held ≤ 9223372036854775807) :
    Calls Try.prog 3 #[.int .i64 mr, .int .i64 mh, .int .i64 asked, .int .i64 held, .int .i64 red] w fun e w' => e = .returned (.bool true) ∧ Grown w w' := by
  by_cases c1 : asked ≤ 0
  · go_enter Try.func3, Try.ntmps3
    go_wp2
    go_ret
    exact ⟨rfl, Grown.refl _⟩
  have c1b : decide (asked ≤ 0) = false := decide_eq_false c1
  by_cases c2 : red < 0
  · go_enter Try.func3, Try.ntmps3
    go_wp2
    go_ret
    exact ⟨rfl, Grown.refl _⟩
  have c2b : decide (red < 0) = false := decide_eq_false c2
  by_cases c3 : held < red
  · go_enter Try.func3, Try.ntmps3
    go_wp2
    go_ret
    exact ⟨rfl, Grown.refl _⟩
  have c3b : decide (held < red) = false := decide_eq_false c3
  by_cases c4 : red < asked
  · go_enter Try.func3, Try.ntmps3
    go_wp2_with fail
    refine (red1 mr mh asked held red _ (by omega) (by omega) b1 b2 c4).mono ?_
    rintro e w1 ⟨rfl, hw⟩
    replace hw := hw.symm; subst hw
    go_wp2_with fail
    go_ret
    exact ⟨rfl, by repeat (first | exact Grown.refl _ | apply Grown.drew | apply Grown.alloc)⟩
  have c4b : decide (red < asked) = false := decide_eq_false c4
  by_cases c5 : asked < red ∧ asked < mr
  · obtain ⟨c6, c7⟩ := c5
    go_enter Try.func3, Try.ntmps3
    go_wp2_with fail
    refine (red2 mr mh asked held red _ (by omega) (by omega) b1 b2 c6 c7).mono ?_
    rintro e w1 ⟨rfl, hw⟩
    replace hw := hw.symm; subst hw
    go_wp2_with fail
    refine (red3 mr mh red held red _ (by omega) (by omega) (by omega) b2 (by omega) (by omega)).mono ?_
    rintro e w1 ⟨rfl, hw⟩
    replace hw := hw.symm; subst hw
    rw [grant_whole]
    go_wp2_with fail
    go_ret
    exact ⟨rfl, by repeat (first | exact Grown.refl _ | apply Grown.drew | apply Grown.alloc)⟩
  · have hm : mr ≤ asked ∨ asked = red := by omega
    have hle := grant_le (mh := mh) (held := held) (show asked ≤ red by omega)
    have hor : Hid (grant mh asked held red = red ∨ (grant mh asked held red = asked ∧ ¬ (0 < held - asked ∧ held - asked < mh))) := grant_or mh asked held red
    have HM : Hid (mr ≤ asked ∨ asked = red) := hm
    clear hm c5
    go_enter Try.func3, Try.ntmps3
    go_wp2_with fail
    refine (red3 mr mh asked held red _ (by omega) (by omega) b1 b2 (by omega) HM.out).mono ?_
    rintro e w1 ⟨rfl, hw⟩
    replace hw := hw.symm; subst hw
    obtain ⟨G, hG⟩ : ∃ G, G = grant mh asked held red := ⟨_, rfl⟩
    rw [← hG] at hor hle ⊢
    have HG : Hid (G = grant mh asked held red) := hG
    clear hG
    go_wp2_with fail
    refine (red3 mr mh red held red _ (by omega) (by omega) (by omega) b2 (by omega) (by omega)).mono ?_
    rintro e w1 ⟨rfl, hw⟩
    replace hw := hw.symm; subst hw
    rw [grant_whole]
    -- what the grant is
    have hgg : Hid (grant mh G held red = G) := by
      show _ = _
      rcases hor.out with h | ⟨h, h'⟩
      · rw [h]; exact grant_whole _ _ _
      · rw [h]; unfold grant; rw [if_neg h']
    have hGm : Hid (mr ≤ G ∨ G = red) := by
      show _ ∨ _
      rcases hor.out with h | ⟨h, _⟩
      · exact .inr h
      · rcases HM.out with h2 | h2
        · left; omega
        · right; omega
    by_cases t1 : G = red
    · subst t1
      have n2b : decide (G < asked) = false := decide_eq_false (by omega)
      clear hGm
      by_cases ea : G = asked
      · subst ea
        by_cases l1 : held - G ≤ 0
        · have l1b : decide (held - G ≤ 0) = true := decide_eq_true l1
          go_wp2_with fail
          refine (red3 mr mh G held G _ (by omega) (by omega) (by omega) b2 (by omega) (by omega)).mono ?_
          rintro e w1 ⟨rfl, hw⟩
          replace hw := hw.symm; subst hw
          rw [hgg.out]
          go_wp2_with fail
          go_ret
          exact ⟨rfl, by repeat (first | exact Grown.refl _ | apply Grown.drew | apply Grown.alloc)⟩
        · have l1b : decide (held - G ≤ 0) = false := decide_eq_false l1
          by_cases l2 : mh ≤ held - G
          · have l2b : decide (mh ≤ held - G) = true := decide_eq_true l2
            go_wp2_with fail
            refine (red3 mr mh G held G _ (by omega) (by omega) (by omega) b2 (by omega) (by omega)).mono ?_
            rintro e w1 ⟨rfl, hw⟩
            replace hw := hw.symm; subst hw
            rw [hgg.out]
            go_wp2_with fail
            go_ret
            exact ⟨rfl, by repeat (first | exact Grown.refl _ | apply Grown.drew | apply Grown.alloc)⟩
          · have l2b : decide (mh ≤ held - G) = false := decide_eq_false l2
            go_wp2_with fail
            refine (red3 mr mh G held G _ (by omega) (by omega) (by omega) b2 (by omega) (by omega)).mono ?_
            rintro e w1 ⟨rfl, hw⟩
            replace hw := hw.symm; subst hw
            rw [hgg.out]
            go_wp2_with fail
            go_ret
            exact ⟨rfl, by repeat (first | exact Grown.refl _ | apply Grown.drew | apply Grown.alloc)⟩
      · have n0 : (G != asked) = true := by rw [bne_iff_ne]; exact ea
        by_cases l1 : held - G ≤ 0
        · have l1b : decide (held - G ≤ 0) = true := decide_eq_true l1
          go_wp2_with fail
          refine (red3 mr mh G held G _ (by omega) (by omega) (by omega) b2 (by omega) (by omega)).mono ?_
          rintro e w1 ⟨rfl, hw⟩
          replace hw := hw.symm; subst hw
          rw [hgg.out]
          go_wp2_with fail
          go_ret
          exact ⟨rfl, by repeat (first | exact Grown.refl _ | apply Grown.drew | apply Grown.alloc)⟩
        · have l1b : decide (held - G ≤ 0) = false := decide_eq_false l1
          by_cases l2 : mh ≤ held - G
          · have l2b : decide (mh ≤ held - G) = true := decide_eq_true l2
            go_wp2_with fail
            refine (red3 mr mh G held G _ (by omega) (by omega) (by omega) b2 (by omega) (by omega)).mono ?_
            rintro e w1 ⟨rfl, hw⟩
            replace hw := hw.symm; subst hw
            rw [hgg.out]
            go_wp2_with fail
            go_ret
            exact ⟨rfl, by repeat (first | exact Grown.refl _ | apply Grown.drew | apply Grown.alloc)⟩
          · have l2b : decide (mh ≤ held - G) = false := decide_eq_false l2
            go_wp2_with fail
            refine (red3 mr mh G held G _ (by omega) (by omega) (by omega) b2 (by omega) (by omega)).mono ?_
            rintro e w1 ⟨rfl, hw⟩
            replace hw := hw.symm; subst hw
            rw [hgg.out]
            go_wp2_with fail
            go_ret
            exact ⟨rfl, by repeat (first | exact Grown.refl _ | apply Grown.drew | apply Grown.alloc)⟩
    · obtain ⟨hGa, hnl⟩ : G = asked ∧ ¬ (0 < held - asked ∧ held - asked < mh) := by
        rcases hor.out with h | h
        · exact absurd h t1
        · exact h
      subst hGa
      have hmr : mr ≤ G := by
        rcases hGm.out with h | h
        · exact h
        · exact absurd h t1
      have n1 : (G == red) = false := beq_eq_false_iff_ne.2 t1
      clear hor hGm HM HG
      by_cases l1 : held - G ≤ 0
      · have l1b : decide (held - G ≤ 0) = true := decide_eq_true l1
        go_wp2_with fail
        refine (red3 mr mh G held red _ (by omega) (by omega) (by omega) b2 (by omega) (by omega)).mono ?_
        rintro e w1 ⟨rfl, hw⟩
        replace hw := hw.symm; subst hw
        rw [hgg.out]
        go_wp2_with fail
        go_ret
        exact ⟨rfl, by repeat (first | exact Grown.refl _ | apply Grown.drew | apply Grown.alloc)⟩
      · have l1b : decide (held - G ≤ 0) = false := decide_eq_false l1
        by_cases l2 : mh ≤ held - G
        · have l2b : decide (mh ≤ held - G) = true := decide_eq_true l2
          go_wp2_with fail
          refine (red3 mr mh G held red _ (by omega) (by omega) (by omega) b2 (by omega) (by omega)).mono ?_
          rintro e w1 ⟨rfl, hw⟩
          replace hw := hw.symm; subst hw
          rw [hgg.out]
          go_wp2_with fail
          go_ret
          exact ⟨rfl, by repeat (first | exact Grown.refl _ | apply Grown.drew | apply Grown.alloc)⟩
        · exfalso; omega
end Go.Proofs.Qxb6630713a
