import Derived.Test.Qxb6630713aLaw3
namespace Go.Proofs.Qxb6630713a
open Go.RowKit

theorem grant_mono {mh x y held red : Int} (h : x ≤ y) (hy : y ≤ red) (hr : red ≤ held) : grant mh x held red ≤ grant mh y held red := by
  unfold grant
  split <;> split <;> omega

set_option maxHeartbeats 400000 in
theorem sound1 (asked red : Int) (w : World) (h : red < asked) :
    Calls Try.prog 6 #[.int .i64 asked, .int .i64 red, .int .i64 0, .string { data := #[101, 120, 99, 101, 101, 100, 115, 45, 114, 101, 100, 101, 101, 109, 97, 98, 108, 101] }] w fun e w' => e = .returned (.bool true) ∧ w' = w := by
  go_enter Try.func6, Try.ntmps6
  go_wp2
  go_ret
  exact ⟨rfl, rfl⟩
set_option maxHeartbeats 400000 in
theorem sound2 (asked red : Int) (w : World) (h : ¬ red < asked) :
    Calls Try.prog 6 #[.int .i64 asked, .int .i64 red, .int .i64 0, .string { data := #[98, 101, 108, 111, 119, 45, 109, 105, 110, 105, 109, 117, 109, 45, 114, 101, 100, 101, 109, 112, 116, 105, 111, 110] }] w fun e w' => e = .returned (.bool true) ∧ w' = w := by
  go_enter Try.func6, Try.ntmps6
  go_wp2
  go_ret
  exact ⟨rfl, rfl⟩
set_option maxHeartbeats 400000 in
theorem sound3 (asked red s : Int) (w : World) (h : ¬ red < asked) (h1 : asked ≤ s) (h2 : s ≤ red) :
    Calls Try.prog 6 #[.int .i64 asked, .int .i64 red, .int .i64 s, .string { data := #[] }] w fun e w' => e = .returned (.bool true) ∧ w' = w := by
  go_enter Try.func6, Try.ntmps6
  go_wp2
  go_ret
  exact ⟨rfl, rfl⟩

set_option maxHeartbeats 4000000 in
theorem walk4 (mr mh a1 a2 held red : Int) (w : World) (b1 : a1 ≤ 9223372036854775807) (b2 : a2 ≤ 9223372036854775807) (b3 : held ≤ 9223372036854775807) :
    Calls Try.prog 4 #[.int .i64 mr, .int .i64 mh, .int .i64 a1, .int .i64 a2, .int .i64 held, .int .i64 red] w fun e w' => e = .returned (.bool true) ∧ Grown w w' := by
  by_cases sw : a2 < a1
  · by_cases c1 : a2 ≤ 0
    · go_enter Try.func4, Try.ntmps4
      go_wp2
      go_ret
      exact ⟨rfl, Grown.refl _⟩
    have c1b : decide (a2 ≤ 0) = false := decide_eq_false c1
    by_cases c2 : red < 0
    · go_enter Try.func4, Try.ntmps4
      go_wp2
      go_ret
      exact ⟨rfl, Grown.refl _⟩
    have c2b : decide (red < 0) = false := decide_eq_false c2
    by_cases c3 : held < red
    · go_enter Try.func4, Try.ntmps4
      go_wp2
      go_ret
      exact ⟨rfl, Grown.refl _⟩
    have c3b : decide (held < red) = false := decide_eq_false c3
    by_cases x1 : red < a2
    · have x1b : decide (a1 ≤ red) = false := decide_eq_false (by omega)
      go_enter Try.func4, Try.ntmps4
      go_wp2_with fail
      refine (red1 mr mh a2 held red _ (by omega) (by omega) b2 b3 (by omega)).mono ?_
      rintro e w1 ⟨rfl, hw⟩
      replace hw := hw.symm; subst hw
      go_wp2_with fail
      refine (red1 mr mh a1 held red _ (by omega) (by omega) b1 b3 (by omega)).mono ?_
      rintro e w1 ⟨rfl, hw⟩
      replace hw := hw.symm; subst hw
      go_wp2_with fail
      refine (sound1 a2 red _ (by omega)).mono ?_
      rintro e w1 ⟨rfl, hw⟩
      replace hw := hw.symm; subst hw
      go_wp2_with fail
      refine (sound1 a1 red _ (by omega)).mono ?_
      rintro e w1 ⟨rfl, hw⟩
      replace hw := hw.symm; subst hw
      go_wp2_with fail
      go_ret
      exact ⟨rfl, by repeat (first | exact Grown.refl _ | apply Grown.drew | apply Grown.alloc)⟩
    by_cases x2 : a2 < red ∧ a2 < mr
    · obtain ⟨x3, x4⟩ := x2
      by_cases y1 : red < a1
      · skip
        go_enter Try.func4, Try.ntmps4
        go_wp2_with fail
        refine (red2 mr mh a2 held red _ (by omega) (by omega) b2 b3 (by omega) (by omega)).mono ?_
        rintro e w1 ⟨rfl, hw⟩
        replace hw := hw.symm; subst hw
        go_wp2_with fail
        refine (red1 mr mh a1 held red _ (by omega) (by omega) b1 b3 (by omega)).mono ?_
        rintro e w1 ⟨rfl, hw⟩
        replace hw := hw.symm; subst hw
        go_wp2_with fail
        refine (sound2 a2 red _ (by omega)).mono ?_
        rintro e w1 ⟨rfl, hw⟩
        replace hw := hw.symm; subst hw
        go_wp2_with fail
        refine (sound1 a1 red _ (by omega)).mono ?_
        rintro e w1 ⟨rfl, hw⟩
        replace hw := hw.symm; subst hw
        go_wp2_with fail
        go_ret
        exact ⟨rfl, by repeat (first | exact Grown.refl _ | apply Grown.drew | apply Grown.alloc)⟩
      by_cases y2 : a1 < red ∧ a1 < mr
      · obtain ⟨y3, y4⟩ := y2
        go_enter Try.func4, Try.ntmps4
        go_wp2_with fail
        refine (red2 mr mh a2 held red _ (by omega) (by omega) b2 b3 (by omega) (by omega)).mono ?_
        rintro e w1 ⟨rfl, hw⟩
        replace hw := hw.symm; subst hw
        go_wp2_with fail
        refine (red2 mr mh a1 held red _ (by omega) (by omega) b1 b3 (by omega) (by omega)).mono ?_
        rintro e w1 ⟨rfl, hw⟩
        replace hw := hw.symm; subst hw
        go_wp2_with fail
        refine (sound2 a2 red _ (by omega)).mono ?_
        rintro e w1 ⟨rfl, hw⟩
        replace hw := hw.symm; subst hw
        go_wp2_with fail
        refine (sound2 a1 red _ (by omega)).mono ?_
        rintro e w1 ⟨rfl, hw⟩
        replace hw := hw.symm; subst hw
        go_wp2_with fail
        go_ret
        exact ⟨rfl, by repeat (first | exact Grown.refl _ | apply Grown.drew | apply Grown.alloc)⟩
      have hgy := grant_le (mh := mh) (held := held) (show a1 ≤ red by omega)
      generalize hg : grant mh a1 held red = G at hgy
      have HG : Hid (grant mh a1 held red = G) := hg
      clear hg
      have hy : Hid (mr ≤ a1 ∨ a1 = red) := by show _ ∨ _; omega
      clear y2
      go_enter Try.func4, Try.ntmps4
      go_wp2_with fail
      refine (red2 mr mh a2 held red _ (by omega) (by omega) b2 b3 (by omega) (by omega)).mono ?_
      rintro e w1 ⟨rfl, hw⟩
      replace hw := hw.symm; subst hw
      go_wp2_with fail
      refine (red3 mr mh a1 held red _ (by omega) (by omega) b1 b3 (by omega) hy.out).mono ?_
      rintro e w1 ⟨rfl, hw⟩
      replace hw := hw.symm; subst hw
      rw [HG.out]
      go_wp2_with fail
      refine (sound2 a2 red _ (by omega)).mono ?_
      rintro e w1 ⟨rfl, hw⟩
      replace hw := hw.symm; subst hw
      go_wp2_with fail
      refine (sound3 a1 red _ _ (by omega) hgy.1 hgy.2).mono ?_
      rintro e w1 ⟨rfl, hw⟩
      replace hw := hw.symm; subst hw
      go_wp2_with fail
      go_ret
      exact ⟨rfl, by repeat (first | exact Grown.refl _ | apply Grown.drew | apply Grown.alloc)⟩
    have hx : Hid (mr ≤ a2 ∨ a2 = red) := by show _ ∨ _; omega
    have hgx := grant_le (mh := mh) (held := held) (show a2 ≤ red by omega)
    by_cases y1 : red < a1
    · have y1b : decide (a1 ≤ red) = false := decide_eq_false (by omega)
      generalize hg : grant mh a2 held red = G at hgx
      have HG : Hid (grant mh a2 held red = G) := hg
      clear hg x2
      go_enter Try.func4, Try.ntmps4
      go_wp2_with fail
      refine (red3 mr mh a2 held red _ (by omega) (by omega) b2 b3 (by omega) hx.out).mono ?_
      rintro e w1 ⟨rfl, hw⟩
      replace hw := hw.symm; subst hw
      rw [HG.out]
      go_wp2_with fail
      refine (red1 mr mh a1 held red _ (by omega) (by omega) b1 b3 (by omega)).mono ?_
      rintro e w1 ⟨rfl, hw⟩
      replace hw := hw.symm; subst hw
      go_wp2_with fail
      refine (sound3 a2 red _ _ (by omega) hgx.1 hgx.2).mono ?_
      rintro e w1 ⟨rfl, hw⟩
      replace hw := hw.symm; subst hw
      go_wp2_with fail
      refine (sound1 a1 red _ (by omega)).mono ?_
      rintro e w1 ⟨rfl, hw⟩
      replace hw := hw.symm; subst hw
      go_wp2_with fail
      go_ret
      exact ⟨rfl, by repeat (first | exact Grown.refl _ | apply Grown.drew | apply Grown.alloc)⟩
    have hy : Hid (mr ≤ a1 ∨ a1 = red) := by show _ ∨ _; rcases hx.out with h | h <;> omega
    have hgy := grant_le (mh := mh) (held := held) (show a1 ≤ red by omega)
    have hmon := grant_mono (mh := mh) (held := held) (show a2 ≤ a1 by omega) (show a1 ≤ red by omega) (by omega)
    generalize hg : grant mh a2 held red = G at hgx hmon
    have HG : Hid (grant mh a2 held red = G) := hg
    generalize hg2 : grant mh a1 held red = K at hgy hmon
    have HK : Hid (grant mh a1 held red = K) := hg2
    have hlt : decide (K < G) = false := decide_eq_false (by omega)
    clear hg hg2 x2
    go_enter Try.func4, Try.ntmps4
    go_wp2_with fail
    refine (red3 mr mh a2 held red _ (by omega) (by omega) b2 b3 (by omega) hx.out).mono ?_
    rintro e w1 ⟨rfl, hw⟩
    replace hw := hw.symm; subst hw
    rw [HG.out]
    go_wp2_with fail
    refine (red3 mr mh a1 held red _ (by omega) (by omega) b1 b3 (by omega) hy.out).mono ?_
    rintro e w1 ⟨rfl, hw⟩
    replace hw := hw.symm; subst hw
    rw [HK.out]
    go_wp2_with fail
    refine (sound3 a2 red _ _ (by omega) hgx.1 hgx.2).mono ?_
    rintro e w1 ⟨rfl, hw⟩
    replace hw := hw.symm; subst hw
    go_wp2_with fail
    refine (sound3 a1 red _ _ (by omega) hgy.1 hgy.2).mono ?_
    rintro e w1 ⟨rfl, hw⟩
    replace hw := hw.symm; subst hw
    go_wp2_with fail
    go_ret
    exact ⟨rfl, by repeat (first | exact Grown.refl _ | apply Grown.drew | apply Grown.alloc)⟩
  · by_cases c1 : a1 ≤ 0
    · go_enter Try.func4, Try.ntmps4
      go_wp2
      go_ret
      exact ⟨rfl, Grown.refl _⟩
    have c1b : decide (a1 ≤ 0) = false := decide_eq_false c1
    by_cases c2 : red < 0
    · go_enter Try.func4, Try.ntmps4
      go_wp2
      go_ret
      exact ⟨rfl, Grown.refl _⟩
    have c2b : decide (red < 0) = false := decide_eq_false c2
    by_cases c3 : held < red
    · go_enter Try.func4, Try.ntmps4
      go_wp2
      go_ret
      exact ⟨rfl, Grown.refl _⟩
    have c3b : decide (held < red) = false := decide_eq_false c3
    by_cases x1 : red < a1
    · have x1b : decide (a2 ≤ red) = false := decide_eq_false (by omega)
      go_enter Try.func4, Try.ntmps4
      go_wp2_with fail
      refine (red1 mr mh a1 held red _ (by omega) (by omega) b1 b3 (by omega)).mono ?_
      rintro e w1 ⟨rfl, hw⟩
      replace hw := hw.symm; subst hw
      go_wp2_with fail
      refine (red1 mr mh a2 held red _ (by omega) (by omega) b2 b3 (by omega)).mono ?_
      rintro e w1 ⟨rfl, hw⟩
      replace hw := hw.symm; subst hw
      go_wp2_with fail
      refine (sound1 a1 red _ (by omega)).mono ?_
      rintro e w1 ⟨rfl, hw⟩
      replace hw := hw.symm; subst hw
      go_wp2_with fail
      refine (sound1 a2 red _ (by omega)).mono ?_
      rintro e w1 ⟨rfl, hw⟩
      replace hw := hw.symm; subst hw
      go_wp2_with fail
      go_ret
      exact ⟨rfl, by repeat (first | exact Grown.refl _ | apply Grown.drew | apply Grown.alloc)⟩
    by_cases x2 : a1 < red ∧ a1 < mr
    · obtain ⟨x3, x4⟩ := x2
      by_cases y1 : red < a2
      · skip
        go_enter Try.func4, Try.ntmps4
        go_wp2_with fail
        refine (red2 mr mh a1 held red _ (by omega) (by omega) b1 b3 (by omega) (by omega)).mono ?_
        rintro e w1 ⟨rfl, hw⟩
        replace hw := hw.symm; subst hw
        go_wp2_with fail
        refine (red1 mr mh a2 held red _ (by omega) (by omega) b2 b3 (by omega)).mono ?_
        rintro e w1 ⟨rfl, hw⟩
        replace hw := hw.symm; subst hw
        go_wp2_with fail
        refine (sound2 a1 red _ (by omega)).mono ?_
        rintro e w1 ⟨rfl, hw⟩
        replace hw := hw.symm; subst hw
        go_wp2_with fail
        refine (sound1 a2 red _ (by omega)).mono ?_
        rintro e w1 ⟨rfl, hw⟩
        replace hw := hw.symm; subst hw
        go_wp2_with fail
        go_ret
        exact ⟨rfl, by repeat (first | exact Grown.refl _ | apply Grown.drew | apply Grown.alloc)⟩
      by_cases y2 : a2 < red ∧ a2 < mr
      · obtain ⟨y3, y4⟩ := y2
        go_enter Try.func4, Try.ntmps4
        go_wp2_with fail
        refine (red2 mr mh a1 held red _ (by omega) (by omega) b1 b3 (by omega) (by omega)).mono ?_
        rintro e w1 ⟨rfl, hw⟩
        replace hw := hw.symm; subst hw
        go_wp2_with fail
        refine (red2 mr mh a2 held red _ (by omega) (by omega) b2 b3 (by omega) (by omega)).mono ?_
        rintro e w1 ⟨rfl, hw⟩
        replace hw := hw.symm; subst hw
        go_wp2_with fail
        refine (sound2 a1 red _ (by omega)).mono ?_
        rintro e w1 ⟨rfl, hw⟩
        replace hw := hw.symm; subst hw
        go_wp2_with fail
        refine (sound2 a2 red _ (by omega)).mono ?_
        rintro e w1 ⟨rfl, hw⟩
        replace hw := hw.symm; subst hw
        go_wp2_with fail
        go_ret
        exact ⟨rfl, by repeat (first | exact Grown.refl _ | apply Grown.drew | apply Grown.alloc)⟩
      have hgy := grant_le (mh := mh) (held := held) (show a2 ≤ red by omega)
      generalize hg : grant mh a2 held red = G at hgy
      have HG : Hid (grant mh a2 held red = G) := hg
      clear hg
      have hy : Hid (mr ≤ a2 ∨ a2 = red) := by show _ ∨ _; omega
      clear y2
      go_enter Try.func4, Try.ntmps4
      go_wp2_with fail
      refine (red2 mr mh a1 held red _ (by omega) (by omega) b1 b3 (by omega) (by omega)).mono ?_
      rintro e w1 ⟨rfl, hw⟩
      replace hw := hw.symm; subst hw
      go_wp2_with fail
      refine (red3 mr mh a2 held red _ (by omega) (by omega) b2 b3 (by omega) hy.out).mono ?_
      rintro e w1 ⟨rfl, hw⟩
      replace hw := hw.symm; subst hw
      rw [HG.out]
      go_wp2_with fail
      refine (sound2 a1 red _ (by omega)).mono ?_
      rintro e w1 ⟨rfl, hw⟩
      replace hw := hw.symm; subst hw
      go_wp2_with fail
      refine (sound3 a2 red _ _ (by omega) hgy.1 hgy.2).mono ?_
      rintro e w1 ⟨rfl, hw⟩
      replace hw := hw.symm; subst hw
      go_wp2_with fail
      go_ret
      exact ⟨rfl, by repeat (first | exact Grown.refl _ | apply Grown.drew | apply Grown.alloc)⟩
    have hx : Hid (mr ≤ a1 ∨ a1 = red) := by show _ ∨ _; omega
    have hgx := grant_le (mh := mh) (held := held) (show a1 ≤ red by omega)
    by_cases y1 : red < a2
    · have y1b : decide (a2 ≤ red) = false := decide_eq_false (by omega)
      generalize hg : grant mh a1 held red = G at hgx
      have HG : Hid (grant mh a1 held red = G) := hg
      clear hg x2
      go_enter Try.func4, Try.ntmps4
      go_wp2_with fail
      refine (red3 mr mh a1 held red _ (by omega) (by omega) b1 b3 (by omega) hx.out).mono ?_
      rintro e w1 ⟨rfl, hw⟩
      replace hw := hw.symm; subst hw
      rw [HG.out]
      go_wp2_with fail
      refine (red1 mr mh a2 held red _ (by omega) (by omega) b2 b3 (by omega)).mono ?_
      rintro e w1 ⟨rfl, hw⟩
      replace hw := hw.symm; subst hw
      go_wp2_with fail
      refine (sound3 a1 red _ _ (by omega) hgx.1 hgx.2).mono ?_
      rintro e w1 ⟨rfl, hw⟩
      replace hw := hw.symm; subst hw
      go_wp2_with fail
      refine (sound1 a2 red _ (by omega)).mono ?_
      rintro e w1 ⟨rfl, hw⟩
      replace hw := hw.symm; subst hw
      go_wp2_with fail
      go_ret
      exact ⟨rfl, by repeat (first | exact Grown.refl _ | apply Grown.drew | apply Grown.alloc)⟩
    have hy : Hid (mr ≤ a2 ∨ a2 = red) := by show _ ∨ _; rcases hx.out with h | h <;> omega
    have hgy := grant_le (mh := mh) (held := held) (show a2 ≤ red by omega)
    have hmon := grant_mono (mh := mh) (held := held) (show a1 ≤ a2 by omega) (show a2 ≤ red by omega) (by omega)
    generalize hg : grant mh a1 held red = G at hgx hmon
    have HG : Hid (grant mh a1 held red = G) := hg
    generalize hg2 : grant mh a2 held red = K at hgy hmon
    have HK : Hid (grant mh a2 held red = K) := hg2
    have hlt : decide (K < G) = false := decide_eq_false (by omega)
    clear hg hg2 x2
    go_enter Try.func4, Try.ntmps4
    go_wp2_with fail
    refine (red3 mr mh a1 held red _ (by omega) (by omega) b1 b3 (by omega) hx.out).mono ?_
    rintro e w1 ⟨rfl, hw⟩
    replace hw := hw.symm; subst hw
    rw [HG.out]
    go_wp2_with fail
    refine (red3 mr mh a2 held red _ (by omega) (by omega) b2 b3 (by omega) hy.out).mono ?_
    rintro e w1 ⟨rfl, hw⟩
    replace hw := hw.symm; subst hw
    rw [HK.out]
    go_wp2_with fail
    refine (sound3 a1 red _ _ (by omega) hgx.1 hgx.2).mono ?_
    rintro e w1 ⟨rfl, hw⟩
    replace hw := hw.symm; subst hw
    go_wp2_with fail
    refine (sound3 a2 red _ _ (by omega) hgy.1 hgy.2).mono ?_
    rintro e w1 ⟨rfl, hw⟩
    replace hw := hw.symm; subst hw
    go_wp2_with fail
    go_ret
    exact ⟨rfl, by repeat (first | exact Grown.refl _ | apply Grown.drew | apply Grown.alloc)⟩
end Go.Proofs.Qxb6630713a
