import Derived.Test.Qxb6630713aRows
import Derived.WalkKit
import Derived.WalkSpells
import Derived.WalkLawsBesides
namespace Go.Proofs.Qxb6630713a
open Go.RowKit

theorem bounds (a : Int) (h : (Lit.int .i64 a).wf = true) : -9223372036854775808 ≤ a ∧ a ≤ 9223372036854775807 := by
  have h1 : IntKind.i64.min = -9223372036854775808 := rfl
  have h2 : IntKind.i64.max = 9223372036854775807 := rfl
  simp only [Lit.wf, Bool.and_eq_true, decide_eq_true_eq] at h
  omega


set_option maxHeartbeats 400000 in
theorem red1 (mr mh asked held red : Int) (w : World) (h0 : 0 < asked) (h1 : 0 ≤ held) (b1 : asked ≤ 9223372036854775807) (b2 : held ≤ 9223372036854775807) (h : red < asked) :
    Calls Try.prog 5 #[.agg #[.map none, .int .i64 mr, .int .i64 mh], .int .i64 asked, .int .i64 held, .int .i64 red] w fun e w' => e = .returned (.tuple #[.int .i64 0, .string { data := #[101, 120, 99, 101, 101, 100, 115, 45, 114, 101, 100, 101, 101, 109, 97, 98, 108, 101] }]) ∧ w' = w.alloc (.cells #[.map none, .int .i64 mr, .int .i64 mh] 25) := by
  go_enter Try.func5, Try.ntmps5
  go_wp2
  go_ret2
  exact ⟨rfl, rfl⟩
set_option maxHeartbeats 400000 in
theorem red2 (mr mh asked held red : Int) (w : World) (h0 : 0 < asked) (h1 : 0 ≤ held) (b1 : asked ≤ 9223372036854775807) (b2 : held ≤ 9223372036854775807) (h : asked < red) (hm : asked < mr) :
    Calls Try.prog 5 #[.agg #[.map none, .int .i64 mr, .int .i64 mh], .int .i64 asked, .int .i64 held, .int .i64 red] w fun e w' => e = .returned (.tuple #[.int .i64 0, .string { data := #[98, 101, 108, 111, 119, 45, 109, 105, 110, 105, 109, 117, 109, 45, 114, 101, 100, 101, 109, 112, 116, 105, 111, 110] }]) ∧ w' = w.alloc (.cells #[.map none, .int .i64 mr, .int .i64 mh] 25) := by
  have hne : (asked != red) = true := by rw [bne_iff_ne]; omega
  go_enter Try.func5, Try.ntmps5
  go_wp2
  go_ret2
  exact ⟨rfl, rfl⟩
/-- What a grant grants. -/
def grant (mh asked held red : Int) : Int := if 0 < held - asked ∧ held - asked < mh then red else asked
set_option maxHeartbeats 800000 in
theorem red3 (mr mh asked held red : Int) (w : World) (h0 : 0 < asked) (h1 : 0 ≤ held) (b1 : asked ≤ 9223372036854775807) (b2 : held ≤ 9223372036854775807) (h : asked ≤ red) (hm : mr ≤ asked ∨ asked = red) :
    Calls Try.prog 5 #[.agg #[.map none, .int .i64 mr, .int .i64 mh], .int .i64 asked, .int .i64 held, .int .i64 red] w fun e w' => e = .returned (.tuple #[.int .i64 (grant mh asked held red), .string { data := #[] }]) ∧ w' = w.alloc (.cells #[.map none, .int .i64 mr, .int .i64 mh] 25) := by
  have hnr : ¬ red < asked := by omega
  by_cases hl : 0 < held - asked
  · by_cases hh : held - asked < mh
    · have hg : Hid (grant mh asked held red = red) := by show _ = _; unfold grant; rw [if_pos ⟨hl, hh⟩]
      by_cases hmm : asked < mr
      · have hne : (asked != red) = false := by
          have : asked = red := by omega
          simp [this]
        clear hm
        go_enter Try.func5, Try.ntmps5
        go_wp2
        go_ret2
        exact ⟨by rw [hg.out]; rfl, rfl⟩
      · clear hm
        go_enter Try.func5, Try.ntmps5
        go_wp2
        go_ret2
        exact ⟨by rw [hg.out]; rfl, rfl⟩
    · have hg : Hid (grant mh asked held red = asked) := by show _ = _; unfold grant; rw [if_neg (by omega)]
      by_cases hmm : asked < mr
      · have hne : (asked != red) = false := by
          have : asked = red := by omega
          simp [this]
        clear hm
        go_enter Try.func5, Try.ntmps5
        go_wp2
        go_ret2
        exact ⟨by rw [hg.out]; rfl, rfl⟩
      · clear hm
        go_enter Try.func5, Try.ntmps5
        go_wp2
        go_ret2
        exact ⟨by rw [hg.out]; rfl, rfl⟩
  · have hl' : decide (0 < held - asked) = false := decide_eq_false hl
    have hg : Hid (grant mh asked held red = asked) := by show _ = _; unfold grant; rw [if_neg (by omega)]
    by_cases hmm : asked < mr
    · have hne : (asked != red) = false := by
        have : asked = red := by omega
        simp [this]
      clear hm
      go_enter Try.func5, Try.ntmps5
      go_wp2
      go_ret2
      exact ⟨by rw [hg.out]; rfl, rfl⟩
    · clear hm
      go_enter Try.func5, Try.ntmps5
      go_wp2
      go_ret2
      exact ⟨by rw [hg.out]; rfl, rfl⟩
end Go.Proofs.Qxb6630713a
