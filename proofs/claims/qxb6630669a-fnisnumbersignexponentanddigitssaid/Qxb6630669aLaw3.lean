import Derived.Test.Qxb6630669aNum
import Derived.Lib.Strings
namespace Go.Proofs.Qxb6630669a
open Go.RowKit

theorem bl_take (s : ByteArray) (i : Nat) : bl (s.extract 0 i) = (bl s).take i := by
  unfold bl
  rw [Lib.extract_data, List.map_take]
  simp
theorem stepN_le {st : Nat} (h : st ≤ 9) (c : Int) : stepN st c ≤ 9 := by
  have : st = 0 ∨ st = 1 ∨ st = 2 ∨ st = 3 ∨ st = 4 ∨ st = 5 ∨ st = 6 ∨ st = 7 ∨ st = 8 ∨ st = 9 := by omega
  rcases this with rfl | rfl | rfl | rfl | rfl | rfl | rfl | rfl | rfl | rfl <;> simp only [stepN] <;> repeat' split
  all_goals omega
theorem run_le (l : List Int) : ∀ st, st ≤ 9 → runFrom st l ≤ 9 := by
  induction l with
  | nil => intro st h; exact h
  | cons c l ih => intro st h; exact ih _ (stepN_le h c)
theorem stT_le (s : ByteArray) (i : Nat) : stT s i ≤ 9 := run_le _ _ (by omega)

set_option maxHeartbeats 1000000 in
theorem bytes5 (s : ByteArray) (w : World) (hs : s.size ≤ maxLen) :
    Calls Try.prog 5 #[.string s] w fun e w' => e = .returned (.bool (decide ((s.size : Int) ≤ 1048576))) ∧ w' = w := by
  unfold maxLen at hs
  by_cases h : (s.size : Int) ≤ 1048576
  · have hd : Hid (decide ((s.size : Int) ≤ 1048576) = true) := decide_eq_true h
    go_enter Try.func5, Try.ntmps5
    go_wp2
    go_ret
    exact ⟨by rw [hd.out]; rfl, rfl⟩
  · have hd : Hid (decide ((s.size : Int) ≤ 1048576) = false) := decide_eq_false h
    go_enter Try.func5, Try.ntmps5
    go_wp2
    go_ret
    exact ⟨by rw [hd.out]; rfl, rfl⟩

set_option maxHeartbeats 2000000 in
theorem walk3 (s : ByteArray) (w : World) (hs : s.size ≤ maxLen) :
    Calls Try.prog 3 #[.string s] w fun e w' => e = .returned (.bool true) ∧ Grown w w' := by
  have hm := hs
  unfold maxLen at hm
  by_cases h1 : (s.size : Int) ≤ 1048576
  · by_cases h2 : (4096 : Int) < (s.size : Int)
    · go_enter Try.func3, Try.ntmps3
      go_wp2_with fail
      refine (bytes5 s _ hs).mono ?_
      rintro e w1 ⟨rfl, hw⟩
      replace hw := hw.symm; subst hw
      rw [decide_eq_true h1]
      go_wp2
      go_ret
      exact ⟨rfl, Grown.refl _⟩
    · go_enter Try.func3, Try.ntmps3
      go_wp2_with fail
      refine (bytes5 s _ hs).mono ?_
      rintro e w1 ⟨rfl, hw⟩
      replace hw := hw.symm; subst hw
      rw [decide_eq_true h1]
      go_wp2_with fail
      refine (isNumber6 _ _ (by simp)).mono ?_
      rintro e w1 ⟨rfl, hw⟩
      replace hw := hw.symm; subst hw
      rw [show accN (runFrom 0 (bl ByteArray.empty)) = false from rfl]
      go_wp2
      go_loop [3, 4] (fun st i => ∃ k : Nat, k ≤ s.size ∧ i = .int .i64 k ∧ st = .int .i64 (stT s k)) (fun _ i => s.size - (intOf i).toNat)
      case atStart => exact ⟨0, by omega, rfl, rfl⟩
      case round =>
        obtain ⟨k, hk, rfl, rfl⟩ := hrel
        by_cases hlt : k < s.size
        · have hle := stT_le s k
          have hsu : Hid (stT s (k + 1) = stepN (stT s k) (s[k].toNat : Int)) := stT_succ s k hlt
          go_wp2_with fail
          refine (stepAny _ _ _ hle).mono ?_
          rintro e w1 ⟨rfl, hw⟩
          replace hw := hw.symm; subst hw
          rw [← hsu.out]
          have hle2 := stT_le s (k + 1)
          go_wp2_with fail
          refine (isNumber6 _ _ (by simp; omega)).mono ?_
          rintro e w1 ⟨rfl, hw⟩
          replace hw := hw.symm; subst hw
          rw [bl_take, show accN (runFrom 0 ((bl s).take (k + 1))) = accN (stT s (k + 1)) from rfl]
          go_wp2_with fail
          refine (accept8 _ _ hle2).mono ?_
          rintro e w1 ⟨rfl, hw⟩
          replace hw := hw.symm; subst hw
          have hne : (accN (stT s (k + 1)) != accN (stT s (k + 1))) = false := by simp
          go_wp2
          go_round
          case rel => exact ⟨k + 1, by omega, by go_num, rfl⟩
          case measure => simp [intOf]; omega
        · go_wp2
          go_ret
          exact ⟨rfl, Grown.refl _⟩
  · go_enter Try.func3, Try.ntmps3
    go_wp2_with fail
    refine (bytes5 s _ hs).mono ?_
    rintro e w1 ⟨rfl, hw⟩
    replace hw := hw.symm; subst hw
    rw [decide_eq_false (p := (s.size : Int) ≤ 1048576) (by omega)]
    go_wp2
    go_ret
    exact ⟨rfl, Grown.refl _⟩
end Go.Proofs.Qxb6630669a
