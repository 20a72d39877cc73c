import Derived.Test.Qxb6630669aPlain
namespace Go.Proofs.Qxb6630669a
open Go.RowKit

theorem ret_int {k : IntKind} {a b : Int} (h : a = b) : Ending.returned (.int k a) = .returned (.int k b) := by rw [h]
theorem ret_bool {a b : Bool} (h : a = b) : Ending.returned (.bool a) = .returned (.bool b) := by rw [h]

/-- All bytes from i up to j are digits. -/
def DigsTo (s : ByteArray) (i j : Nat) : Prop := ∀ q (h : q < s.size), i ≤ q → q < j → dig (s[q].toNat : Int) = true
/-- Byte j, if there is one, is no digit. -/
def StopAt (s : ByteArray) (j : Nat) : Prop := ∀ h : j < s.size, dig (s[j].toNat : Int) = false
theorem DigsTo.zero {s : ByteArray} {i : Nat} : DigsTo s i i := fun q _ h1 h2 => by omega
theorem DigsTo.step {s : ByteArray} {i j : Nat} (h : DigsTo s i j) (hj : j < s.size) (hd : dig (s[j].toNat : Int) = true) : DigsTo s i (j + 1) := fun q hq h1 h2 => by
  by_cases e : q = j
  · subst e; exact hd
  · exact h q hq h1 (by omega)

set_option maxHeartbeats 400000 in
theorem after13 (s : ByteArray) (i : Nat) (w : World) (hs : s.size ≤ 4000000) (hi : i ≤ s.size) :
    Calls Try.prog 13 #[.string s, .int .i64 i] w fun e w' => ∃ j : Nat, e = .returned (.int .i64 j) ∧ i ≤ j ∧ j ≤ s.size ∧ DigsTo s i j ∧ StopAt s j ∧ w' = w := by
  go_enter Try.func13, Try.ntmps13
  go_wp2
  go_loop [1] (fun t => ∃ k : Nat, i ≤ k ∧ k ≤ s.size ∧ t = .int .i64 k ∧ DigsTo s i k) (fun t => s.size - (intOf t).toNat)
  case atStart => exact ⟨i, Nat.le_refl _, hi, rfl, .zero⟩
  case round =>
    obtain ⟨k, hk, hk2, rfl, hD⟩ := hrel
    by_cases hlt : k < s.size
    · have hki : decide ((k : Int) < (s.size : Int)) = true := decide_eq_true (by omega)
      by_cases h1 : (48 : Int) ≤ (s[k].toNat : Int)
      · have h1b : decide ((48 : Int) ≤ (s[k].toNat : Int)) = true := decide_eq_true h1
        by_cases h2 : (s[k].toNat : Int) ≤ 57
        · have hn : Hid (DigsTo s i (k + 1)) := hD.step hlt (decide_eq_true ⟨h1, h2⟩)
          clear hD
          go_wp2
          go_round
          case rel => exact ⟨k + 1, by omega, by omega, by go_num, hn.out⟩
          case measure => simp [intOf]; omega
        · have hst : Hid (StopAt s k) := fun _ => decide_eq_false (by omega)
          go_wp2
          go_ret
          exact ⟨k, rfl, hk, hk2, hD, hst.out, rfl⟩
      · have hst : Hid (StopAt s k) := fun _ => decide_eq_false (by omega)
        have h1b : decide ((48 : Int) ≤ (s[k].toNat : Int)) = false := decide_eq_false h1
        go_wp2
        go_ret
        exact ⟨k, rfl, hk, hk2, hD, hst.out, rfl⟩
    · have hki : decide ((k : Int) < (s.size : Int)) = false := decide_eq_false (by omega)
      have hst : Hid (StopAt s k) := fun h => absurd h hlt
      go_wp2
      go_ret
      exact ⟨k, rfl, hk, hk2, hD, hst.out, rfl⟩

set_option maxHeartbeats 400000 in
theorem digit14 (c : Int) (w : World) : Calls Try.prog 14 #[.int .u8 c] w fun e w' => e = .returned (.bool (dig c)) ∧ w' = w := by
  by_cases h1 : (48 : Int) ≤ c
  · by_cases h2 : c ≤ 57
    · have hd : Hid (dig c = true) := decide_eq_true ⟨h1, h2⟩
      go_enter Try.func14, Try.ntmps14
      go_wp2
      go_ret
      exact ⟨by rw [hd.out]; first | rfl | exact ret_bool (by simp; omega), rfl⟩
    · have hd : Hid (dig c = false) := decide_eq_false (by omega)
      have h2b : decide (c ≤ 57) = false := decide_eq_false h2
      go_enter Try.func14, Try.ntmps14
      go_wp2
      go_ret
      exact ⟨by rw [hd.out]; first | rfl | exact ret_bool (by simp; omega), rfl⟩
  · have hd : Hid (dig c = false) := decide_eq_false (by omega)
    have h1b : decide ((48 : Int) ≤ c) = false := decide_eq_false h1
    go_enter Try.func14, Try.ntmps14
    go_wp2
    go_ret
    exact ⟨by rw [hd.out]; first | rfl | exact ret_bool (by simp; omega), rfl⟩

set_option maxHeartbeats 400000 in
theorem accept8 (st : Nat) (w : World) (h : st ≤ 9) : Calls Try.prog 8 #[.int .i64 st] w fun e w' => e = .returned (.bool (accN st)) ∧ w' = w := by
  have : st = 0 ∨ st = 1 ∨ st = 2 ∨ st = 3 ∨ st = 4 ∨ st = 5 ∨ st = 6 ∨ st = 7 ∨ st = 8 ∨ st = 9 := by omega
  rcases this with rfl | rfl | rfl | rfl | rfl | rfl | rfl | rfl | rfl | rfl
  all_goals
    go_enter Try.func8, Try.ntmps8
    go_wp2
    go_ret
    exact ⟨rfl, rfl⟩
end Go.Proofs.Qxb6630669a
