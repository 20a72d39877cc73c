import Derived.Test.Qxb6629312aRows
import Derived.WalkKit
import Derived.WalkSpells
import Derived.WalkLawsBesides
import Derived.Deep.QuietTactic
import Derived.BigQuiet
namespace Go.Proofs.Qxb6629312a
open Go.RowKit

/-- A slice of strings as the walk reads it: n cells at one row. -/
def StrsAt (w : World) (a : Option Addr) (n : Nat) (ss : Nat → ByteArray) : Prop :=
  ∀ k, k < n → ∃ b off, a = some ⟨b, off, none⟩ ∧ w.cell? ⟨b, off + k, none⟩ = some (.string (ss k)) ∧ (ss k).size ≤ maxLen

/-- The call has returned a bool; where it is true, Q holds. -/
def BoolEnd (e : Ending) (Q : Prop) : Prop := ∃ b, e = .returned (.bool b) ∧ (b = true → Q)
theorem BoolEnd.no {Q : Prop} : BoolEnd (.returned (.bool false)) Q := ⟨_, rfl, by simp⟩
def SizesLe (n : Nat) (s : Nat → ByteArray) : Prop := ∀ p, p < n → (s p).size ≤ 1048576
theorem SizesLe.zero {s : Nat → ByteArray} : SizesLe 0 s := fun _ h => absurd h (by omega)
theorem SizesLe.step {n : Nat} {s : Nat → ByteArray} (h : SizesLe n s) (r : (s n).size ≤ 1048576) : SizesLe (n + 1) s := fun p hp => by
  by_cases e : p = n
  · subst e; exact r
  · exact h p (by omega)
theorem BoolEnd.yes {Q : Prop} (h : Q) : BoolEnd (.returned (.bool true)) Q := ⟨_, rfl, fun _ => h⟩

set_option maxHeartbeats 1000000 in
theorem bytes5 (a0 a1 a2 : Option Addr) (n0 c0 n1 c1 n2 c2 : Nat) (s0 s1 : Nat → ByteArray) (w : World)
    (h0 : StrsAt w a0 n0 s0) (h1 : StrsAt w a1 n1 s1) :
    Calls Try.prog 5 #[.slice a0 n0 c0, .slice a1 n1 c1, .slice a2 n2 c2] w fun e w' => BoolEnd e (SizesLe n0 s0 ∧ SizesLe n1 s1) ∧ w' = w := by
  have H0 : Hid (StrsAt w a0 n0 s0) := h0
  have H1 : Hid (StrsAt w a1 n1 s1) := h1
  clear h0 h1
  by_cases g0 : (1048576 : Int) < (n0 : Int)
  · go_enter Try.func5, Try.ntmps5
    go_wp2
    go_ret
    exact ⟨.no, rfl⟩
  have g0b : decide ((1048576 : Int) < (n0 : Int)) = false := decide_eq_false g0
  go_enter Try.func5, Try.ntmps5
  go_wp2
  go_loop [7, 8] (fun z i => ∃ (k : Nat) (t : Int), k ≤ n0 ∧ i = .int .i64 k ∧ z = .int .i64 t ∧ 0 ≤ t ∧ t ≤ 1048576 ∧ SizesLe k s0) (fun _ i => n0 - (intOf i).toNat)
  case atStart => exact ⟨0, n0, by omega, rfl, rfl, by omega, by omega, .zero⟩
  case round =>
    obtain ⟨k, t, hk, rfl, rfl, ht0, ht1, hsa⟩ := hrel
    by_cases hlt : k < n0
    · obtain ⟨b, off, rfl, hcell, hsz⟩ := H0.out k hlt
      unfold maxLen at hsz
      go_wp2
      · go_ret
        exact ⟨.no, rfl⟩
      · go_ret
        exact ⟨.no, rfl⟩
      · go_round
        case rel => exact ⟨k + 1, _, by omega, by go_num, rfl, by omega, by omega, hsa.step (by omega)⟩
        case measure => simp [intOf]; omega
    · by_cases g1 : (1048576 : Int) < (n1 : Int)
      · go_wp2
        go_ret
        exact ⟨.no, rfl⟩
      have g1b : decide ((1048576 : Int) < (n1 : Int)) = false := decide_eq_false g1
      by_cases g2 : (1048576 : Int) < t + (n1 : Int)
      · go_wp2
        go_ret
        exact ⟨.no, rfl⟩
      have g2b : decide ((1048576 : Int) < t + (n1 : Int)) = false := decide_eq_false g2
      go_wp2
      go_loop [7, 9] (fun z i => ∃ (k : Nat) (t : Int), k ≤ n1 ∧ i = .int .i64 k ∧ z = .int .i64 t ∧ 0 ≤ t ∧ t ≤ 1048576 ∧ SizesLe k s1) (fun _ i => n1 - (intOf i).toNat)
      case atStart => exact ⟨0, t + n1, by omega, rfl, rfl, by omega, by omega, .zero⟩
      case round =>
        obtain ⟨k, t, hk, rfl, rfl, ht0, ht1, hsb⟩ := hrel
        by_cases hlt : k < n1
        · obtain ⟨b, off, rfl, hcell, hsz⟩ := H1.out k hlt
          unfold maxLen at hsz
          go_wp2
          · go_ret
            exact ⟨.no, rfl⟩
          · go_ret
            exact ⟨.no, rfl⟩
          · go_round
            case rel => exact ⟨k + 1, _, by omega, by go_num, rfl, by omega, by omega, hsb.step (by omega)⟩
            case measure => simp [intOf]; omega
        · by_cases g3 : (1048576 : Int) < (n2 : Int)
          · go_wp2
            go_ret
            exact ⟨.no, rfl⟩
          by_cases g4 : (1048576 : Int) < t + (n2 : Int)
          · go_wp2
            go_ret
            exact ⟨.no, rfl⟩
          · go_wp2
            go_ret
            exact ⟨.yes ⟨fun p hp => hsa p (by omega), fun p hp => hsb p (by omega)⟩, rfl⟩

set_option maxHeartbeats 1000000 in
theorem bytes13 (a0 a1 a2 : Option Addr) (n0 c0 n1 c1 n2 c2 : Nat) (s0 s1 : Nat → ByteArray) (w : World)
    (h0 : StrsAt w a0 n0 s0) (h1 : StrsAt w a1 n1 s1) :
    Calls Try.prog 13 #[.slice a0 n0 c0, .slice a1 n1 c1, .slice a2 n2 c2] w fun e w' => BoolEnd e (SizesLe n0 s0 ∧ SizesLe n1 s1) ∧ w' = w := by
  have H0 : Hid (StrsAt w a0 n0 s0) := h0
  have H1 : Hid (StrsAt w a1 n1 s1) := h1
  clear h0 h1
  by_cases g0 : (1048576 : Int) < (n0 : Int)
  · go_enter Try.func13, Try.ntmps13
    go_wp2
    go_ret
    exact ⟨.no, rfl⟩
  have g0b : decide ((1048576 : Int) < (n0 : Int)) = false := decide_eq_false g0
  go_enter Try.func13, Try.ntmps13
  go_wp2
  go_loop [7, 8] (fun z i => ∃ (k : Nat) (t : Int), k ≤ n0 ∧ i = .int .i64 k ∧ z = .int .i64 t ∧ 0 ≤ t ∧ t ≤ 1048576 ∧ SizesLe k s0) (fun _ i => n0 - (intOf i).toNat)
  case atStart => exact ⟨0, n0, by omega, rfl, rfl, by omega, by omega, .zero⟩
  case round =>
    obtain ⟨k, t, hk, rfl, rfl, ht0, ht1, hsa⟩ := hrel
    by_cases hlt : k < n0
    · obtain ⟨b, off, rfl, hcell, hsz⟩ := H0.out k hlt
      unfold maxLen at hsz
      go_wp2
      · go_ret
        exact ⟨.no, rfl⟩
      · go_ret
        exact ⟨.no, rfl⟩
      · go_round
        case rel => exact ⟨k + 1, _, by omega, by go_num, rfl, by omega, by omega, hsa.step (by omega)⟩
        case measure => simp [intOf]; omega
    · by_cases g1 : (1048576 : Int) < (n1 : Int)
      · go_wp2
        go_ret
        exact ⟨.no, rfl⟩
      have g1b : decide ((1048576 : Int) < (n1 : Int)) = false := decide_eq_false g1
      by_cases g2 : (1048576 : Int) < t + (n1 : Int)
      · go_wp2
        go_ret
        exact ⟨.no, rfl⟩
      have g2b : decide ((1048576 : Int) < t + (n1 : Int)) = false := decide_eq_false g2
      go_wp2
      go_loop [7, 9] (fun z i => ∃ (k : Nat) (t : Int), k ≤ n1 ∧ i = .int .i64 k ∧ z = .int .i64 t ∧ 0 ≤ t ∧ t ≤ 1048576 ∧ SizesLe k s1) (fun _ i => n1 - (intOf i).toNat)
      case atStart => exact ⟨0, t + n1, by omega, rfl, rfl, by omega, by omega, .zero⟩
      case round =>
        obtain ⟨k, t, hk, rfl, rfl, ht0, ht1, hsb⟩ := hrel
        by_cases hlt : k < n1
        · obtain ⟨b, off, rfl, hcell, hsz⟩ := H1.out k hlt
          unfold maxLen at hsz
          go_wp2
          · go_ret
            exact ⟨.no, rfl⟩
          · go_ret
            exact ⟨.no, rfl⟩
          · go_round
            case rel => exact ⟨k + 1, _, by omega, by go_num, rfl, by omega, by omega, hsb.step (by omega)⟩
            case measure => simp [intOf]; omega
        · by_cases g3 : (1048576 : Int) < (n2 : Int)
          · go_wp2
            go_ret
            exact ⟨.no, rfl⟩
          by_cases g4 : (1048576 : Int) < t + (n2 : Int)
          · go_wp2
            go_ret
            exact ⟨.no, rfl⟩
          · go_wp2
            go_ret
            exact ⟨.yes ⟨fun p hp => hsa p (by omega), fun p hp => hsb p (by omega)⟩, rfl⟩

end Go.Proofs.Qxb6629312a
