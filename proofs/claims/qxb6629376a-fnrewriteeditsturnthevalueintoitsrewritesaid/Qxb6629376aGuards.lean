import Derived.Test.Qxb6629376aBase
namespace Go.Proofs.Qxb6629376a
open Go.RowKit

set_option maxHeartbeats 1000000 in
theorem bytes5 (nm : ByteArray) (a : Option Addr) (n c : Nat) (opt wi : ByteArray) (f : Nat → ByteArray) (w : World) (h1 : StrsAt w a n f) (z0 : nm.size ≤ maxLen) (z2 : opt.size ≤ maxLen) (z3 : wi.size ≤ maxLen) :
    Calls Try.prog 5 #[.string nm, .slice a n c, .string opt, .string wi] w fun e w' => BoolEnd e (SizesLe n f) ∧ w' = w := by
  have H1 : Hid (StrsAt w a n f) := h1
  clear h1
  unfold maxLen at *
  by_cases g6 : (1048576 : Int) < (nm.size : Int)
  · go_enter Try.func5, Try.ntmps5
    go_wp2
    go_ret
    exact ⟨.no, rfl⟩
  have g6b : decide ((1048576 : Int) < (nm.size : Int)) = false := decide_eq_false g6
  by_cases g12 : (1048576 : Int) < (n : Int)
  · go_enter Try.func5, Try.ntmps5
    go_wp2
    go_ret
    exact ⟨.no, rfl⟩
  have g12b : decide ((1048576 : Int) < (n : Int)) = false := decide_eq_false g12
  by_cases g18 : (1048576 : Int) < (nm.size : Int) + (n : Int)
  · go_enter Try.func5, Try.ntmps5
    go_wp2
    go_ret
    exact ⟨.no, rfl⟩
  have g18b : decide ((1048576 : Int) < (nm.size : Int) + (n : Int)) = false := decide_eq_false g18
  go_enter Try.func5, Try.ntmps5
  go_wp2
  go_loop [9, 10] (fun z i => ∃ (k : Nat) (t : Int), k ≤ n ∧ i = .int .i64 k ∧ z = .int .i64 t ∧ 0 ≤ t ∧ t ≤ 1048576 ∧ SizesLe k f) (fun _ i => n - (intOf i).toNat)
  case atStart => exact ⟨0, nm.size + n, by omega, rfl, rfl, by omega, by omega, .zero⟩
  case round =>
    obtain ⟨k, t, hk, rfl, rfl, ht0, ht1, hsa⟩ := hrel
    by_cases hlt : k < n
    · obtain ⟨b, off, rfl, hcell, hsz⟩ := H1.out k hlt
      unfold maxLen at hsz
      go_wp2
      · go_ret
        exact ⟨.no, rfl⟩
      · go_ret
        exact ⟨.no, rfl⟩
      · go_round
        case rel => exact ⟨k + 1, _, by omega, by go_num, rfl, by omega, by omega, hsa.step (by omega)⟩
        case measure => simp [intOf]; omega
    · have hall : Hid (SizesLe n f) := fun p hp => hsa p (by omega)
      clear hsa
      by_cases u0a : (1048576 : Int) < (opt.size : Int)
      · go_wp2
        go_ret
        exact ⟨.no, rfl⟩
      by_cases u0b : (1048576 : Int) < t + (opt.size : Int)
      · go_wp2
        go_ret
        exact ⟨.no, rfl⟩
      by_cases u1a : (1048576 : Int) < (wi.size : Int)
      · go_wp2
        go_ret
        exact ⟨.no, rfl⟩
      by_cases u1b : (1048576 : Int) < t + (opt.size : Int) + (wi.size : Int)
      · go_wp2
        go_ret
        exact ⟨.no, rfl⟩
      go_wp2
      go_ret
      exact ⟨.yes hall.out, rfl⟩

set_option maxHeartbeats 1000000 in
theorem bytes10 (nm : ByteArray) (a : Option Addr) (n c : Nat) (k0 : Int) (x opt wi : ByteArray) (f : Nat → ByteArray) (w : World) (h1 : StrsAt w a n f) (z0 : nm.size ≤ maxLen) (z1 : x.size ≤ maxLen) (z2 : opt.size ≤ maxLen) (z3 : wi.size ≤ maxLen) :
    Calls Try.prog 10 #[.string nm, .slice a n c, .int .i64 k0, .string x, .string opt, .string wi] w fun e w' => BoolEnd e (SizesLe n f) ∧ w' = w := by
  have H1 : Hid (StrsAt w a n f) := h1
  clear h1
  unfold maxLen at *
  by_cases g6 : (1048576 : Int) < (nm.size : Int)
  · go_enter Try.func10, Try.ntmps10
    go_wp2
    go_ret
    exact ⟨.no, rfl⟩
  have g6b : decide ((1048576 : Int) < (nm.size : Int)) = false := decide_eq_false g6
  by_cases g12 : (1048576 : Int) < (n : Int)
  · go_enter Try.func10, Try.ntmps10
    go_wp2
    go_ret
    exact ⟨.no, rfl⟩
  have g12b : decide ((1048576 : Int) < (n : Int)) = false := decide_eq_false g12
  by_cases g18 : (1048576 : Int) < (nm.size : Int) + (n : Int)
  · go_enter Try.func10, Try.ntmps10
    go_wp2
    go_ret
    exact ⟨.no, rfl⟩
  have g18b : decide ((1048576 : Int) < (nm.size : Int) + (n : Int)) = false := decide_eq_false g18
  go_enter Try.func10, Try.ntmps10
  go_wp2
  go_loop [13, 14] (fun z i => ∃ (k : Nat) (t : Int), k ≤ n ∧ i = .int .i64 k ∧ z = .int .i64 t ∧ 0 ≤ t ∧ t ≤ 1048576 ∧ SizesLe k f) (fun _ i => n - (intOf i).toNat)
  case atStart => exact ⟨0, nm.size + n, by omega, rfl, rfl, by omega, by omega, .zero⟩
  case round =>
    obtain ⟨k, t, hk, rfl, rfl, ht0, ht1, hsa⟩ := hrel
    by_cases hlt : k < n
    · obtain ⟨b, off, rfl, hcell, hsz⟩ := H1.out k hlt
      unfold maxLen at hsz
      go_wp2
      · go_ret
        exact ⟨.no, rfl⟩
      · go_ret
        exact ⟨.no, rfl⟩
      · go_round
        case rel => exact ⟨k + 1, _, by omega, by go_num, rfl, by omega, by omega, hsa.step (by omega)⟩
        case measure => simp [intOf]; omega
    · have hall : Hid (SizesLe n f) := fun p hp => hsa p (by omega)
      clear hsa
      by_cases u0a : (1048576 : Int) < (x.size : Int)
      · go_wp2
        go_ret
        exact ⟨.no, rfl⟩
      by_cases u0b : (1048576 : Int) < t + (x.size : Int)
      · go_wp2
        go_ret
        exact ⟨.no, rfl⟩
      by_cases u1a : (1048576 : Int) < (opt.size : Int)
      · go_wp2
        go_ret
        exact ⟨.no, rfl⟩
      by_cases u1b : (1048576 : Int) < t + (x.size : Int) + (opt.size : Int)
      · go_wp2
        go_ret
        exact ⟨.no, rfl⟩
      by_cases u2a : (1048576 : Int) < (wi.size : Int)
      · go_wp2
        go_ret
        exact ⟨.no, rfl⟩
      by_cases u2b : (1048576 : Int) < t + (x.size : Int) + (opt.size : Int) + (wi.size : Int)
      · go_wp2
        go_ret
        exact ⟨.no, rfl⟩
      go_wp2
      go_ret
      exact ⟨.yes hall.out, rfl⟩
end Go.Proofs.Qxb6629376a
