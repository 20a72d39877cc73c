import Derived.Test.Qxb6629312aGuards
namespace Go.Proofs.Qxb6629312a
open Go.RowKit

theorem beqB_true {a b : ByteArray} (h : a = b) : (a.toList == b.toList) = true := by rw [h]; simp
theorem beqB_false {a b : ByteArray} (h : a ≠ b) : (a.toList == b.toList) = false := by
  rw [beq_eq_false_iff_ne]
  intro e
  rw [ByteArray.toList_eq, ByteArray.toList_eq] at e
  exact h (Go.WideShapes.bytes_inj e)
def Apart (n : Nat) (s : Nat → ByteArray) : Prop := ∀ i j, i < j → j < n → s i ≠ s j
def FitsQ (n0 n1 n2 : Nat) (s0 : Nat → ByteArray) : Prop := n0 ≤ 4096 ∧ n1 = n0 ∧ n2 = n0 ∧ Apart n0 s0
/-- Row i is apart from all behind it, as far as j. -/
def RowApart (s : Nat → ByteArray) (i j : Nat) : Prop := ∀ q, i < q → q < j → s i ≠ s q
def RowsApart (n : Nat) (s : Nat → ByteArray) (i : Nat) : Prop := ∀ p, p < i → RowApart s p n
theorem RowsApart.zero {n : Nat} {s : Nat → ByteArray} : RowsApart n s 0 := fun _ h => absurd h (by omega)
theorem RowsApart.step {n : Nat} {s : Nat → ByteArray} {i : Nat} (h : RowsApart n s i) (r : RowApart s i n) : RowsApart n s (i + 1) := fun p hp => by
  by_cases e : p = i
  · subst e; exact r
  · exact h p (by omega)
theorem RowsApart.all {n : Nat} {s : Nat → ByteArray} (h : RowsApart n s n) : Apart n s := fun i j hij hj => h i (by omega) j hij hj
theorem RowApart.zero {s : Nat → ByteArray} {i : Nat} : RowApart s i (i + 1) := fun _ _ _ => by omega
theorem RowApart.step {s : Nat → ByteArray} {i j : Nat} (h : RowApart s i j) (r : s i ≠ s j) : RowApart s i (j + 1) := fun q h1 h2 => by
  by_cases e : q = j
  · subst e; exact r
  · exact h q h1 (by omega)

set_option maxHeartbeats 2000000 in
theorem fits6 (a0 a1 a2 : Option Addr) (n0 c0 n1 c1 n2 c2 : Nat) (s0 s1 : Nat → ByteArray) (w : World)
    (h0 : StrsAt w a0 n0 s0) (h1 : StrsAt w a1 n1 s1) (z0 : SizesLe n0 s0) (z1 : SizesLe n1 s1) :
    Calls Try.prog 6 #[.slice a0 n0 c0, .slice a1 n1 c1, .slice a2 n2 c2] w fun e w' => BoolEnd e (FitsQ n0 n1 n2 s0) ∧ ∃ m, w' = w.drewN m := by
  have H0 : Hid (StrsAt w a0 n0 s0) := h0
  have H1 : Hid (StrsAt w a1 n1 s1) := h1
  clear h0 h1
  by_cases g0 : (4096 : Int) < (n0 : Int)
  · go_enter Try.func6, Try.ntmps6
    go_wp2
    go_ret
    exact ⟨.no, 0, rfl⟩
  have g0b : decide ((4096 : Int) < (n0 : Int)) = false := decide_eq_false g0
  by_cases g1 : (4096 : Int) < (n1 : Int)
  · go_enter Try.func6, Try.ntmps6
    go_wp2
    go_ret
    exact ⟨.no, 0, rfl⟩
  have g1b : decide ((4096 : Int) < (n1 : Int)) = false := decide_eq_false g1
  by_cases g2 : (4096 : Int) < (n2 : Int)
  · go_enter Try.func6, Try.ntmps6
    go_wp2
    go_ret
    exact ⟨.no, 0, rfl⟩
  have g2b : decide ((4096 : Int) < (n2 : Int)) = false := decide_eq_false g2
  have g3b : decide ((1048576 : Int) < 8 * (n2 : Int) + 16 * (n0 : Int) + 16 * (n1 : Int)) = false := decide_eq_false (by omega)
  go_enter Try.func6, Try.ntmps6
  go_wp2
  go_loop [7, 8] (fun z i => ∃ (k : Nat) (t : Int), k ≤ n0 ∧ i = .int .i64 k ∧ z = .int .i64 t ∧ 0 ≤ t ∧ t ≤ 1048576) (fun _ i => n0 - (intOf i).toNat)
  case atStart => exact ⟨0, _, by omega, rfl, rfl, by omega, by omega⟩
  case round =>
    obtain ⟨k, t, hk, rfl, rfl, ht0, ht1⟩ := hrel
    by_cases hlt : k < n0
    · obtain ⟨b, off, rfl, hcell, _⟩ := H0.out k hlt
      have hsz := z0 k hlt
      go_wp2
      · go_ret
        exact ⟨.no, 0, rfl⟩
      · go_round
        case rel => exact ⟨k + 1, _, by omega, by go_num, rfl, by omega, by omega⟩
        case measure => simp [intOf]; omega
    · go_wp2
      go_loop [7, 9] (fun z i => ∃ (k : Nat) (t : Int), k ≤ n1 ∧ i = .int .i64 k ∧ z = .int .i64 t ∧ 0 ≤ t ∧ t ≤ 1048576) (fun _ i => n1 - (intOf i).toNat)
      case atStart => exact ⟨0, t, by omega, rfl, rfl, by omega, by omega⟩
      case round =>
        obtain ⟨k, t, hk, rfl, rfl, ht0, ht1⟩ := hrel
        by_cases hlt : k < n1
        · obtain ⟨b, off, rfl, hcell, _⟩ := H1.out k hlt
          have hsz := z1 k hlt
          go_wp2
          · go_ret
            exact ⟨.no, 0, rfl⟩
          · go_round
            case rel => exact ⟨k + 1, _, by omega, by go_num, rfl, by omega, by omega⟩
            case measure => simp [intOf]; omega
        · by_cases e1 : n1 = n0
          rotate_left
          · have e1b : ((n1 : Int) != (n0 : Int)) = true := by rw [bne_iff_ne]; omega
            go_wp2
            go_ret
            exact ⟨.no, 0, rfl⟩
          have e1b : ((n1 : Int) != (n0 : Int)) = false := by simp [e1]
          by_cases e2 : n2 = n0
          rotate_left
          · have e2b : ((n2 : Int) != (n0 : Int)) = true := by rw [bne_iff_ne]; omega
            go_wp2
            go_ret
            exact ⟨.no, 0, rfl⟩
          have e2b : ((n2 : Int) != (n0 : Int)) = false := by simp [e2]
          have E1 : Hid (n1 = n0) := e1
          have E2 : Hid (n2 = n0) := e2
          clear e1 e2
          go_wp2
          go_loopw [10, 11] (fun i _ wr => ∃ k m : Nat, k ≤ n0 ∧ i = .int .i64 k ∧ RowsApart n0 s0 k ∧ wr = w.drewN m) (fun i _ _ => n0 - (intOf i).toNat)
          case atStart => exact ⟨0, 0, by omega, rfl, .zero, rfl⟩
          case round =>
            obtain ⟨k, m, hk, rfl, hrows, rfl⟩ := hrel
            by_cases hlt : k < n0
            · obtain ⟨b, off, rfl, hcell, _⟩ := H0.out k hlt
              go_wp2
              go_loopw [11] (fun j wr => ∃ q m : Nat, k < q ∧ q ≤ n0 ∧ j = .int .i64 q ∧ RowApart s0 k q ∧ wr = w.drewN m) (fun j _ => n0 - (intOf j).toNat)
              case atStart => exact ⟨k + 1, m, by omega, by omega, by go_num, .zero, rfl⟩
              case round =>
                obtain ⟨q, m, hkq, hq, rfl, hrow, rfl⟩ := hrel
                by_cases hqlt : q < n0
                · obtain ⟨b', off', hbo, hcell2, _⟩ := H0.out q hqlt
                  simp only [Option.some.injEq, Addr.mk.injEq] at hbo
                  obtain ⟨rfl, rfl, _⟩ := hbo
                  by_cases heq : s0 k = s0 q
                  · have heb : ((s0 k).toList == (s0 q).toList) = true := beqB_true heq
                    clear heq
                    go_wp2
                    go_quiet (fail)
                    go_wp2
                    go_ret
                    refine ⟨.no, ?_⟩
                    rw [World.drewN_drewN]
                    exact ⟨_, rfl⟩
                  · have heb : ((s0 k).toList == (s0 q).toList) = false := beqB_false heq
                    have HNE : Hid (s0 k ≠ s0 q) := heq
                    clear heq
                    go_wp2
                    go_quiet (fail)
                    go_wp2
                    exact ⟨⟨q + 1, _, by omega, by omega, by go_num, hrow.step HNE.out, rfl⟩, by simp [intOf]; omega⟩
                · go_wp2
                  go_roundw
                  case rel => exact ⟨k + 1, m, by omega, by go_num, hrows.step (fun q' h1 h2 => hrow q' h1 (by omega)), rfl⟩
                  case measure => simp [intOf]; omega
            · go_wp2
              go_ret
              have : k = n0 := by omega
              subst this
              exact ⟨.yes ⟨by omega, E1.out, E2.out, hrows.all⟩, m, rfl⟩
end Go.Proofs.Qxb6629312a
