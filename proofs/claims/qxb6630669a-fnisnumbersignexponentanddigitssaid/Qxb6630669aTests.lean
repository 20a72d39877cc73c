import Derived.Test.Qxb6630669aNum
import Derived.Test.Qxb6630669aPlain4
namespace Go.Proofs.Qxb6630669a
open Go.RowKit

theorem bl_get (s : ByteArray) (k : Nat) (h : k < s.size) : (bl s)[k]'(by rw [bl_length]; exact h) = (s[k].toNat : Int) := by
  simp [bl]
  rfl
theorem bl_mem {s : ByteArray} {c : Int} (h : c ∈ bl s) : ∃ k, ∃ hk : k < s.size, (s[k].toNat : Int) = c := by
  obtain ⟨k, hk, e⟩ := List.getElem_of_mem h
  have hk' : k < s.size := by rw [← bl_length]; exact hk
  exact ⟨k, hk', by rw [← bl_get s k hk']; exact e⟩

/-! hasExpLetter -/
def NoE (s : ByteArray) (k : Nat) : Prop := ∀ q (h : q < s.size), q < k → expL (s[q].toNat : Int) = false
theorem NoE.step {s : ByteArray} {k : Nat} (h : NoE s k) (hk : k < s.size) (he : expL (s[k].toNat : Int) = false) : NoE s (k + 1) := fun q hq h2 => by
  by_cases e : q = k
  · subst e; exact he
  · exact h q hq (by omega)
theorem hasE_no {s : ByteArray} (h : NoE s s.size) : hasE (bl s) = false := by
  unfold hasE
  rw [List.any_eq_false]
  intro c hc
  obtain ⟨k, hk, e⟩ := bl_mem hc
  rw [← e, h k hk hk]
  simp
theorem hasE_yes {s : ByteArray} {k : Nat} (hk : k < s.size) (h : expL (s[k].toNat : Int) = true) : hasE (bl s) = true := by
  unfold hasE
  rw [List.any_eq_true]
  exact ⟨_, List.getElem_mem (by rw [bl_length]; exact hk), by rw [bl_get s k hk]; exact h⟩

set_option maxHeartbeats 1000000 in
theorem hasE10 (s : ByteArray) (w : World) (hs : s.size ≤ 4000000) :
    Calls Try.prog 10 #[.string s] w fun e w' => e = .returned (.bool (hasE (bl s))) ∧ w' = w := by
  go_enter Try.func10, Try.ntmps10
  go_wp2
  go_loop [3] (fun t => ∃ k : Nat, k ≤ s.size ∧ t = .int .i64 k ∧ NoE s k) (fun t => s.size - (intOf t).toNat)
  case atStart => exact ⟨0, by omega, rfl, fun q _ h => by omega⟩
  case round =>
    obtain ⟨k, hk, rfl, hD⟩ := hrel
    have HD : Hid (NoE s k) := hD
    clear hD
    by_cases hlt : k < s.size
    · by_cases h1 : (s[k].toNat : Int) = 101
      · have hv : Hid (hasE (bl s) = true) := hasE_yes hlt (decide_eq_true (.inl h1))
        have h1b : ((s[k].toNat : Int) == 101) = true := by simp [h1]
        go_wp2
        go_ret
        exact ⟨by rw [hv.out]; rfl, rfl⟩
      · have h1b : ((s[k].toNat : Int) == 101) = false := by simp [h1]
        by_cases h2 : (s[k].toNat : Int) = 69
        · have hv : Hid (hasE (bl s) = true) := hasE_yes hlt (decide_eq_true (.inr h2))
          have h2b : ((s[k].toNat : Int) == 69) = true := by simp [h2]
          go_wp2
          go_ret
          exact ⟨by rw [hv.out]; rfl, rfl⟩
        · have h2b : ((s[k].toNat : Int) == 69) = false := by simp [h2]
          have hn : Hid (NoE s (k + 1)) := HD.out.step hlt (decide_eq_false (by omega))
          go_wp2
          go_round
          case rel => exact ⟨k + 1, by omega, by go_num, hn.out⟩
          case measure => simp [intOf]; omega
    · have hks : k = s.size := by omega
      have hv : Hid (hasE (bl s) = false) := hasE_no (by rw [← hks]; exact HD.out)
      clear hks
      go_wp2
      go_ret
      exact ⟨by rw [hv.out]; rfl, rfl⟩

/-! Digits alone, from i on -/
theorem digs_yes {s : ByteArray} {i : Nat} (h : i < s.size) (hD : DigsTo s i s.size) : digsN ((bl s).drop i) = true := by
  unfold digsN
  rw [Bool.and_eq_true]
  refine ⟨?_, ?_⟩
  · simp [bl_length]; omega
  · rw [List.all_eq_true]
    intro c hc
    obtain ⟨k, hk, e⟩ := List.getElem_of_mem hc
    rw [List.getElem_drop] at e
    have hk' : i + k < s.size := by rw [List.length_drop, bl_length] at hk; omega
    rw [← e, bl_get s _ hk']
    exact hD _ hk' (by omega) hk'
theorem digs_no {s : ByteArray} {i k : Nat} (hi : i ≤ k) (hk : k < s.size) (hd : dig (s[k].toNat : Int) = false) : digsN ((bl s).drop i) = false := by
  unfold digsN
  have : ((bl s).drop i).all dig = false := by
    rw [List.all_eq_false]
    refine ⟨(s[k].toNat : Int), ?_, by rw [hd]; simp⟩
    rw [List.mem_iff_getElem]
    refine ⟨k - i, by rw [List.length_drop, bl_length]; omega, ?_⟩
    rw [List.getElem_drop]
    rw [← bl_get s k hk]
    congr 1
    omega
  rw [this, Bool.and_false]
theorem digs_none {s : ByteArray} {i : Nat} (h : s.size ≤ i) : digsN ((bl s).drop i) = false := by
  rw [List.drop_of_length_le (by rw [bl_length]; exact h)]; rfl
theorem tail_sg_list : ∀ (l : List Int) (h : 0 < l.length), sgn (l[0]) = true → tailN l = digsN (l.drop 1)
  | [], h, _ => absurd h (by simp)
  | c :: l, _, e => by
    have e' : sgn c = true := e
    simp [tailN, e']
theorem tail_ns_list : ∀ (l : List Int) (h : 0 < l.length), sgn (l[0]) = false → tailN l = digsN l
  | [], h, _ => absurd h (by simp)
  | c :: l, _, e => by
    have e' : sgn c = false := e
    simp [tailN, e', digsN]
theorem tail_sg {s : ByteArray} (h : isSg s 0 = true) : tailN (bl s) = digsN ((bl s).drop 1) := by
  obtain ⟨hl, e⟩ := sg_true h
  exact tail_sg_list _ (by rw [bl_length]; exact hl) (by rw [bl_get s 0 hl]; exact e)
theorem tail_ns {s : ByteArray} (h : isSg s 0 = false) : tailN (bl s) = digsN ((bl s).drop 0) := by
  by_cases hl : 0 < s.size
  · exact tail_ns_list _ (by rw [bl_length]; exact hl) (by rw [bl_get s 0 hl]; exact sg_false h hl)
  · have : bl s = [] := List.eq_nil_of_length_eq_zero (by rw [bl_length]; omega)
    rw [this]; rfl

set_option maxHeartbeats 1000000 in
theorem digs12 (s : ByteArray) (w : World) (hs : s.size ≤ 4000000) :
    Calls Try.prog 12 #[.string s] w fun e w' => e = .returned (.bool (digsN (bl s))) ∧ w' = w := by
  by_cases h0 : s.size = 0
  · have hv : Hid (digsN (bl s) = false) := digs_none (i := 0) (by omega)
    have h0b : ((s.size : Int) == 0) = true := by simp [h0]
    go_enter Try.func12, Try.ntmps12
    go_wp2
    go_ret
    exact ⟨by rw [hv.out]; rfl, rfl⟩
  have h0b : ((s.size : Int) == 0) = false := beq_eq_false_iff_ne.mpr (by omega)
  go_enter Try.func12, Try.ntmps12
  go_wp2
  go_loop [3] (fun t => ∃ k : Nat, k ≤ s.size ∧ t = .int .i64 k ∧ DigsTo s 0 k) (fun t => s.size - (intOf t).toNat)
  case atStart => exact ⟨0, by omega, rfl, .zero⟩
  case round =>
    obtain ⟨k, hk, rfl, hD⟩ := hrel
    have HD : Hid (DigsTo s 0 k) := hD
    clear hD
    by_cases hlt : k < s.size
    · go_wp2_with fail
      refine (digit14 _ _).mono ?_
      rintro e w1 ⟨rfl, hw⟩
      replace hw := hw.symm; subst hw
      generalize hb : dig (s[k].toNat : Int) = b
      have HB : Hid (dig (s[k].toNat : Int) = b) := hb
      clear hb
      cases b
      · have hv : Hid (digsN (bl s) = false) := digs_no (i := 0) (Nat.zero_le _) hlt HB.out
        go_wp2
        go_ret
        exact ⟨by rw [hv.out]; rfl, rfl⟩
      · have hn : Hid (DigsTo s 0 (k + 1)) := HD.out.step hlt HB.out
        go_wp2
        go_round
        case rel => exact ⟨k + 1, by omega, by go_num, hn.out⟩
        case measure => simp [intOf]; omega
    · have hks : k = s.size := by omega
      have hv : Hid (digsN (bl s) = true) := digs_yes (i := 0) (by omega) (by rw [← hks]; exact HD.out)
      clear hks
      go_wp2
      go_ret
      exact ⟨by rw [hv.out]; rfl, rfl⟩

set_option maxHeartbeats 1000000 in
theorem tail11 (s : ByteArray) (w : World) (hs : s.size ≤ 4000000) :
    Calls Try.prog 11 #[.string s] w fun e w' => e = .returned (.bool (tailN (bl s))) ∧ w' = w := by
  go_enter Try.func11, Try.ntmps11
  go_upto_region 2 with fail
  go_cut [19] (fun v wx => wx = w ∧ v = .bool (isSg s 0))
  case first =>
    as_aux_lemma =>
    by_cases hl : 0 < s.size
    · by_cases h1 : (s[0].toNat : Int) = 43
      · have hv : Hid (isSg s 0 = true) := by show _ = _; unfold isSg; rw [dif_pos hl]; exact decide_eq_true (.inl h1)
        have h1b : ((s[0].toNat : Int) == 43) = true := by simp [h1]
        go_wp2
        go_meet
        exact ⟨rfl, by rw [hv.out]⟩
      · have h1b : ((s[0].toNat : Int) == 43) = false := by simp [h1]
        by_cases h2 : (s[0].toNat : Int) = 45
        · have hv : Hid (isSg s 0 = true) := by show _ = _; unfold isSg; rw [dif_pos hl]; exact decide_eq_true (.inr h2)
          have h2b : ((s[0].toNat : Int) == 45) = true := by simp [h2]
          go_wp2
          go_meet
          exact ⟨rfl, by rw [hv.out]⟩
        · have hv : Hid (isSg s 0 = false) := by show _ = _; unfold isSg; rw [dif_pos hl]; exact decide_eq_false (by omega)
          have h2b : ((s[0].toNat : Int) == 45) = false := by simp [h2]
          go_wp2
          go_meet
          exact ⟨rfl, by rw [hv.out]⟩
    · have hv : Hid (isSg s 0 = false) := by show _ = _; unfold isSg; rw [dif_neg hl]
      have hlb : decide ((0 : Int) < (s.size : Int)) = false := decide_eq_false (by omega)
      go_wp2
      go_meet
      exact ⟨rfl, by rw [hv.out]⟩
  case rest =>
  obtain ⟨hw, hv⟩ := hcut
  subst hw hv
  go_upto_if 19 with fail
  go_cut [3] (fun v wx => wx = wc ∧ ∃ i : Nat, v = .int .i64 i ∧ i ≤ s.size ∧ tailN (bl s) = digsN ((bl s).drop i))
  case first =>
    as_aux_lemma =>
    generalize hb : isSg s 0 = b
    have HB : Hid (isSg s 0 = b) := hb
    clear hb
    cases b
    · go_wp2
      go_meet
      exact ⟨rfl, 0, rfl, Nat.zero_le _, tail_ns HB.out⟩
    · have hl : 1 ≤ s.size := (sg_true HB.out).1
      go_wp2
      go_meet
      exact ⟨rfl, 1, rfl, hl, tail_sg HB.out⟩
  case rest =>
  obtain ⟨hw, i, hv, hi, hT⟩ := hcut
  subst hw hv
  have HT : Hid (tailN (bl s) = digsN ((bl s).drop i)) := hT
  clear hT
  by_cases h0 : i = s.size
  · have hv : Hid (tailN (bl s) = false) := HT.out.trans (digs_none (by omega))
    have h0b : ((i : Int) == (s.size : Int)) = true := by simp [h0]
    clear h0
    go_wp2
    go_ret
    exact ⟨by rw [hv.out]; rfl, rfl⟩
  have h0b : ((i : Int) == (s.size : Int)) = false := beq_eq_false_iff_ne.mpr (by omega)
  go_wp2
  go_loop [3] (fun t => ∃ k : Nat, i ≤ k ∧ k ≤ s.size ∧ t = .int .i64 k ∧ DigsTo s i k) (fun t => s.size - (intOf t).toNat)
  case atStart => exact ⟨i, Nat.le_refl _, hi, rfl, .zero⟩
  case round =>
    obtain ⟨k, hik, hk, rfl, hD⟩ := hrel
    have HD : Hid (DigsTo s i k) := hD
    clear hD
    by_cases hlt : k < s.size
    · go_wp2_with fail
      refine (digit14 _ _).mono ?_
      rintro e w1 ⟨rfl, hw⟩
      replace hw := hw.symm; subst hw
      generalize hb : dig (s[k].toNat : Int) = b
      have HB : Hid (dig (s[k].toNat : Int) = b) := hb
      clear hb
      cases b
      · have hv : Hid (tailN (bl s) = false) := HT.out.trans (digs_no hik hlt HB.out)
        go_wp2
        go_ret
        exact ⟨by rw [hv.out]; rfl, rfl⟩
      · have hn : Hid (DigsTo s i (k + 1)) := HD.out.step hlt HB.out
        go_wp2
        go_round
        case rel => exact ⟨k + 1, by omega, by omega, by go_num, hn.out⟩
        case measure => simp [intOf]; omega
    · have hks : k = s.size := by omega
      have hv : Hid (tailN (bl s) = true) := HT.out.trans (digs_yes (by omega) (by rw [← hks]; exact HD.out))
      clear hks
      go_wp2
      go_ret
      exact ⟨by rw [hv.out]; rfl, rfl⟩

set_option maxHeartbeats 1000000 in
theorem bytes9 (s t : ByteArray) (w : World) (hs : s.size ≤ maxLen) (ht : t.size ≤ maxLen) :
    Calls Try.prog 9 #[.string s, .string t] w fun e w' => e = .returned (.bool (decide ((s.size : Int) + (t.size : Int) ≤ 1048576))) ∧ w' = w := by
  unfold maxLen at hs ht
  by_cases h : (s.size : Int) + (t.size : Int) ≤ 1048576
  · have hd : Hid (decide ((s.size : Int) + (t.size : Int) ≤ 1048576) = true) := decide_eq_true h
    go_enter Try.func9, Try.ntmps9
    go_wp2
    go_ret
    exact ⟨by rw [hd.out]; rfl, rfl⟩
  · have hd : Hid (decide ((s.size : Int) + (t.size : Int) ≤ 1048576) = false) := decide_eq_false h
    go_enter Try.func9, Try.ntmps9
    go_wp2
    all_goals
      go_ret
      exact ⟨by rw [hd.out]; rfl, rfl⟩
end Go.Proofs.Qxb6630669a
