import Derived.Test.Qxb6629312aPtrs
import Derived.Deep.DeepCutAuto
namespace Go.Proofs.Qxb6629312a
open Go.RowKit

theorem StrsAt.below {w w' : World} {a : Option Addr} {n : Nat} {s : Nat → ByteArray} (h : StrsAt w a n s) (hb : Below w.heap.size w w') : StrsAt w' a n s := fun k hk => by
  obtain ⟨b, off, e, hc, hs⟩ := h k hk
  exact ⟨b, off, e, cell_later hb hc, hs⟩
theorem IntsAt.below {w w' : World} {a : Option Addr} {n : Nat} {s : Nat → Int} (h : IntsAt w a n s) (hb : Below w.heap.size w w') : IntsAt w' a n s := fun k hk => by
  obtain ⟨b, off, e, hc⟩ := h k hk
  exact ⟨b, off, e, cell_later hb hc⟩
theorem StrsAt.fresh (w : World) {n : Nat} {s : Nat → ByteArray} (hs : ∀ k, k < n → (s k).size ≤ maxLen) : StrsAt (w.alloc (.cells (rowOf (fun k => .string (s k)) n) 9)) (some ⟨w.heap.size, 0, none⟩) n s := fun k hk =>
  ⟨_, _, rfl, by rw [Nat.zero_add]; exact cell_of_block heap_alloc_eq (rowOf_get _ hk), hs k hk⟩
theorem IntsAt.fresh (w : World) {n : Nat} {s : Nat → Int} : IntsAt (w.alloc (.cells (rowOf (fun k => .int .i64 (s k)) n) 2)) (some ⟨w.heap.size, 0, none⟩) n s := fun k hk =>
  ⟨_, _, rfl, by rw [Nat.zero_add]; exact cell_of_block heap_alloc_eq (rowOf_get _ hk)⟩
theorem StrsAt.copy {W : World} {a : Option Addr} {n : Nat} {s : Nat → ByteArray} (h : StrsAt W a n s) (c : Nat) (ty : TypeId) :
    (Builtin.copy_ #[22, 22] ty #[.slice (some ⟨W.heap.size, 0, none⟩) n n, .slice a n c]).run Try.prog (W.alloc (.cells (blankS n) 9)) = .ok (.int .i64 n) (W.alloc (.cells (rowOf (fun k => .string (s k)) n) 9)) :=
  copy_new Try.underlying22 Try.size9 W a n c _ _ ty (fun _ => rfl) fun k hk => by
    obtain ⟨b, off, e, hc, _⟩ := h k hk
    exact ⟨b, off, e, hc⟩
theorem IntsAt.copy {W : World} {a : Option Addr} {n : Nat} {s : Nat → Int} (h : IntsAt W a n s) (c : Nat) (ty : TypeId) :
    (Builtin.copy_ #[23, 23] ty #[.slice (some ⟨W.heap.size, 0, none⟩) n n, .slice a n c]).run Try.prog (W.alloc (.cells (blankI n) 2)) = .ok (.int .i64 n) (W.alloc (.cells (rowOf (fun k => .int .i64 (s k)) n) 2)) :=
  copy_new Try.underlying23 Try.size2 W a n c _ _ ty (fun _ => rfl) fun k hk => by
    obtain ⟨b, off, e, hc⟩ := h k hk
    exact ⟨b, off, e, hc⟩

set_option maxHeartbeats 1000000 in
set_option maxRecDepth 100000 in
theorem law3 (a0 a1 a2 : Option Addr) (n0 c0 n1 c1 n2 c2 : Nat) (s0 s1 : Nat → ByteArray) (sc : Nat → Int) (w : World)
    (h0 : StrsAt w a0 n0 s0) (h1 : StrsAt w a1 n1 s1) (h2 : IntsAt w a2 n2 sc) :
    Calls Try.prog 3 #[.slice a0 n0 c0, .slice a1 n1 c1, .slice a2 n2 c2] w fun e w' => e = .returned (.bool true) ∧ Below w.heap.size w w' := by
  have H0 : Hid (StrsAt w a0 n0 s0) := h0
  have H1 : Hid (StrsAt w a1 n1 s1) := h1
  have H2 : Hid (IntsAt w a2 n2 sc) := h2
  clear h0 h1 h2
  have hne := fun (W : World) (a : Option Addr) (n c : Nat) => run_neq_slice_nil_any (P := Try.prog) W 22 9 a n c 0 0 Try.underlying22
  have hne' := fun (W : World) (a : Option Addr) (n c : Nat) => run_neq_slice_nil_any (P := Try.prog) W 23 2 a n c 0 0 Try.underlying23
  go_enter Try.func3, Try.ntmps3
  go_wp2_with fail
  refine (bytes5 a0 a1 a2 n0 c0 n1 c1 n2 c2 s0 s1 _ H0.out H1.out).mono ?_
  rintro e w1 ⟨⟨b, rfl, hq⟩, hw⟩
  subst hw
  cases b
  · go_wp2
    go_ret
    exact ⟨rfl, Below.refl _ _⟩
  obtain ⟨z0, z1⟩ := hq rfl
  clear hq
  go_wp2_with fail
  refine (fits6 a0 a1 a2 n0 c0 n1 c1 n2 c2 s0 s1 _ H0.out H1.out z0 z1).mono ?_
  rintro e w2 ⟨⟨b, rfl, hq⟩, m, hw⟩
  subst hw
  cases b
  · go_wp2
    go_ret
    exact ⟨rfl, below_drewN (Below.refl _ _) _⟩
  obtain ⟨hn, e1, e2, ha⟩ := hq rfl
  subst e1 e2
  clear hq z0 z1
  have HA : Hid (Apart _ s0) := ha
  clear ha
  have K0 : Hid (StrsAt (w1.drewN m) a0 n2 s0) := H0.out
  have K1 : Hid (StrsAt (w1.drewN m) a1 n2 s1) := H1.out
  have K2 : Hid (IntsAt (w1.drewN m) a2 n2 sc) := H2.out
  have KB : Hid (Below w1.heap.size w1 (w1.drewN m)) := below_drewN (Below.refl _ _) _
  have hz0 : Hid (∀ k, k < n2 → (s0 k).size ≤ maxLen) := fun k hk => (H0.out k hk).elim fun _ h => h.elim fun _ h => h.2.2
  have hz1 : Hid (∀ k, k < n2 → (s1 k).size ≤ maxLen) := fun k hk => (H1.out k hk).elim fun _ h => h.elim fun _ h => h.2.2
  clear H0 H1 H2
  generalize w1.drewN m = wA at K0 K1 K2 KB ⊢
  have hmk := make22 n2 hn
  have hmj := make23 n2 hn
  go_upto_if 27 with fail
  go_cut [0, 7] (fun x _ wx => ∃ a c, x = .slice a n2 c ∧ StrsAt wx a n2 s0 ∧ Below wA.heap.size wA wx)
  case first =>
    have hcp := fun ty => K0.out.copy c0 ty
    cases a0 with
    | none =>
      go_wp2
      go_meet
      exact ⟨none, c0, rfl, K0.out, Below.refl _ _⟩
    | some ad =>
      go_wp2
      go_meet
      exact ⟨_, _, rfl, StrsAt.fresh wA hz0.out, (Below.refl _ _).alloc (Nat.le_refl _) _⟩
  case rest =>
  obtain ⟨a0', c0', rfl, hs0, hb0⟩ := hcut
  have L0 : Hid (StrsAt wc a0' n2 s0) := hs0
  have L1 : Hid (StrsAt wc a1 n2 s1) := K1.out.below hb0
  have L2 : Hid (IntsAt wc a2 n2 sc) := K2.out.below hb0
  have LB : Hid (Below w1.heap.size w1 wc) := KB.out.trans (hb0.mono KB.out.size)
  clear K0 K1 K2 KB hs0 hb0
  go_upto_if 36 with fail
  go_cut [1, 8] (fun x _ wx => ∃ a c, x = .slice a n2 c ∧ StrsAt wx a n2 s1 ∧ Below wc.heap.size wc wx)
  case first =>
    have hcp := fun ty => L1.out.copy c1 ty
    cases a1 with
    | none =>
      go_wp2
      go_meet
      exact ⟨none, c1, rfl, L1.out, Below.refl _ _⟩
    | some ad =>
      go_wp2
      go_meet
      exact ⟨_, _, rfl, StrsAt.fresh wc hz1.out, (Below.refl _ _).alloc (Nat.le_refl _) _⟩
  case rest =>
  obtain ⟨a1', c1', rfl, hs1, hb1⟩ := hcut
  have M0 : Hid (StrsAt wc a0' n2 s0) := L0.out.below hb1
  have M1 : Hid (StrsAt wc a1' n2 s1) := hs1
  have M2 : Hid (IntsAt wc a2 n2 sc) := L2.out.below hb1
  have MB : Hid (Below w1.heap.size w1 wc) := LB.out.trans (hb1.mono LB.out.size)
  clear L0 L1 L2 LB hs1 hb1
  go_upto_if 45 with fail
  go_cut [2, 9] (fun x _ wx => ∃ a c, x = .slice a n2 c ∧ IntsAt wx a n2 sc ∧ Below wc.heap.size wc wx)
  case first =>
    have hcp := fun ty => M2.out.copy c2 ty
    cases a2 with
    | none =>
      go_wp2
      go_meet
      exact ⟨none, c2, rfl, M2.out, Below.refl _ _⟩
    | some ad =>
      go_wp2
      go_meet
      exact ⟨_, _, rfl, IntsAt.fresh wc, (Below.refl _ _).alloc (Nat.le_refl _) _⟩
  case rest =>
  obtain ⟨a2', c2', rfl, hs2, hb2⟩ := hcut
  have N0 : Hid (StrsAt wc a0' n2 s0) := M0.out.below hb2
  have N1 : Hid (StrsAt wc a1' n2 s1) := M1.out.below hb2
  have N2 : Hid (IntsAt wc a2' n2 sc) := hs2
  have NB : Hid (Below w1.heap.size w1 wc) := MB.out.trans (hb2.mono MB.out.size)
  clear M0 M1 M2 MB hs2 hb2 hne hne' hmk hmj hz0 hz1
  go_wp2_with fail
  refine (new7 a0' a1' a2' n2 c0' c1' c2' s0 s1 sc _ hn HA.out N0.out N1.out N2.out).mono ?_
  rintro e wn ⟨bo, bm, nb, rfl, hR, hBn⟩
  generalize hbr : wc.heap.size + 1 + 1 = br at hR ⊢
  have lbr : br < wn.heap.size := hR.rlo.2
  clear hbr
  have HR : Hid (Rk wn wc.heap.size wn.heap.size br bo bm n2 n2 n2 nb (fun _ => 0) s0 s1 sc) := hR
  have O0 : Hid (StrsAt wn a0' n2 s0) := N0.out.below hBn
  have O1 : Hid (StrsAt wn a1' n2 s1) := N1.out.below hBn
  have O2 : Hid (IntsAt wn a2' n2 sc) := N2.out.below hBn
  have OB : Hid (Below w1.heap.size w1 wn) := NB.out.trans (hBn.mono NB.out.size)
  clear N0 N1 N2 NB hR hBn
  go_wp2_with fail
  refine (clone8 wc.heap.size br bo bm n2 n2 nb (fun _ => 0) s0 s1 sc wn hn HA.out HR.out).mono ?_
  rintro e wd ⟨co, cm, rfl, hC, hBd⟩
  have HR' : Hid (Rk wd wc.heap.size wn.heap.size br bo bm n2 n2 n2 nb (fun _ => 0) s0 s1 sc) := HR.out.below hBd (Nat.le_refl _)
  generalize hcr : wn.heap.size + 1 + 1 + 1 = cr at hC ⊢
  have nbr : br ≠ cr := by omega
  have HC : Hid (Rk wd wn.heap.size wd.heap.size cr co cm n2 n2 n2 (fun _ => wn.heap.size) (fun j => j * 3) s0 s1 sc) := hC
  have P0 : Hid (StrsAt wd a0' n2 s0) := O0.out.below hBd
  have P1 : Hid (StrsAt wd a1' n2 s1) := O1.out.below hBd
  have P2 : Hid (IntsAt wd a2' n2 sc) := O2.out.below hBd
  have PB : Hid (Below w1.heap.size w1 wd) := OB.out.trans (hBd.mono OB.out.size)
  have q25 := nil25
  have q29 := nil29
  have q25o := other25 wd (a := ⟨cr, 0, none⟩) (b := ⟨br, 0, none⟩) (fun h => nbr (by simpa using h.symm)) HC.out.rb HR'.out.rb
  clear O0 O1 O2 OB hC hBd HR hcr nbr
  go_wp2_with fail
  refine (orderLen HC.out).mono ?_
  rintro e w3 ⟨rfl, hw⟩
  replace hw := hw.symm; subst hw
  go_wp2_with fail
  refine (byIDLen HC.out).mono ?_
  rintro e w4 ⟨rfl, hw⟩
  replace hw := hw.symm; subst hw
  go_wp2_with fail
  refine (orderLen HR'.out).mono ?_
  rintro e w5 ⟨rfl, hw⟩
  replace hw := hw.symm; subst hw
  go_wp2_with fail
  refine (byIDLen HR'.out).mono ?_
  rintro e w6 ⟨rfl, hw⟩
  replace hw := hw.symm; subst hw
  go_wp2_with fail
  go_loopw [13] (fun i wr => ∃ k m : Nat, k ≤ n2 ∧ i = .int .i64 k ∧ wr = wd.drewN m) (fun i _ => n2 - (intOf i).toNat)
  case atStart => exact ⟨0, 0, Nat.zero_le _, rfl, rfl⟩
  case round =>
    obtain ⟨k, m, hk, rfl, rfl⟩ := hrel
    by_cases hlt : k < n2
    · obtain ⟨b0, off0, rfl, d0, _⟩ := P0.out k hlt
      obtain ⟨b1, off1, rfl, d1, _⟩ := P1.out k hlt
      obtain ⟨b2, off2, rfl, d2⟩ := P2.out k hlt
      have hki : (k : Int) < (n2 : Int) := by omega
      have p0 := HC.out.n0 hlt
      have p1 := HC.out.n1 hlt
      have p2 := HC.out.n2 hlt
      have r0 := HR'.out.n0 hlt
      have r1 := HR'.out.n1 hlt
      have r2 := HR'.out.n2 hlt
      go_wp2_with fail
      refine (orderAt (HC.out.drewN m) hlt (Nat.le_refl _)).mono ?_
      rintro e w3 ⟨rfl, hw⟩
      replace hw := hw.symm; subst hw
      go_wp2_with fail
      go_quiet (fail)
      go_wp2_with fail
      refine (orderAt (HR'.out.drewN _) hlt (Nat.le_refl _)).mono ?_
      rintro e w3 ⟨rfl, hw⟩
      replace hw := hw.symm; subst hw
      have q29o := fun m => other29 (wd.drewN m) (a := ⟨wn.heap.size, k * 3, none⟩) (b := ⟨nb k, 0, none⟩) (fun h => by have h1 := (HR'.out.nlo k hlt).2; have h2 := congrArg Addr.block h; simp only at h2; omega) (HC.out.nd k hlt).choose_spec.1 (HR'.out.nd k hlt).choose_spec.1
      go_wp2_with fail
      go_quiet (fail)
      go_wp2_with fail
      refine (byID (HC.out.drewN _) HA.out hlt).mono ?_
      rintro e w3 ⟨rfl, hw⟩
      replace hw := hw.symm; subst hw
      have q29s := same29
      go_wp2_with fail
      exact ⟨⟨k + 1, _, by omega, by go_num, rfl⟩, by simp [intOf]; omega⟩
    · go_wp2
      go_ret
      exact ⟨rfl, below_drewN PB.out _⟩
end Go.Proofs.Qxb6629312a
