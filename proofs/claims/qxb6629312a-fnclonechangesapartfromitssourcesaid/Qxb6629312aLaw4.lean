import Derived.Test.Qxb6629312aLaw3
namespace Go.Proofs.Qxb6629312a
open Go.RowKit

theorem Rk.setScore {W : World} {lo hi br bo bm L cap k be : Nat} {ids names : Nat → ByteArray} {sc : Nat → Int} (h : Rk W lo hi br bo bm L cap k (fun _ => be) (fun j => j * 3) ids names sc) {i : Nat} (hi' : i < k) (x : Int) :
    Rk (W.setCell ⟨be, i * 3 + 2, none⟩ (.int .i64 x)) lo hi br bo bm L cap k (fun _ => be) (fun j => j * 3) ids names (fun j => if j = i then x else sc j) := by
  obtain ⟨arr, h1, h2, h3, h4⟩ := h.nd i hi'
  obtain ⟨oarr, o1, o2, o3⟩ := h.ob
  have m1 : bm ≠ be := fun e => by have := h.mb; rw [e, h1] at this; simp at this
  have m2 : bo ≠ be := fun e => by rw [e, h1] at o1; simp at o1
  have m3 : br ≠ be := fun e => by have := h.rb; rw [e, h1] at this; simp at this
  have hlt : i * 3 + 2 < arr.size := (Array.getElem?_eq_some_iff.1 h4).1
  refine ⟨(heap_setCell_ne m3).trans h.rb, ⟨oarr, (heap_setCell_ne m2).trans o1, o2, o3⟩, (heap_setCell_ne m1).trans h.mb, fun j hj => ⟨_, heap_setCell_same h1, ?_⟩, h.rlo, h.olo, h.mlo, h.nlo⟩
  obtain ⟨ar, a1, a2, a3, a4⟩ := h.nd j hj
  rw [h1] at a1
  simp only [Option.some.injEq, Obj.cells.injEq] at a1
  obtain ⟨rfl, _⟩ := a1
  refine ⟨?_, ?_, ?_⟩
  · rw [Array.getElem?_setIfInBounds_ne (by omega)]; exact a2
  · rw [Array.getElem?_setIfInBounds_ne (by omega)]; exact a3
  · by_cases e : j = i
    · subst e
      rw [Array.getElem?_setIfInBounds_self_of_lt hlt]
      simp
    · rw [Array.getElem?_setIfInBounds_ne (by omega), if_neg e]; exact a4

/-- The first k scores turned. -/
def turnTo (f : Int → Int) (sc : Nat → Int) (k : Nat) : Nat → Int := fun j => if j < k then f (sc j) else sc j
theorem turnTo_zero (f : Int → Int) (sc : Nat → Int) : turnTo f sc 0 = sc := by funext j; simp [turnTo]
theorem turnTo_succ (f : Int → Int) (sc : Nat → Int) (k : Nat) : (fun j => if j = k then f (sc k) else turnTo f sc k j) = turnTo f sc (k + 1) := by
  funext j
  unfold turnTo
  by_cases e : j = k
  · subst e; simp
  · by_cases l : j < k
    · have : j < k + 1 := by omega
      simp [e, l, this]
    · have : ¬ j < k + 1 := by omega
      simp [e, l, this]
theorem turnTo_lt (f : Int → Int) (sc : Nat → Int) {k j : Nat} (h : j < k) : turnTo f sc k j = f (sc j) := by simp [turnTo, h]

def neg (x : Int) : Int := bits BinOp.xor IntKind.i64 (if IntKind.i64.signed = true then -1 else IntKind.i64.max) x

set_option maxHeartbeats 2000000 in
set_option maxRecDepth 100000 in
theorem law4 (a0 a1 a2 : Option Addr) (n0 c0 n1 c1 n2 c2 : Nat) (s0 s1 : Nat → ByteArray) (sc : Nat → Int) (w : World)
    (h0 : StrsAt w a0 n0 s0) (h1 : StrsAt w a1 n1 s1) (h2 : IntsAt w a2 n2 sc) :
    Calls Try.prog 4 #[.slice a0 n0 c0, .slice a1 n1 c1, .slice a2 n2 c2] w fun e w' => e = .returned (.bool true) ∧ Below w.heap.size w w' := by
  have H0 : Hid (StrsAt w a0 n0 s0) := h0
  have H1 : Hid (StrsAt w a1 n1 s1) := h1
  have H2 : Hid (IntsAt w a2 n2 sc) := h2
  clear h0 h1 h2
  have hne := fun (W : World) (a : Option Addr) (n c : Nat) => run_neq_slice_nil_any (P := Try.prog) W 22 9 a n c 0 0 Try.underlying22
  have hne' := fun (W : World) (a : Option Addr) (n c : Nat) => run_neq_slice_nil_any (P := Try.prog) W 23 2 a n c 0 0 Try.underlying23
  go_enter Try.func4, Try.ntmps4
  go_wp2_with fail
  refine (bytes13 a0 a1 a2 n0 c0 n1 c1 n2 c2 s0 s1 _ H0.out H1.out).mono ?_
  rintro e w1 ⟨⟨b, rfl, hq⟩, hw⟩
  subst hw
  cases b
  · go_wp2
    go_ret
    exact ⟨rfl, Below.refl _ _⟩
  obtain ⟨z0, z1⟩ := hq rfl
  clear hq
  go_wp2_with fail
  refine (fits6 a0 a1 a2 n0 c0 n1 c1 n2 c2 s0 s1 _ H0.out H1.out z0 z1).mono ?_
  rintro e w2 ⟨⟨b, rfl, hq⟩, m, hw⟩
  subst hw
  cases b
  · go_wp2
    go_ret
    exact ⟨rfl, below_drewN (Below.refl _ _) _⟩
  obtain ⟨hn, e1, e2, ha⟩ := hq rfl
  subst e1 e2
  clear hq z0 z1
  have HA : Hid (Apart _ s0) := ha
  clear ha
  have K0 : Hid (StrsAt (w1.drewN m) a0 n2 s0) := H0.out
  have K1 : Hid (StrsAt (w1.drewN m) a1 n2 s1) := H1.out
  have K2 : Hid (IntsAt (w1.drewN m) a2 n2 sc) := H2.out
  have KB : Hid (Below w1.heap.size w1 (w1.drewN m)) := below_drewN (Below.refl _ _) _
  have hz0 : Hid (∀ k, k < n2 → (s0 k).size ≤ maxLen) := fun k hk => (H0.out k hk).elim fun _ h => h.elim fun _ h => h.2.2
  have hz1 : Hid (∀ k, k < n2 → (s1 k).size ≤ maxLen) := fun k hk => (H1.out k hk).elim fun _ h => h.elim fun _ h => h.2.2
  clear H0 H1 H2
  generalize w1.drewN m = wA at K0 K1 K2 KB ⊢
  have hmk := make22 n2 hn
  have hmj := make23 n2 hn
  go_upto_if 33 with fail
  go_cut [0, 7] (fun x _ wx => ∃ a c, x = .slice a n2 c ∧ StrsAt wx a n2 s0 ∧ Below wA.heap.size wA wx)
  case first =>
   as_aux_lemma =>
    have hcp := fun ty => K0.out.copy c0 ty
    cases a0 with
    | none =>
      go_wp2
      go_meet
      exact ⟨none, c0, rfl, K0.out, Below.refl _ _⟩
    | some ad =>
      go_wp2
      go_meet
      exact ⟨_, _, rfl, StrsAt.fresh wA hz0.out, (Below.refl _ _).alloc (Nat.le_refl _) _⟩
  case rest =>
  obtain ⟨a0', c0', rfl, hs0, hb0⟩ := hcut
  have L0 : Hid (StrsAt wc a0' n2 s0) := hs0
  have L1 : Hid (StrsAt wc a1 n2 s1) := K1.out.below hb0
  have L2 : Hid (IntsAt wc a2 n2 sc) := K2.out.below hb0
  have LB : Hid (Below w1.heap.size w1 wc) := KB.out.trans (hb0.mono KB.out.size)
  clear K0 K1 K2 KB hs0 hb0
  go_upto_if 42 with fail
  go_cut [1, 8] (fun x _ wx => ∃ a c, x = .slice a n2 c ∧ StrsAt wx a n2 s1 ∧ Below wc.heap.size wc wx)
  case first =>
   as_aux_lemma =>
    have hcp := fun ty => L1.out.copy c1 ty
    cases a1 with
    | none =>
      go_wp2
      go_meet
      exact ⟨none, c1, rfl, L1.out, Below.refl _ _⟩
    | some ad =>
      go_wp2
      go_meet
      exact ⟨_, _, rfl, StrsAt.fresh wc hz1.out, (Below.refl _ _).alloc (Nat.le_refl _) _⟩
  case rest =>
  obtain ⟨a1', c1', rfl, hs1, hb1⟩ := hcut
  have M0 : Hid (StrsAt wc a0' n2 s0) := L0.out.below hb1
  have M1 : Hid (StrsAt wc a1' n2 s1) := hs1
  have M2 : Hid (IntsAt wc a2 n2 sc) := L2.out.below hb1
  have MB : Hid (Below w1.heap.size w1 wc) := LB.out.trans (hb1.mono LB.out.size)
  clear L0 L1 L2 LB hs1 hb1
  go_upto_if 51 with fail
  go_cut [2, 9] (fun x _ wx => ∃ a c, x = .slice a n2 c ∧ IntsAt wx a n2 sc ∧ Below wc.heap.size wc wx)
  case first =>
   as_aux_lemma =>
    have hcp := fun ty => M2.out.copy c2 ty
    cases a2 with
    | none =>
      go_wp2
      go_meet
      exact ⟨none, c2, rfl, M2.out, Below.refl _ _⟩
    | some ad =>
      go_wp2
      go_meet
      exact ⟨_, _, rfl, IntsAt.fresh wc, (Below.refl _ _).alloc (Nat.le_refl _) _⟩
  case rest =>
  obtain ⟨a2', c2', rfl, hs2, hb2⟩ := hcut
  have N0 : Hid (StrsAt wc a0' n2 s0) := M0.out.below hb2
  have N1 : Hid (StrsAt wc a1' n2 s1) := M1.out.below hb2
  have N2 : Hid (IntsAt wc a2' n2 sc) := hs2
  have NB : Hid (Below w1.heap.size w1 wc) := MB.out.trans (hb2.mono MB.out.size)
  clear M0 M1 M2 MB hs2 hb2 hne hne' hmk hmj hz0 hz1
  go_wp2_with fail
  refine (new7 a0' a1' a2' n2 c0' c1' c2' s0 s1 sc _ hn HA.out N0.out N1.out N2.out).mono ?_
  rintro e wn ⟨bo, bm, nb, rfl, hR, hBn⟩
  generalize hbr : wc.heap.size + 1 + 1 = br at hR ⊢
  have lbr : br < wn.heap.size := hR.rlo.2
  clear hbr
  have HR : Hid (Rk wn wc.heap.size wn.heap.size br bo bm n2 n2 n2 nb (fun _ => 0) s0 s1 sc) := hR
  have O0 : Hid (StrsAt wn a0' n2 s0) := N0.out.below hBn
  have O1 : Hid (StrsAt wn a1' n2 s1) := N1.out.below hBn
  have O2 : Hid (IntsAt wn a2' n2 sc) := N2.out.below hBn
  have OB : Hid (Below w1.heap.size w1 wn) := NB.out.trans (hBn.mono NB.out.size)
  clear N0 N1 N2 NB hR hBn
  go_wp2_with fail
  refine (clone8 wc.heap.size br bo bm n2 n2 nb (fun _ => 0) s0 s1 sc wn hn HA.out HR.out).mono ?_
  rintro e wd ⟨co, cm, rfl, hC, hBd⟩
  have HR1 : Hid (Rk wd wc.heap.size wn.heap.size br bo bm n2 n2 n2 nb (fun _ => 0) s0 s1 sc) := HR.out.below hBd (Nat.le_refl _)
  generalize hcr : wn.heap.size + 1 + 1 + 1 = cr at hC ⊢
  have nbr : br ≠ cr := by omega
  have lcr : cr < wd.heap.size := hC.rlo.2
  have HC : Hid (Rk wd wn.heap.size wd.heap.size cr co cm n2 n2 n2 (fun _ => wn.heap.size) (fun j => j * 3) s0 s1 sc) := hC
  have q25 := nil25
  have q29 := nil29
  have q25a := other25 wd (a := ⟨cr, 0, none⟩) (b := ⟨br, 0, none⟩) (fun h => nbr (by simpa using h.symm)) HC.out.rb HR1.out.rb
  clear hC
  go_wp2_with fail
  refine (clone8 wn.heap.size cr co cm n2 n2 (fun _ => wn.heap.size) (fun j => j * 3) s0 s1 sc wd hn HA.out HC.out).mono ?_
  rintro e we ⟨eo, em, rfl, hD, hBe⟩
  generalize hdr : wd.heap.size + 1 + 1 + 1 = dr at hD ⊢
  have HC2 : Hid (Rk we wn.heap.size wd.heap.size cr co cm n2 n2 n2 (fun _ => wn.heap.size) (fun j => j * 3) s0 s1 sc) := HC.out.below hBe (Nat.le_refl _)
  have HR2 : Hid (Rk we wc.heap.size wn.heap.size br bo bm n2 n2 n2 nb (fun _ => 0) s0 s1 sc) := HR1.out.below hBe hBd.size
  have HD : Hid (Rk we wd.heap.size we.heap.size dr eo em n2 n2 n2 (fun _ => wd.heap.size) (fun j => j * 3) s0 s1 sc) := hD
  have q25b := other25 we (a := ⟨dr, 0, none⟩) (b := ⟨cr, 0, none⟩) (fun h => by have h2 := congrArg Addr.block h; simp only at h2; omega) HD.out.rb HC2.out.rb
  have q25c := other25 we (a := ⟨dr, 0, none⟩) (b := ⟨br, 0, none⟩) (fun h => by have h2 := congrArg Addr.block h; simp only at h2; have := hBd.size; omega) HD.out.rb HR2.out.rb
  have lbe : wn.heap.size < wd.heap.size := by have := HC.out.rlo; omega
  have HB : Hid (Below wn.heap.size wn we) := hBd.trans (hBe.mono hBd.size)
  clear hD hcr hdr nbr HC HR1 hBd hBe q25a lbr lcr
  go_wp2_with fail
  refine (orderLen HC2.out).mono ?_
  rintro e w3 ⟨rfl, hw⟩
  replace hw := hw.symm; subst hw
  go_wp2_with fail
  refine (orderLen HD.out).mono ?_
  rintro e w3 ⟨rfl, hw⟩
  replace hw := hw.symm; subst hw
  go_wp2_with fail
  refine (orderLen HR2.out).mono ?_
  rintro e w3 ⟨rfl, hw⟩
  replace hw := hw.symm; subst hw
  clear q25 q25b q25c
  go_wp2_with fail
  go_loopw [14] (fun i wr => ∃ k : Nat, k ≤ n2 ∧ i = .int .i64 k ∧ Rk wr wn.heap.size wd.heap.size cr co cm n2 n2 n2 (fun _ => wn.heap.size) (fun j => j * 3) s0 s1 (turnTo neg sc k) ∧ Rk wr wd.heap.size we.heap.size dr eo em n2 n2 n2 (fun _ => wd.heap.size) (fun j => j * 3) s0 s1 sc ∧ Below wn.heap.size wn wr) (fun i _ => n2 - (intOf i).toNat)
  case atStart => exact ⟨0, Nat.zero_le _, rfl, by rw [turnTo_zero]; exact HC2.out, HD.out, HB.out⟩
  case round =>
    obtain ⟨k, hk, rfl, hC, hD, hB⟩ := hrel
    by_cases hlt : k < n2
    · as_aux_lemma =>
      obtain ⟨b0, off0, rfl, d0, _⟩ := (O0.out.below hB) k hlt
      obtain ⟨b2, off2, rfl, d2⟩ := (O2.out.below hB) k hlt
      have hki : (k : Int) < (n2 : Int) := by omega
      have p2 := hC.n2 hlt
      have z2 : wr.frozen? ⟨wn.heap.size, k * 3 + 2, none⟩ = false := frozen_of_block (hC.nd k hlt).choose_spec.1 _
      have GC : Hid (Rk wr wn.heap.size wd.heap.size cr co cm n2 n2 n2 (fun _ => wn.heap.size) (fun j => j * 3) s0 s1 (turnTo neg sc k)) := hC
      have GD : Hid (Rk wr wd.heap.size we.heap.size dr eo em n2 n2 n2 (fun _ => wd.heap.size) (fun j => j * 3) s0 s1 sc) := hD
      have GB : Hid (Below wn.heap.size wn wr) := hB
      clear hC hD hB
      go_wp2_with fail
      refine (byID GC.out HA.out hlt).mono ?_
      rintro e w3 ⟨rfl, hw⟩
      replace hw := hw.symm; subst hw
      go_wp2_with fail
      exact ⟨⟨k + 1, by omega, by go_num, by rw [← turnTo_succ]; exact GC.out.setScore hlt _, GD.out.keep (fun b hb _ => heap_setCell_ne (by omega)), GB.out.setCell (Nat.le_refl _) _⟩, by simp [intOf]; omega⟩
    · as_aux_lemma =>
      have hkn : k = n2 := by omega
      subst hkn
      have GC : Hid (Rk wr wn.heap.size wd.heap.size cr co cm k k k (fun _ => wn.heap.size) (fun j => j * 3) s0 s1 (turnTo neg sc k)) := hC
      have GD : Hid (Rk wr wd.heap.size we.heap.size dr eo em k k k (fun _ => wd.heap.size) (fun j => j * 3) s0 s1 sc) := hD
      have GR : Hid (Rk wr wc.heap.size wn.heap.size br bo bm k k k nb (fun _ => 0) s0 s1 sc) := HR.out.below hB (Nat.le_refl _)
      have Q0 : Hid (StrsAt wr a0' k s0) := O0.out.below hB
      have Q2 : Hid (IntsAt wr a2' k sc) := O2.out.below hB
      have QB : Hid (Below w1.heap.size w1 wr) := OB.out.trans (hB.mono OB.out.size)
      clear hC hD hB O0 O1 O2 OB HC2 HR2 HD HB HR
      go_wp2_with fail
      go_loopw [16] (fun i wx => ∃ j m : Nat, j ≤ k ∧ i = .int .i64 j ∧ wx = wr.drewN m) (fun i _ => k - (intOf i).toNat)
      case atStart => exact ⟨0, 0, Nat.zero_le _, rfl, rfl⟩
      case round =>
        obtain ⟨j, m, hj, rfl, rfl⟩ := hrel
        by_cases hjl : j < k
        · as_aux_lemma =>
          obtain ⟨b0, off0, rfl, d0, _⟩ := Q0.out j hjl
          obtain ⟨b2, off2, rfl, d2⟩ := Q2.out j hjl
          have hki : (j : Int) < (k : Int) := by omega
          have p0 := GC.out.n0 hjl
          have p2 := GC.out.n2 hjl
          rw [turnTo_lt neg sc hjl] at p2
          unfold neg at p2
          have r2 := GR.out.n2 hjl
          have t0 := GD.out.n0 hjl
          have t2 := GD.out.n2 hjl
          go_wp2_with fail
          refine (orderAt (GC.out.drewN m) hjl (Nat.le_refl _)).mono ?_
          rintro e w3 ⟨rfl, hw⟩
          replace hw := hw.symm; subst hw
          go_wp2_with fail
          refine (orderAt (GR.out.drewN m) hjl (Nat.le_refl _)).mono ?_
          rintro e w3 ⟨rfl, hw⟩
          replace hw := hw.symm; subst hw
          go_wp2_with fail
          refine (orderAt (GD.out.drewN m) hjl (Nat.le_refl _)).mono ?_
          rintro e w3 ⟨rfl, hw⟩
          replace hw := hw.symm; subst hw
          go_wp2_with fail
          refine (byID (GR.out.drewN m) HA.out hjl).mono ?_
          rintro e w3 ⟨rfl, hw⟩
          replace hw := hw.symm; subst hw
          go_wp2_with fail
          refine (byID (GD.out.drewN m) HA.out hjl).mono ?_
          rintro e w3 ⟨rfl, hw⟩
          replace hw := hw.symm; subst hw
          go_wp2_with fail
          go_quiet (fail)
          go_wp2_with fail
          go_quiet (fail)
          go_wp2_with fail
          go_quiet (fail)
          go_wp2_with fail
          exact ⟨⟨j + 1, _, by omega, by go_num, rfl⟩, by simp [intOf]; omega⟩
        · go_wp2
          go_ret
          exact ⟨rfl, below_drewN QB.out _⟩
end Go.Proofs.Qxb6629312a
