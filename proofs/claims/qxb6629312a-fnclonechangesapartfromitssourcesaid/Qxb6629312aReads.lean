import Derived.Test.Qxb6629312aCopy
namespace Go.Proofs.Qxb6629312a
open Go.RowKit

section
variable {W : World} {lo hi br bo bm L cap k : Nat} {nb no : Nat → Nat} {ids names : Nat → ByteArray} {sc : Nat → Int}

theorem orderLen (h : Rk W lo hi br bo bm L cap k nb no ids names sc) :
    Calls Try.prog 9 #[.pointer (some ⟨br, 0, none⟩)] W fun e w' => e = .returned (.int .i64 L) ∧ w' = W := by
  have c0 := h.c0
  clear h
  go_enter Try.func9, Try.ntmps9
  go_wp2
  go_ret
  exact ⟨rfl, rfl⟩

theorem byIDLen (h : Rk W lo hi br bo bm L cap k nb no ids names sc) :
    Calls Try.prog 10 #[.pointer (some ⟨br, 0, none⟩)] W fun e w' => e = .returned (.int .i64 k) ∧ w' = W := by
  have c1 := h.c1
  have hl := fun ty => len35 ids nb no k bm ty W h.mb
  clear h
  go_enter Try.func10, Try.ntmps10
  go_wp2
  go_ret
  exact ⟨rfl, rfl⟩

theorem orderAt (h : Rk W lo hi br bo bm L cap k nb no ids names sc) {j : Nat} (hj : j < k) (hL : k ≤ L) :
    Calls Try.prog 11 #[.pointer (some ⟨br, 0, none⟩), .int .i64 j] W fun e w' => e = .returned (.pointer (some ⟨nb j, no j, none⟩)) ∧ w' = W := by
  have c0 := h.c0
  have co := h.co hj
  have hjL : j < L := by omega
  clear h
  go_enter Try.func11, Try.ntmps11
  go_wp2
  go_ret
  exact ⟨rfl, rfl⟩

theorem byID (h : Rk W lo hi br bo bm L cap k nb no ids names sc) (ha : Apart k ids) {j : Nat} (hj : j < k) :
    Calls Try.prog 12 #[.pointer (some ⟨br, 0, none⟩), .string (ids j)] W fun e w' => e = .returned (.pointer (some ⟨nb j, no j, none⟩)) ∧ w' = W := by
  have c1 := h.c1
  have hl := lookup35 ha hj nb no bm W h.mb
  clear h
  go_enter Try.func12, Try.ntmps12
  go_wp2
  go_ret
  exact ⟨rfl, rfl⟩
end
end Go.Proofs.Qxb6629312a
