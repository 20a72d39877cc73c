import Derived.Test.Qxb6629312aReads
import Derived.Laws.Pointers
import Derived.LaidEql
namespace Go.Proofs.Qxb6629312a
open Go.RowKit

section
variable {P : Program} (W : World) {t te : TypeId} {j : TypeInfo}
theorem equalIn_ptr_nil (d : Nat) (hp : P.underlying t = some (.pointer te)) (a : Addr) : (Op.equalIn (d + 1) t (.pointer (some a)) (.pointer none)).run P W = .ok false W := by
  simp [Op.equalIn, run_underlying hp]
theorem equalIn_ptr_other (d : Nat) (hp : P.underlying t = some (.pointer te)) (hte : P.info? te = some j) (hsz : j.size ≠ 0) {a b : Addr} {ca cb : Array Value} {ta tb : TypeId} (hne : a ≠ b) (ha : W.heap[a.block]? = some (.cells ca ta)) (hb : W.heap[b.block]? = some (.cells cb tb)) :
    (Op.equalIn (d + 1) t (.pointer (some a)) (.pointer (some b))).run P W = .ok false W := by
  simp [Op.equalIn, run_underlying hp, sizeOf, typeInfo, hte, hsz, run_sameAddr_other W hne ha hb]
theorem equalIn_ptr_same (d : Nat) (hp : P.underlying t = some (.pointer te)) (hte : P.info? te = some j) (a : Addr) :
    (Op.equalIn (d + 1) t (.pointer (some a)) (.pointer (some a))).run P W = .ok true W := by
  simp [Op.equalIn, run_underlying hp, sizeOf, typeInfo, hte, run_sameAddr_same]
theorem eql_ptr_nil (hp : P.underlying t = some (.pointer te)) (a : Addr) : (binOp .eql t (.pointer (some a)) (.pointer none)).run P W = .ok (.bool false) W := by
  simp only [binOp]
  simp [Op.equal, Op.maxDepth, equalIn_ptr_nil W 9999 hp]
theorem eql_ptr_other (hp : P.underlying t = some (.pointer te)) (hte : P.info? te = some j) (hsz : j.size ≠ 0) {a b : Addr} {ca cb : Array Value} {ta tb : TypeId} (hne : a ≠ b) (ha : W.heap[a.block]? = some (.cells ca ta)) (hb : W.heap[b.block]? = some (.cells cb tb)) :
    (binOp .eql t (.pointer (some a)) (.pointer (some b))).run P W = .ok (.bool false) W := by
  simp only [binOp]
  simp [Op.equal, Op.maxDepth, equalIn_ptr_other W 9999 hp hte hsz hne ha hb]
theorem neq_ptr_same (hp : P.underlying t = some (.pointer te)) (hte : P.info? te = some j) (a : Addr) :
    (binOp .neq t (.pointer (some a)) (.pointer (some a))).run P W = .ok (.bool false) W := by
  simp only [binOp]
  simp [Op.equal, Op.maxDepth, equalIn_ptr_same W 9999 hp hte a]
end

theorem Try.size37 : (Try.prog.info? 37).map (fun i => (i.zero.isSome, i.size, i.bytes)) = some (true, 2, 32) := by kernel_rfl

theorem nil25 (W : World) (a : Addr) : (binOp .eql 25 (.pointer (some a)) (.pointer none)).run Try.prog W = .ok (.bool false) W := eql_ptr_nil W Try.underlying25 a
theorem nil29 (W : World) (a : Addr) : (binOp .eql 29 (.pointer (some a)) (.pointer none)).run Try.prog W = .ok (.bool false) W := eql_ptr_nil W Try.underlying29 a
theorem same29 (W : World) (a : Addr) : (binOp .neq 29 (.pointer (some a)) (.pointer (some a))).run Try.prog W = .ok (.bool false) W := by
  obtain ⟨i, hi, _⟩ := info_parts Try.info32
  exact neq_ptr_same W Try.underlying29 hi a
theorem other29 (W : World) {a b : Addr} {ca cb : Array Value} {ta tb : TypeId} (hne : a ≠ b) (ha : W.heap[a.block]? = some (.cells ca ta)) (hb : W.heap[b.block]? = some (.cells cb tb)) :
    (binOp .eql 29 (.pointer (some a)) (.pointer (some b))).run Try.prog W = .ok (.bool false) W := by
  obtain ⟨i, hi, _, hs, _⟩ := info_parts Try.info32
  exact eql_ptr_other W Try.underlying29 hi (by omega) hne ha hb
theorem other25 (W : World) {a b : Addr} {ca cb : Array Value} {ta tb : TypeId} (hne : a ≠ b) (ha : W.heap[a.block]? = some (.cells ca ta)) (hb : W.heap[b.block]? = some (.cells cb tb)) :
    (binOp .eql 25 (.pointer (some a)) (.pointer (some b))).run Try.prog W = .ok (.bool false) W := by
  obtain ⟨i, hi, hj⟩ := Option.map_eq_some_iff.1 Try.size37
  simp only [Prod.mk.injEq] at hj
  exact eql_ptr_other W Try.underlying25 hi (by omega) hne ha hb
end Go.Proofs.Qxb6629312a
