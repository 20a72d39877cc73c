import Derived.Test.Qxb6630669aRows
import Derived.WalkKit
import Derived.WalkSpells
import Derived.WalkLawsBesides
namespace Go.Proofs.Qxb6630669a

def dig (c : Int) : Bool := decide (48 ≤ c ∧ c ≤ 57)
def expL (c : Int) : Bool := decide (c = 101 ∨ c = 69)
def sgn (c : Int) : Bool := decide (c = 43 ∨ c = 45)
/-- One step of the automaton. -/
def stepN (st : Nat) (c : Int) : Nat :=
  match st with
  | 0 => if c = 45 then 1 else if c = 48 then 2 else if dig c = true then 3 else 9
  | 1 => if c = 48 then 2 else if dig c = true then 3 else 9
  | 2 => if c = 46 then 4 else if expL c = true then 6 else 9
  | 3 => if dig c = true then 3 else if c = 46 then 4 else if expL c = true then 6 else 9
  | 4 => if dig c = true then 5 else 9
  | 5 => if dig c = true then 5 else if expL c = true then 6 else 9
  | 6 => if sgn c = true then 7 else if dig c = true then 8 else 9
  | 7 => if dig c = true then 8 else 9
  | 8 => if dig c = true then 8 else 9
  | _ => 9
def accN (st : Nat) : Bool := st == 2 || st == 3 || st == 5 || st == 8
def runFrom (st : Nat) (l : List Int) : Nat := l.foldl stepN st
def bl (s : ByteArray) : List Int := s.data.toList.map fun b => (b.toNat : Int)
def stT (s : ByteArray) (i : Nat) : Nat := runFrom 0 ((bl s).take i)

theorem bl_length (s : ByteArray) : (bl s).length = s.size := by simp [bl]
theorem stT_succ (s : ByteArray) (i : Nat) (h : i < s.size) : stT s (i + 1) = stepN (stT s i) (s[i].toNat : Int) := by
  unfold stT runFrom
  rw [List.take_succ_eq_append_getElem (by rw [bl_length]; exact h), List.foldl_append]
  simp [bl]
  rfl
theorem stT_all (s : ByteArray) : stT s s.size = runFrom 0 (bl s) := by
  unfold stT
  rw [List.take_of_length_le (by rw [bl_length]; exact Nat.le_refl _)]
theorem dead (l : List Int) : runFrom 9 l = 9 := by
  induction l with
  | nil => rfl
  | cons c l ih => exact ih
theorem runFrom_append (st : Nat) (l m : List Int) : runFrom st (l ++ m) = runFrom (runFrom st l) m := by simp [runFrom]
theorem stT_dead {s : ByteArray} {i : Nat} (h : stT s i = 9) : runFrom 0 (bl s) = 9 := by
  have e : bl s = (bl s).take i ++ (bl s).drop i := (List.take_append_drop i _).symm
  rw [e, runFrom_append]
  have h' : runFrom 0 ((bl s).take i) = 9 := h
  rw [h', dead]
/-- A state from which the next byte leads nowhere: the text is no number. -/
theorem no_of_dead {s : ByteArray} {i : Nat} (hi : i < s.size) (h : stepN (stT s i) (s[i].toNat : Int) = 9) : accN (runFrom 0 (bl s)) = false := by
  rw [stT_dead (i := i + 1) (by rw [stT_succ s i hi]; exact h)]
  rfl
theorem end_here {s : ByteArray} {i : Nat} (hi : i = s.size) : runFrom 0 (bl s) = stT s i := by rw [hi, stT_all]
end Go.Proofs.Qxb6630669a
