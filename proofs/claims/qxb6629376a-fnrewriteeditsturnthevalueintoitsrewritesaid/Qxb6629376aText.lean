import Derived.Test.Qxb6629376aRw
import Derived.Laws.IdiomStrings
import Derived.Laws.BytesArg
namespace Go.Proofs.Qxb6629376a
open Go.RowKit

theorem Try.info5 : (Try.prog.info? 5).map (fun i => (i.zero, i.size, i.bytes)) = some (some (.int .u8 0), 1, 1) := by kernel_rfl

/-- The tag's text: the name, then a comma and the option for each of the first i options. -/
def textT (nm : ByteArray) (f : Nat → ByteArray) : Nat → List UInt8
  | 0 => nm.data.toList
  | i + 1 => textT nm f i ++ [44] ++ (f i).data.toList
theorem textT_len (nm : ByteArray) (f : Nat → ByteArray) : ∀ i, (textT nm f i).length + 1 = offT (nm.size + 1) f i
  | 0 => by simp [textT, offT]
  | i + 1 => by
    have := textT_len nm f i
    show (textT nm f i ++ [44] ++ (f i).data.toList).length + 1 = offT (nm.size + 1) f i + (f i).size + 1
    simp
    omega
theorem offT_base (s : Nat) (f : Nat → ByteArray) : ∀ i, offT (s + 1) f i = offT s f i + 1
  | 0 => rfl
  | i + 1 => by
    show offT (s + 1) f i + (f i).size + 1 = offT s f i + (f i).size + 1 + 1
    rw [offT_base s f i]
    omega

def bytesC (l : List UInt8) : List Value := l.map fun b => .int .u8 (b.toNat : Int)
theorem bytesC_append (l m : List UInt8) : bytesC (l ++ m) = bytesC l ++ bytesC m := by simp [bytesC]
theorem byteCells_eq (s : ByteArray) : byteCells s = bytesC s.data.toList := rfl
theorem bytesC_length (l : List UInt8) : (bytesC l).length = l.length := by simp [bytesC]

/-- A slice value that owns the bytes l. -/
def BytesAt (w : World) (base : Nat) (v : Value) (l : List UInt8) : Prop := w.ownsRow base 5 1 v l.length (bytesC l)

theorem BytesAt.add {w' : World} {base : Nat} {v' : Value} {l m : List UInt8} {k : Nat} {cs : List Value} (hk : k = m.length) (hc : cs = bytesC m) (h : w'.ownsRow base 5 1 v' (l.length + k) (bytesC l ++ cs)) : BytesAt w' base v' (l ++ m) := by
  subst hk hc
  unfold BytesAt
  rw [bytesC_append, List.length_append]
  exact h

/-- 'string(b)'. -/
theorem BytesAt.text {w : World} {base : Nat} {v : Value} {l : List UInt8} (h : BytesAt w base v l) : (convert 36 9 v).run Try.prog w = .ok (.string ⟨l.toArray⟩) w := by
  rcases h.2 with ⟨rfl, h0⟩ | ⟨g, cap, cur, rfl, hb, hg, hn, hm, hcs, ht⟩
  · have : l = [] := List.eq_nil_of_length_eq_zero h0
    subst this
    rw [run_convert_bytes_nil w 36 5 Try.underlying36 Try.underlying5 0 0 9 Try.underlying9]
    rfl
  · refine run_convert_bytes_back w 36 9 5 ⟨g, 0, none⟩ cap l Try.underlying36 Try.underlying5 Try.underlying9 fun j hj => ?_
    exact World.ownsRow.cells h (g := g) rfl j _ (by simp [bytesC, hj])

theorem make36 (n : Nat) (h : n ≤ 100000000) (w : World) :
    (Instr.makeSlice 36 (.int .i64 0) (.int .i64 (n : Int))).run Try.prog w = .ok (.slice (some ⟨w.heap.size, 0, none⟩) 0 n) (w.alloc (.cells (madeCells #[.int .u8 0] n) 5)) := by
  obtain ⟨i, hi, hz0, hz1, hz2⟩ := info_parts Try.info5
  have hr := run_make (P := Try.prog) w 36 5 i _ Try.underlying36 hi hz0 .i64 .i64 0 n (by omega) (by omega) (by rw [hz2]; omega) (by omega)
  rw [hr, hz1]
  simp [Value.cells]
theorem BytesAt.made (w : World) (n base : Nat) (h : n ≤ 100000000) (hb : base ≤ w.heap.size) : BytesAt (w.alloc (.cells (madeCells #[.int .u8 0] n) 5)) base (.slice (some ⟨w.heap.size, 0, none⟩) 0 n) [] :=
  World.ownsRow_made w _ n hb (by unfold maxLen; omega) (by rw [size_madeCells, Nat.mul_one])

theorem src_comma (w : World) (g : Nat) (hg : g = w.heap.size) (t : TypeId) : Src Try.prog 1 36 (.slice (some ⟨g, 0, none⟩) 1 1) 1 [.int .u8 44] (w.alloc (.cells #[.int .u8 44] t)) := by
  subst hg
  exact Src.ofSlice _ Try.underlying36 _ 1 1 _ rfl (cell_one_new w _ t) (by intro u hu; simp at hu; subst hu; rfl)

set_option maxHeartbeats 1000000 in
theorem text7 (nm : ByteArray) (a : Option Addr) (n c : Nat) (f : Nat → ByteArray) (w : World) (h1 : StrsAt w a n f) (hb : offT (nm.size + 1) f n ≤ 100000000) :
    Calls Try.prog 7 #[.string nm, .slice a n c] w fun e w' => e = .returned (.string ⟨(textT nm f n).toArray⟩) ∧ Below w.heap.size w w' := by
  have H1 : Hid (StrsAt w a n f) := h1
  rw [offT_base] at hb
  have hb0 := offT_ge (s := nm.size) (f := f) n
  have hns : (nm.size : Int) ≤ 100000000 := by omega
  obtain ⟨i0, hi, hz0, hz1, hz2⟩ := info_parts Try.info5
  have hmk := make36 (offT nm.size f n) (by omega)
  clear h1
  go_enter Try.func7, Try.ntmps7
  go_wp2
  go_loop [5, 15] (fun t j => ∃ k : Nat, k ≤ n ∧ j = .int .i64 k ∧ t = .int .i64 (offT nm.size f k)) (fun _ j => n - (intOf j).toNat)
  case atStart => exact ⟨0, Nat.zero_le _, rfl, rfl⟩
  case round =>
    obtain ⟨k, hk, rfl, rfl⟩ := hrel
    by_cases hlt : k < n
    · obtain ⟨b, off, rfl, hcell, hsz⟩ := H1.out k hlt
      have hm := offT_lt (s := nm.size) (f := f) hlt
      have e : Hid (offT nm.size f (k + 1) = offT nm.size f k + (f k).size + 1) := rfl
      have hkn : (k : Int) < 100000000 := by omega
      clear hmk
      generalize offT nm.size f k = q at *
      go_wp2
      go_round
      case rel => exact ⟨k + 1, by omega, by go_num, by rw [e.out]; go_num⟩
      case measure => simp [intOf]; omega
    · have hkn : k = n := by omega
      subst hkn
      have hM := BytesAt.made w (offT nm.size f k) w.heap.size (by omega) (Nat.le_refl _)
      have hMB : Below w.heap.size w (w.alloc (.cells (madeCells #[.int .u8 0] (offT nm.size f k)) 5)) := (Below.refl _ _).alloc (Nat.le_refl _) _
      unfold BytesAt at hM
      go_wp2_with (at_builtin; refine wpList_append_src _ rfl _ _ 36 9 rfl w.heap.size 5 i0 _ 1 1 Try.underlying36 hi hz0 hz1 hz2 rfl _ _ _ rfl hM _ nm.size (byteCells nm) rfl (Src.ofString _ Try.underlying9 _) ?_ ?_ ?_ ?_)
      · unfold maxLen; omega
      · omega
      · intro v' w' hO hg
        have hO1 : Hid (BytesAt w' w.heap.size v' (textT nm f 0)) := by
          show w'.ownsRow w.heap.size 5 1 v' _ _
          simpa [bytesC, byteCells, textT] using hO
        have hB1 : Hid (Below w.heap.size w w') := hMB.grown hg (by simp) (fun kk hkk => by simp [Value.ownBlock] at hkk; omega)
        clear hO hg hM hMB hmk
        go_wp2_with fail
        go_loopw [8, 32] (fun v j wr => ∃ q : Nat, q ≤ k ∧ j = .int .i64 q ∧ BytesAt wr w.heap.size v (textT nm f q) ∧ Below w.heap.size w wr) (fun _ j _ => k - (intOf j).toNat)
        case atStart => exact ⟨0, Nat.zero_le _, rfl, hO1.out, hB1.out⟩
        case round =>
          obtain ⟨q, hq, rfl, hO, hW⟩ := hrel
          by_cases hlt' : q < k
          · obtain ⟨b, off, rfl, hcell0, hsz⟩ := H1.out q hlt'
            have hcell : wr.cell? ⟨b, off + q, none⟩ = some (.string (f q)) := cell_later hW hcell0
            have hm := offT_lt (s := nm.size) (f := f) hlt'
            have ht := Nat.le_of_eq (textT_len nm f q)
            rw [offT_base] at ht
            have hn : Hid (textT nm f (q + 1) = textT nm f q ++ [44] ++ (f q).data.toList) := rfl
            unfold BytesAt at hO
            generalize textT nm f q = T at *
            go_wp2_with (at_builtin; refine wpList_append_src _ rfl (.tmp 36) (.tmp 37) 36 36 rfl w.heap.size 5 i0 _ 1 1 Try.underlying36 hi hz0 hz1 hz2 rfl _ _ _ rfl (hO.alloc _) _ 1 [.int .u8 44] rfl (src_comma wr _ rfl _) ?_ ?_ ?_ ?_)
            · unfold maxLen; omega
            · omega
            · have := hW.size; simp; omega
            · intro v1 w2 hO2 hg2
              have hW2 : Below w.heap.size w w2 := (hW.alloc hW.size _).grown hg2 (by have := hW.size; simp; omega) (fun kk hkk => (hO.lt kk hkk).1)
              have hP2 : BytesAt w2 w.heap.size v1 (T ++ [44]) := BytesAt.add rfl rfl hO2
              have hcell2 : w2.cell? ⟨b, off + q, none⟩ = some (.string (f q)) := cell_later hW2 hcell0
              unfold BytesAt at hP2
              clear hO2 hg2 hcell
              go_wp2_with (at_builtin; refine wpList_append_src _ rfl (.tmp 39) (.tmp 40) 36 9 rfl w.heap.size 5 i0 _ 1 1 Try.underlying36 hi hz0 hz1 hz2 rfl _ _ _ rfl hP2 _ (f q).size (byteCells (f q)) rfl (Src.ofString _ Try.underlying9 _) ?_ ?_ ?_ ?_)
              · simp; unfold maxLen; omega
              · simp; omega
              · exact hW2.size
              · intro v3 w3 hO3 hg3
                have hW3 : Hid (Below w.heap.size w w3) := hW2.grown hg3 hW2.size (fun kk hkk => (hP2.lt kk hkk).1)
                have hP3 : Hid (BytesAt w3 w.heap.size v3 (T ++ [44] ++ (f q).data.toList)) := BytesAt.add (k := (f q).size) (by simp) rfl (by rw [List.length_append]; exact hO3)
                clear hO3 hg3 hP2 hcell2 hW2 hW hO
                go_wp2
                exact ⟨⟨q + 1, by omega, by go_num, by rw [hn.out]; exact hP3.out, hW3.out⟩, by simp [intOf]; omega⟩
          · have hqk : q = k := by omega
            subst hqk
            have hcv := hO.text
            go_wp2
            go_ret
            exact ⟨rfl, hW⟩
end Go.Proofs.Qxb6629376a
