/- A text in small letters of ASCII (spec.low): what it tells; texts of at most 140737488355328 bytes. -/
import Derived.Test.YthbdaoapjnofkaaDoorQHRec
import Derived.Test.YthbdaoapjnofkaaDoorQXPure
import Derived.Laws.IdiomStrings
import Derived.Laws.BytesArg
import Derived.WalkKit
import Derived.Lib.Hide
namespace Go.Proofs.YthbdaoapjnofkaaDoor.H
open Go.RowKit Go.Proofs.YthbdaoapjnofkaaDoorW.PrintWords Go.Proofs.YthbdaoapjnofkaaDoorW.PrintLast Go.Proofs.YthbdaoapjnofkaaDoor.R Go.Proofs.YthbdaoapjnofkaaDoor.X
set_option linter.unusedVariables false
set_option linter.unusedSimpArgs false
def lowN (x : Int) : Int := if 65 ≤ x ∧ x ≤ 90 then x + 32 else x
theorem ints_bd (s : ByteArray) (j : Nat) : 0 ≤ (ints s).getD j 0 ∧ (ints s).getD j 0 < 256 := by
  rw [List.getD_eq_getElem?_getD]
  unfold ints
  rw [List.getElem?_map]
  cases s.data.toList[j]? with
  | none => simp
  | some b => have := b.toNat_lt; simp; omega
/-- The row that is turned: bytes that may be written. -/
def RowB (w : World) (g : Nat) (l : List Int) : Prop := g < w.heap.size ∧ ∀ j, j < l.length → w.cell? ⟨g, j, none⟩ = some (.int .u8 (l.getD j 0)) ∧ w.frozen? ⟨g, j, none⟩ = false
theorem low_row (w : World) (s : ByteArray) : ∃ c W1, (convert 9 48 (.string s)).run Tryd.prog w = .ok (.slice (some ⟨w.heap.size, 0, none⟩) s.size c) W1 ∧ RowB W1 w.heap.size (ints s) ∧ Below w.heap.size w W1 := by
  refine ⟨_, _, run_bytes_of_string (P := Tryd.prog) w 9 48 5 s Tryd.underlying9 Tryd.underlying48 Tryd.underlying5, ⟨?_, fun j hj => ⟨?_, ?_⟩⟩, ((Below.refl w.heap.size w).drew).alloc (Nat.le_refl _) _⟩
  · show w.heap.size < (Array.push _ _).size
    rw [Array.size_push]
    exact Nat.lt_succ_self _
  · rw [ints_length] at hj
    have hj2 : j < s.data.size := hj
    unfold World.cell?
    rw [show ((w.drew.alloc (.cells (bytesRow s (grownCap w s.size 0 5)) 5 ((bytesRow s (grownCap w s.size 0 5)).size, (bytesRow s (grownCap w s.size 0 5)).size + 1))).heap[w.heap.size]? = _) from Go.heap_alloc_new w.drew _]
    show (bytesRow s _)[j]? = _
    unfold bytesRow
    rw [Array.getElem?_append_left (by simpa using hj2), Array.getElem?_map, Array.getElem?_eq_getElem hj2]
    unfold ints
    rw [List.getD_eq_getElem?_getD, List.getElem?_map, Array.getElem?_toList, Array.getElem?_eq_getElem hj2]
    rfl
  · rw [ints_length] at hj
    have hb : s.size ≤ (bytesRow s (grownCap w s.size 0 5)).size := by
      unfold bytesRow
      rw [Array.size_append, Array.size_map]
      exact Nat.le_add_right _ _
    unfold World.frozen?
    rw [show ((w.drew.alloc (.cells (bytesRow s (grownCap w s.size 0 5)) 5 ((bytesRow s (grownCap w s.size 0 5)).size, (bytesRow s (grownCap w s.size 0 5)).size + 1))).heap[w.heap.size]? = _) from Go.heap_alloc_new w.drew _]
    simp only [Bool.and_eq_false_iff, decide_eq_false_iff_not]
    exact Or.inl (by omega)
theorem RowB.set {w : World} {g : Nat} {l : List Int} (h : RowB w g l) (i : Nat) (hi : i < l.length) (y : Int) : RowB (w.setCell ⟨g, i, none⟩ (.int .u8 y)) g (l.set i y) := by
  refine ⟨Nat.lt_of_lt_of_le h.1 (below_put (Below.refl g w) (Nat.le_refl _) i _).size, fun j hj => ⟨?_, by rw [World.frozen?_setCell]; exact (h.2 j (by simpa using hj)).2⟩⟩
  rw [List.length_set] at hj
  by_cases he : i = j
  · subst he
    rw [World.cell?_setCell_same _ _ _ (h.2 i hi).1, List.getD_eq_getElem?_getD, List.getElem?_set_self hi]
    rfl
  · rw [World.cell?_setCell_other _ _ _ _ (by intro hh; injection hh with _ h2 _; exact he h2), (h.2 j hj).1, List.getD_eq_getElem?_getD, List.getD_eq_getElem?_getD, List.getElem?_set_ne he]
def lowTo (l : List Int) (i : Nat) : List Int := (l.take i).map lowN ++ l.drop i
theorem lowTo_length (l : List Int) (i : Nat) : (lowTo l i).length = l.length := by
  unfold lowTo
  rw [List.length_append, List.length_map, ← List.length_append, List.take_append_drop]
theorem lowTo_get (l : List Int) (i : Nat) (h : i < l.length) : (lowTo l i).getD i 0 = l.getD i 0 := by
  unfold lowTo
  have e : ((l.take i).map lowN).length = i := by rw [List.length_map, List.length_take]; omega
  rw [List.getD_eq_getElem?_getD, List.getElem?_append_right (by omega), e, Nat.sub_self, List.getElem?_drop, Nat.add_zero, ← List.getD_eq_getElem?_getD]
theorem lowTo_succ (l : List Int) (i : Nat) (h : i < l.length) : lowTo l (i + 1) = (lowTo l i).set i (lowN (l.getD i 0)) := by
  have e : ((l.take i).map lowN).length = i := by rw [List.length_map, List.length_take]; omega
  unfold lowTo
  rw [List.set_append_right _ _ (by omega), e, Nat.sub_self, List.drop_eq_getElem_cons h, List.set_cons_zero, List.take_succ_eq_append_getElem h, List.map_append, List.append_assoc]
  simp [List.getD, List.getElem?_eq_getElem h]
theorem set_same (l : List Int) (i : Nat) (h : i < l.length) : l.set i (l.getD i 0) = l := by
  simp [List.getD, List.getElem?_eq_getElem h]
def spec_low.f (s : ByteArray) : Option ByteArray := if s.size ≤ 140737488355328 then some (strOfNums ((ints s).map lowN)) else none
set_option maxHeartbeats 2000000 in
theorem low_walk (s : ByteArray) (w : World) (hs : s.size ≤ 140737488355328) : Calls Tryd.prog 64 #[.string s] w fun e w' => e = .returned (.string (strOfNums ((ints s).map lowN))) ∧ Below w.heap.size w w' := by
  obtain ⟨c, w1, hrun, hr0, hB0⟩ := low_row w s
  have HR := Lib.hid hr0
  have HB := Lib.hid hB0
  have HL := Lib.hid (ints_length s)
  clear hr0 hB0
  go_enter Tryd.func64, Tryd.ntmps64
  go_wp2
  go_loopw [4] (fun n wr => ∃ i : Nat, i ≤ s.size ∧ n = .int .i64 i ∧ Hid (RowB wr w.heap.size (lowTo (ints s) i)) ∧ Hid (Below w.heap.size w wr)) (fun n _ => s.size - (intOf n).toNat)
  case atStart => exact ⟨0, Nat.zero_le _, rfl, by simpa [lowTo] using HR, HB⟩
  case round =>
    obtain ⟨i, hi, rfl, HQ, HW⟩ := hrel
    by_cases hp : i < s.size
    · have hcell := (HQ.out.2 i (by rw [lowTo_length, HL.out]; exact hp)).1
      have hfree := (HQ.out.2 i (by rw [lowTo_length, HL.out]; exact hp)).2
      rw [lowTo_get (ints s) i (by rw [HL.out]; exact hp)] at hcell
      have HS := Lib.hid (lowTo_succ (ints s) i (by rw [HL.out]; exact hp))
      have HG := Lib.hid (lowTo_get (ints s) i (by rw [HL.out]; exact hp))
      obtain ⟨hx0, hx1⟩ := ints_bd s i
      generalize (ints s).getD i 0 = x at *
      by_cases h1 : 65 ≤ x
      · by_cases h2 : x ≤ 90
        · have HN := Lib.hid (show lowN x = x + 32 from if_pos ⟨h1, h2⟩)
          go_wp2
          exact ⟨⟨i + 1, by omega, by simp, Lib.hid (by rw [HS.out, HN.out]; exact RowB.set HQ.out i (by rw [lowTo_length, HL.out]; exact hp) _), Lib.hid (below_put HW.out (Nat.le_refl _) i _)⟩, by simp [intOf]; omega⟩
        · have HN := Lib.hid (show lowN x = x from if_neg (by omega))
          go_wp2
          exact ⟨⟨i + 1, by omega, by simp, Lib.hid (by rw [HS.out, HN.out, ← HG.out, set_same _ _ (by rw [lowTo_length, HL.out]; exact hp)]; exact HQ.out), HW⟩, by simp [intOf]; omega⟩
      · have HN := Lib.hid (show lowN x = x from if_neg (by omega))
        go_wp2
        exact ⟨⟨i + 1, by omega, by simp, Lib.hid (by rw [HS.out, HN.out, ← HG.out, set_same _ _ (by rw [lowTo_length, HL.out]; exact hp)]; exact HQ.out), HW⟩, by simp [intOf]; omega⟩
    · have hie : i = s.size := by omega
      subst hie
      have hall : lowTo (ints s) s.size = (ints s).map lowN := by
        unfold lowTo
        rw [List.take_of_length_le (by rw [HL.out]; exact Nat.le_refl _), List.drop_of_length_le (by rw [HL.out]; exact Nat.le_refl _), List.append_nil]
      have hstr := run_convert_bytes_arg (P := Tryd.prog) (w := wr) 48 5 Tryd.underlying48 Tryd.underlying5 w.heap.size 0 s.size c ((ints s).map lowN) (by rw [List.length_map, HL.out]) (fun j hj => by
        have h1 := (HQ.out.2 j (by rw [lowTo_length, HL.out]; exact hj)).1
        rw [Nat.zero_add]
        rw [hall] at h1
        exact h1) 9 Tryd.underlying9
      clear hall
      go_wp2
      go_ret
      exact ⟨rfl, HW.out⟩
theorem spec_low.calls (s r : ByteArray) (w : World) (h : spec_low.f s = some r) : Calls Tryd.prog 64 #[.string s] w fun e w' => e = .returned (.string r) ∧ Below w.heap.size w w' := by
  unfold spec_low.f at h
  split at h
  · rename_i hc
    obtain rfl := Option.some.inj h
    exact low_walk s w hc
  · exact absurd h (by simp)
end Go.Proofs.YthbdaoapjnofkaaDoor.H
