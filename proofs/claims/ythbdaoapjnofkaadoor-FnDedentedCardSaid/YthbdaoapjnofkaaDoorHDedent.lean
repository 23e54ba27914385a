/- Lines without the blanks that they begin with (dedent.dedent, over bytes.Buffer): the contract by which the law FnDedented takes it, for texts of at most 100000 bytes; of others nothing is said. -/
import Derived.Test.YthbdaoapjnofkaaDoorHRec
import Derived.Test.YthbdaoapjnofkaaDoorShelf
import Derived.Lib.BufferAt
namespace Go.Proofs.YthbdaoapjnofkaaDoor.H
open Go.RowKit Go.Proofs.YthbdaoapjnofkaaDoorW.PrintWords Go.Proofs.YthbdaoapjnofkaaDoorW.PrintLast
set_option linter.unusedVariables false
set_option linter.unusedSimpArgs false

/-- One sign: how many blanks are left out, whether some still may be, and what is kept. -/
def dstep (k : Int) (q : Int × Bool × List UInt8) (b : UInt8) : Int × Bool × List UInt8 :=
  if ((b.toNat : Int) == 32) = true ∨ ((b.toNat : Int) == 9) = true then (if q.2.1 = true then (if q.1 < k then (q.1 + 1, true, q.2.2) else (q.1, false, q.2.2 ++ [b])) else (q.1, false, q.2.2 ++ [b]))
  else if ((b.toNat : Int) == 10) = true then (0, true, q.2.2 ++ [b]) else (q.1, q.2.1, q.2.2 ++ [b])
def dall (k : Int) (l : List UInt8) : Int × Bool × List UInt8 := l.foldl (dstep k) (0, true, [])
def dedent_dedent.f (a0 : ByteArray) (a1 : Int) : Option ByteArray := if a0.size ≤ 100000 ∧ 0 ≤ a1 ∧ a1 ≤ 100000 then some ⟨(dall a1 a0.data.toList).2.2.toArray⟩ else none
theorem dall_bounds (k : Int) (hk : 0 ≤ k) (l : List UInt8) : 0 ≤ (dall k l).1 ∧ (dall k l).1 ≤ k ∧ (dall k l).2.2.length ≤ l.length := by
  suffices h : ∀ (l : List UInt8) (q : Int × Bool × List UInt8), 0 ≤ q.1 ∧ q.1 ≤ k → 0 ≤ (l.foldl (dstep k) q).1 ∧ (l.foldl (dstep k) q).1 ≤ k ∧ (l.foldl (dstep k) q).2.2.length ≤ q.2.2.length + l.length by
    have := h l (0, true, []) ⟨by omega, hk⟩
    unfold dall; simpa using this
  intro l
  induction l with
  | nil => intro q hq; simpa using hq
  | cons b l ih =>
    intro q hq
    rw [List.foldl_cons]
    have h1 : 0 ≤ (dstep k q b).1 ∧ (dstep k q b).1 ≤ k ∧ (dstep k q b).2.2.length ≤ q.2.2.length + 1 := by
      unfold dstep
      repeat' split
      all_goals simp
      all_goals omega
    have h2 := ih (dstep k q b) ⟨h1.1, h1.2.1⟩
    simp only [List.length_cons]
    omega

set_option maxHeartbeats 4000000 in
theorem dedent_dedent.calls (a0 : ByteArray) (a1 : Int) (r : ByteArray) (w : World) (h : dedent_dedent.f a0 a1 = some r) :
    Calls Tryd.prog 81 #[.string a0, .int .i64 a1] w fun e w' => e = .returned (.string r) ∧ Below w.heap.size w w' := by
  unfold dedent_dedent.f at h
  by_cases hc : a0.size ≤ 100000 ∧ 0 ≤ a1 ∧ a1 ≤ 100000
  · rw [if_pos hc] at h
    obtain rfl := Option.some.inj h
    obtain ⟨hn, h0, h1⟩ := hc
    clear h
    have hlen : a0.data.toList.length = a0.size := by rw [Array.length_toList]; rfl
    have hb0 := (Below.refl w.heap.size w).alloc (Nat.le_refl _) (.cells #[.slice none 0 0, .int .i64 0, .int .i8 0] 68)
    have hbuf : LibA.IsBuffer 68 (fun _ => none) 5 w.heap.size w.heap.size 0 (Lib.byteCells (dall a1 (a0.data.toList.take 0)).2.2) (w.alloc (.cells #[.slice none 0 0, .int .i64 0, .int .i8 0] 68)) :=
      LibA.zero_isBuffer (Nat.le_refl _) (LibA.three_whole (Go.heap_alloc_new w _))
    go_enter Tryd.func81, Tryd.ntmps81
    go_wp2
    go_loopw [5, 6, 8] (fun v5 v6 v8 wr => ∃ i : Nat, i ≤ a0.size ∧ v8 = .int .i64 i ∧ v5 = .int .i64 (dall a1 (a0.data.toList.take i)).1 ∧ v6 = .bool (dall a1 (a0.data.toList.take i)).2.1 ∧ LibA.IsBuffer 68 (fun _ => none) 5 w.heap.size w.heap.size 0 (Lib.byteCells (dall a1 (a0.data.toList.take i)).2.2) wr ∧ Below w.heap.size w wr) (fun _ _ v8 _ => a0.size - (intOf v8).toNat)
    case atStart => exact ⟨0, Nat.zero_le _, rfl, rfl, rfl, hbuf, hb0⟩
    case round =>
      obtain ⟨i, hi, rfl, rfl, rfl, hbi, hbl⟩ := hrel
      have hB := dall_bounds a1 h0 (a0.data.toList.take i)
      have htl : (a0.data.toList.take i).length ≤ i := List.length_take_le _ _
      by_cases hlt : i < a0.size
      · have hT := Lib.hid (show dall a1 (a0.data.toList.take (i + 1)) = dstep a1 (dall a1 (a0.data.toList.take i)) (a0.data.toList[i]'(by omega)) by
          rw [List.take_succ_eq_append_getElem (by omega)]
          unfold dall
          rw [List.foldl_append]; rfl)
        generalize dall a1 (a0.data.toList.take i) = q at *
        obtain ⟨o, f, out⟩ := q
        simp only at hB hbi
        have HW := Lib.hid (fun (c : Int) => Tryd.Buffer_WriteByte_at 68 (fun _ => none) w.heap.size w.heap.size 0 (Lib.byteCells out) c wr hbi hbl.size (Lib.byteCells_one _) (by rw [Lib.byteCells_length]; omega))
        have hel : a0.data.toList[i]'(by omega) = a0[i]'hlt := by simp; rfl
        rw [hel] at hT
        have HB := Lib.hid hbi
        clear hbi hel hbuf

        have hcell : ∀ c : UInt8, Lib.byteCells out ++ [.int .u8 (c.toNat : Int)] = Lib.byteCells (out ++ [c]) := fun c => by rw [Lib.byteCells_append]; rfl
        go_wp2_with (go_at_call 96; refine (HW.out _).mono ?_; rintro e w2 ⟨rfl, hb2, hbb2, _⟩; rw [hcell] at hb2)
        all_goals go_roundw
        all_goals try (case measure => simp only [intOf]; omega)
        all_goals
          have hq := hT.out
          have hbi := HB.out
          clear hT HB HW hcell
          simp only [dstep] at hq
          simp [*] at hq
          try rw [if_neg (show ¬ o < a1 by omega)] at hq
          refine ⟨i + 1, by omega, by go_num, ?_, ?_, ?_, ?_⟩
          · rw [hq] <;> first | rfl | simp_all
          · rw [hq] <;> first | rfl | simp_all
          · rw [hq]; assumption
          · first | exact hbl | exact hbl.trans hbb2
      · have hE : a0.data.toList.take i = a0.data.toList := List.take_of_length_le (by omega)
        rw [hE] at hbi hB
        have HS := Lib.hid (Tryd.Buffer_String_at 68 (fun _ => none) w.heap.size w.heap.size 0 (dall a1 a0.data.toList).2.2 wr hbi)
        clear hbi
        go_wp2_with (go_at_call 75; refine HS.out.mono ?_; rintro e w2 ⟨rfl, n, rfl⟩)
        go_ret
        exact ⟨rfl, pw_below_drewN hbl n⟩
  · rw [if_neg hc] at h
    cases h
end Go.Proofs.YthbdaoapjnofkaaDoor.H
