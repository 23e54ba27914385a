/- The room of what comes in parts (impl.BufferWidth, over bytes.Buffer): the contract by which the law FnBufferWidth takes it, for ASCII; of others nothing is said. -/
import Derived.Test.YthbdaoapjnofkaaDoorHWidth
import Derived.Test.YthbdaoapjnofkaaDoorHRec
import Derived.Test.YthbdaoapjnofkaaDoorShelf
import Derived.Lib.BufferAt
namespace Go.Proofs.YthbdaoapjnofkaaDoor.H
open Go.RowKit Go.Proofs.YthbdaoapjnofkaaDoorW.PrintWords Go.Proofs.YthbdaoapjnofkaaDoorW.PrintLast
set_option linter.unusedVariables false
set_option linter.unusedSimpArgs false

def catB (l : List ByteArray) : List UInt8 := l.flatMap fun s => s.data.toList
def impl_BufferWidth.f (l0 : List ByteArray) : Option Int := if l0.length ≤ 1000 ∧ (∀ s ∈ l0, s.size ≤ 1000) ∧ asciiB ⟨(catB l0).toArray⟩ = true then some (wfold (wbytes ⟨(catB l0).toArray⟩)).1 else none

set_option maxHeartbeats 2000000 in
theorem ansiWidth_calls (B b : Nat) (l : List UInt8) (v : Value) (lr : Int) (w : World) (hB : B ≤ w.heap.size) (hrow : w.ownsRow B 5 1 v (Lib.byteCells l).length (Lib.byteCells l)) (hl : l.length ≤ 1000000) (ha : asciiB ⟨l.toArray⟩ = true) :
    Calls Tryd.prog 44 #[.agg #[v, .int .i64 0, .int .i8 lr]] w fun e w' => e = .returned (.int .i64 (wfold (wbytes ⟨l.toArray⟩)).1) ∧ Below w.heap.size w w' := by
  have hlt : ∀ k, v.ownBlock = some k → k < w.heap.size := fun k hk => by
    rcases hrow.2 with ⟨rfl, _⟩ | ⟨g, cap, cur, rfl, _, hh, _⟩
    · simp [Value.ownBlock] at hk
    · have : g = k := by simpa [Value.ownBlock] using hk
      subst this
      exact lt_of_block hh
  have hrow2 := own_move hrow (w1 := w.alloc (.cells #[v, .int .i64 0, .int .i8 lr] 70)) (fun k hk => Below.heap_alloc w _ k (hlt k hk))
  have hbuf : LibA.IsBuffer 70 (fun _ => none) 5 B w.heap.size 0 (Lib.byteCells l) (w.alloc (.cells #[v, .int .i64 0, .int .i8 lr] 70)) :=
    ⟨hB, v, lr, LibA.three_whole (Go.heap_alloc_new w _), hrow2, fun h => absurd (hlt _ h) (Nat.lt_irrefl _)⟩
  have HW := Lib.hid (fun W => ansi_PrintableRuneWidth.calls ⟨l.toArray⟩ (wfold (wbytes ⟨l.toArray⟩)).1 W (by unfold ansi_PrintableRuneWidth.f; rw [if_pos ⟨ha, by show l.toArray.size ≤ _; simp; omega⟩]))
  have hb0 := (Below.refl w.heap.size w).alloc (Nat.le_refl _) (.cells #[v, .int .i64 0, .int .i8 lr] 70)
  clear hrow hrow2
  go_enter Tryd.func44, Tryd.ntmps44
  go_wp2_with (first
    | (go_at_call 75; refine (Tryd.Buffer_String_at 70 (fun _ => none) B w.heap.size 0 l _ hbuf).mono ?_; rintro e w1 ⟨rfl, n1, rfl⟩)
    | (go_at_call 74; refine (HW.out _).mono ?_; rintro e w2 ⟨rfl, hb2⟩))
  go_ret
  exact ⟨rfl, (pw_below_drewN hb0 n1).trans (hb2.mono (by simp))⟩

theorem catB_len (l : List ByteArray) (h : ∀ s ∈ l, s.size ≤ 1000) : (catB l).length ≤ l.length * 1000 := by
  unfold catB
  induction l with
  | nil => simp
  | cons s l ih =>
    have h1 := h s (by simp)
    have h2 := ih (fun x hx => h x (by simp [hx]))
    have h3 : s.data.toList.length = s.size := by rw [Array.length_toList]; rfl
    simp only [List.flatMap_cons, List.length_append, List.length_cons]
    omega
set_option maxHeartbeats 4000000 in
theorem impl_BufferWidth.calls (A0 : Option Addr) (c0 : Nat) (l0 : List ByteArray) (r : Int) (w : World) (hr0 : Kd.C Kd.string w A0 l0.length l0) (hc0 : l0.length ≤ c0) (h : impl_BufferWidth.f l0 = some r) :
    Calls Tryd.prog 16 #[.slice A0 l0.length c0] w fun e w' => e = .returned (.int .i64 r) ∧ Below w.heap.size w w' := by
  unfold impl_BufferWidth.f at h
  by_cases hc : l0.length ≤ 1000 ∧ (∀ s ∈ l0, s.size ≤ 1000) ∧ asciiB ⟨(catB l0).toArray⟩ = true
  · rw [if_pos hc] at h
    obtain rfl := Option.some.inj h
    obtain ⟨hn, hs, ha⟩ := hc
    have HC := Lib.hid (Kd.reads_of_C (d := ByteArray.empty) (h1 := fun _ => rfl) hr0)
    have HS := Lib.hid hs
    have hlen := catB_len l0 hs
    clear h hr0 hs
    have hb0 := (Below.refl w.heap.size w).alloc (Nat.le_refl _) (.cells #[.slice none 0 0, .int .i64 0, .int .i8 0] 70)
    have hbuf : LibA.IsBuffer 70 (fun _ => none) 5 w.heap.size w.heap.size 0 (Lib.byteCells (catB (l0.take 0))) (w.alloc (.cells #[.slice none 0 0, .int .i64 0, .int .i8 0] 70)) :=
      LibA.zero_isBuffer (Nat.le_refl _) (LibA.three_whole (Go.heap_alloc_new w _))
    go_enter Tryd.func16, Tryd.ntmps16
    go_wp2
    go_loopw [8] (fun vi wr => ∃ i : Nat, i ≤ l0.length ∧ vi = .int .i64 i ∧ LibA.IsBuffer 70 (fun _ => none) 5 w.heap.size w.heap.size 0 (Lib.byteCells (catB (l0.take i))) wr ∧ Below w.heap.size w wr) (fun vi _ => l0.length - (intOf vi).toNat)
    case atStart => exact ⟨0, Nat.zero_le _, rfl, hbuf, hb0⟩
    case round =>
      obtain ⟨i, hi, rfl, hbi, hbl⟩ := hrel
      have hli := catB_len (l0.take i) (fun s hs => HS.out s (List.mem_of_mem_take hs))
      have htl : (l0.take i).length ≤ i := List.length_take_le _ _
      by_cases hlt : i < l0.length
      · obtain ⟨_, _, hA⟩ := HC.out
        obtain ⟨ad, rfl, hcell⟩ := hA (by omega)
        have cx := pw_cell_below hbl (hcell i hlt)
        have hxs : (l0.getD i ByteArray.empty).size ≤ 1000 := by
          rw [List.getD_eq_getElem?_getD, List.getElem?_eq_getElem hlt]; exact HS.out _ (List.getElem_mem hlt)
        have HT := Lib.hid (show Lib.byteCells (catB (l0.take (i + 1))) = Lib.byteCells (catB (l0.take i)) ++ Lib.byteCells (l0.getD i ByteArray.empty).data.toList by
          rw [← Lib.byteCells_append, List.take_succ_eq_append_getElem hlt]
          unfold catB
          rw [List.flatMap_append, List.getD_eq_getElem?_getD, List.getElem?_eq_getElem hlt]
          simp)
        have HW := Lib.hid (Tryd.Buffer_WriteString_at 70 (fun _ => none) w.heap.size w.heap.size 0 (Lib.byteCells (catB (l0.take i))) (l0.getD i ByteArray.empty) wr hbi hbl.size (Lib.byteCells_one _) (by rw [Lib.byteCells_length]; omega))
        clear hcell hA
        generalize l0.getD i ByteArray.empty = x at *
        go_wp2_with (go_at_call 43; refine HW.out.mono ?_; rintro e w2 ⟨rfl, hb2, hbb2, _⟩)
        go_roundw
        case rel => exact ⟨i + 1, by omega, by go_num, by rw [HT.out]; exact hb2, hbl.trans hbb2⟩
        case measure => simp only [intOf]; omega
      · have hE : l0.take i = l0 := List.take_of_length_le (by omega)
        rw [hE] at hbi
        obtain ⟨hB, v, lr, h3, hrow, hne⟩ := hbi
        have c0 := h3.c0
        have c1 := h3.c1
        have c2 := h3.c2
        have HA := Lib.hid (ansiWidth_calls w.heap.size w.heap.size (catB l0) v lr wr hbl.size hrow (by omega) ha)
        clear hrow hE h3
        go_wp2_with (go_at_call 44; refine HA.out.mono ?_; rintro e w2 ⟨rfl, hb2⟩)
        go_ret
        exact ⟨rfl, hbl.trans (hb2.mono hbl.size)⟩
  · rw [if_neg hc] at h
    cases h
end Go.Proofs.YthbdaoapjnofkaaDoor.H
