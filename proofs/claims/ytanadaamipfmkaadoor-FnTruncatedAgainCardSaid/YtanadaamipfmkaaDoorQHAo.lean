/- Plain bytes to a writer that passes them on (ansi.Writer.Write), and its two steps at a line's beginning (ResetAnsi, RestoreAnsi); signs of ASCII but the escape. -/
import Derived.Test.YtanadaamipfmkaaDoorQHAn
import Derived.Lib.OthersKept
import Derived.Laws.RangeString
import Derived.Laws.RangeAny
import Derived.Laws.IdiomStrings
namespace Go.Proofs.YtanadaamipfmkaaDoor.H
open Go.RowKit Go.Proofs.YtanadaamipfmkaaDoorW.PrintWords Go.Proofs.YtanadaamipfmkaaDoorW.PrintLast Go.Proofs.YtanadaamipfmkaaDoor.R
set_option linter.unusedVariables false
set_option linter.unusedSimpArgs false
attribute [local go_sem ↓] Go.wp_at_zero Go.wp_at_succ
theorem AN.move {T : TypeId} {R : Nat → Option Value} {B m o q : Nat} {v rbv : Value} {l : List UInt8} {w w' : World} (h : AN T R B m o q v rbv l w) (hm : ∀ (j : Nat) (cs : Array Value) (t : TypeId) (fz : Nat × Nat), w.heap[j]? = some (.cells cs t fz) → w'.heap[j]? = w.heap[j]?) : AN T R B m o q v rbv l w' := by
  obtain ⟨⟨hlow, ⟨lr, hb⟩, hown, hne, hnil⟩, hrec, hqm, hl, hrb⟩ := h
  refine ⟨⟨hlow, ⟨lr, ?_⟩, own_move hown (fun k e => ?_), hne, hnil⟩, ?_, hqm, hl, ?_⟩
  · obtain ⟨cs, h1, _⟩ := id hb
    exact hb.of_heap (hm m cs T _ h1)
  · obtain ⟨cs, h1⟩ := own_typed hown k e
    exact hm k cs _ _ h1
  · exact (hm q _ _ _ hrec).trans hrec
  · rcases hrb with e | ⟨rb, cs, e, h1, r⟩
    · exact .inl e
    · exact .inr ⟨rb, cs, e, (hm rb cs _ _ h1).trans h1, r⟩
theorem AN.stay {T : TypeId} {R : Nat → Option Value} {B m o q : Nat} {v rbv : Value} {l : List UInt8} {w w' : World} (h : AN T R B m o q v rbv l w) (hb : BW T R B m o v l w') (hg : w.grownBy w' (some m)) : AN T R B m o q v rbv l w' := by
  refine ⟨hb, (hg.block q h.rec_.lt (by simpa using h.qm)).trans h.rec_, h.qm, h.low, ?_⟩
  rcases h.rb with e | ⟨rb, cs, e, h1, h2, h3, h4, h5⟩
  · exact .inl e
  · exact .inr ⟨rb, cs, e, (hg.block rb (lt_of_block h1) (by simpa using h4)).trans h1, h2, h3, h4, h5⟩
theorem iter_move {w : World} {k : Nat} {s : ByteArray} {i i' : Nat} (hk : w.heap[k]? = some (.stringIter s i)) : ∀ (j : Nat) (cs : Array Value) (t : TypeId) (fz : Nat × Nat), w.heap[j]? = some (.cells cs t fz) → (w.iterAt k s i').heap[j]? = w.heap[j]? := fun j cs t fz hj => Lib.iterAt_other w k j s i' (by rintro rfl; rw [hk] at hj; cases hj)
theorem alloc_move (w : World) (o : Obj) : ∀ (j : Nat) (cs : Array Value) (t : TypeId) (fz : Nat × Nat), w.heap[j]? = some (.cells cs t fz) → (w.alloc o).heap[j]? = w.heap[j]? := fun j cs t fz hj => Below.heap_alloc w o j (lt_of_block hj)
theorem iterPos_is {w : World} {k : Nat} {s : ByteArray} {i : Nat} (hk : w.heap[k]? = some (.stringIter s i)) : w.iterPos k = i := by
  unfold World.iterPos
  rw [hk]
set_option maxHeartbeats 12800000 in
set_option maxRecDepth 100000 in
/-- Plain bytes. -/
theorem an_write (T : TypeId) (R : Nat → Option Value) (B m o q c : Nat) (A : Option Addr) (v rbv : Value) (l u : List UInt8) (w : World) (h : AN T R B m o q v rbv l w) (hBw : B ≤ w.heap.size) (hu : ∀ x ∈ u, x.toNat < 128 ∧ x.toNat ≠ 27) (hl : l.length + u.length ≤ 1000000000)
    (hcv : (convert 47 9 (.slice A u.length c)).run Tryd.prog w = .ok (.string ⟨u.toArray⟩) w) :
    Calls Tryd.prog 50 #[.pointer (some ⟨q, 0, none⟩), .slice A u.length c] w fun e w' => e = .returned (.tuple #[.int .i64 u.length, .nilIface]) ∧ ∃ v' rbv', AN T R B m o q v' rbv' (l ++ u) w' ∧ Oth B m q w w' := by
  have hss : (⟨u.toArray⟩ : ByteArray).size = u.length := by simp [ByteArray.size]
  obtain ⟨s, hs⟩ : ∃ s : ByteArray, s = ⟨u.toArray⟩ := ⟨_, rfl⟩
  rw [← hs] at hcv hss
  have hat : ∀ i (hi : i < s.size) (hi2 : i < u.length), s[i]'hi = u[i]'hi2 := fun i hi hi2 => by subst hs; rfl
  have HA0 := Lib.hid (show AN T R B m o q v rbv (l ++ u.take 0) (w.iter s 0) from by rw [List.take_zero, List.append_nil]; exact h.move (alloc_move w _))
  have HO0 := Lib.hid (show Oth B m q w (w.iter s 0) from ⟨(Below.refl B w).alloc hBw _, fun k ob hh _ _ _ => (Below.heap_alloc w _ k (lt_of_block hh)).trans hh⟩)
  have HI0 := Lib.hid (World.iter_heap w s 0)
  have HAT := Lib.hid (And.intro hat (And.intro hss hu))
  clear hat hu h hs
  go_enter Tryd.func50, Tryd.ntmps50
  go_wp2
  go_loopw [7] (fun _ wr => ∃ (i : Nat) (v' rbv' : Value), i ≤ u.length ∧ wr.heap[w.heap.size]? = some (.stringIter s i) ∧ AN T R B m o q v' rbv' (l ++ u.take i) wr ∧ Oth B m q w wr) (fun _ wr => s.size - wr.iterPos w.heap.size)
  case atStart => exact ⟨0, v, rbv, Nat.zero_le _, HI0.out, HA0.out, HO0.out⟩
  case round =>
    obtain ⟨i, v', rbv', hi, hit, hA, hO⟩ := hrel
    have hip := iterPos_is hit
    by_cases hlt : i < u.length
    · have hlt2 : i < s.size := by omega
      obtain ⟨x, hx⟩ : ∃ x, x = u[i] := ⟨_, rfl⟩
      obtain ⟨hx1, hx2⟩ := HAT.out.2.2 x (by rw [hx]; exact List.getElem_mem hlt)
      have hsx : s[i]'hlt2 = x := by rw [hx]; exact HAT.out.1 i hlt2 hlt
      have hnx : ∀ ty, (Instr.next (.pointer (some ⟨w.heap.size, 0, none⟩)) true ty).run Tryd.prog wr = .ok (.tuple #[.bool true, .int .i64 i, .int .i32 x.toNat]) (wr.iterAt w.heap.size s (i + 1)) := fun ty => by
        rw [Lib.run_next_ascii_at wr w.heap.size s i ty hit hlt2 (by rw [hsx]; exact hx1), hsx]
      have hA1 := hA.move (iter_move (i' := i + 1) hit)
      have hit1 := Lib.iterAt_heap wr w.heap.size s i (i + 1) hit
      have hO1 : Oth B m q w (wr.iterAt w.heap.size s (i + 1)) := ⟨Lib.below_iterAt hO.1 hBw s _, fun k ob hh h1 h2 h3 => (Lib.iterAt_other wr w.heap.size k s _ (by have := lt_of_block hh; omega)).trans (hO.2 k ob hh h1 h2 h3)⟩
      have hne : ((x.toNat : Int) == 27) = false := beq_eq_false_iff_ne.2 (by omega)
      have c1 := hA1.rec_.cell 1 rfl
      have hB1 : B ≤ (wr.iterAt w.heap.size s (i + 1)).heap.size := Nat.le_trans hBw hO1.1.size
      have hmq : w.heap.size ≠ m ∧ w.heap.size ≠ q := by
        constructor
        · rintro e
          obtain ⟨lr, cs, h9, _⟩ := hA1.buf.three
          rw [← e, hit1] at h9
          cases h9
        · rintro e
          have h9 := hA1.rec_
          unfold Rec at h9
          rw [← e, hit1] at h9
          cases h9
      have HC := Lib.hid (write_rune T R B m o q v' rbv' _ _ x hA1 hB1 hx1 (by simp; omega))
      have HTK := Lib.hid (show l ++ u.take (i + 1) = l ++ u.take i ++ [x] by rw [List.take_succ_eq_append_getElem hlt, hx, List.append_assoc])
      have HX := Lib.hid (And.intro hO1 (And.intro hit1 hmq))
      clear hA hO hA1 hO1 hit1 hx hsx hmq
      go_wp2_with (go_at_call 78; refine HC.out.mono ?_; rintro e w5 ⟨rfl, v5, rb5, hA5, hO5⟩)
      have hit5 : w5.heap[w.heap.size]? = some (.stringIter s (i + 1)) := hO5.2 _ _ HX.out.2.1 HX.out.2.2.1 HX.out.2.2.2 (by intro c fz e; cases e)
      refine ⟨⟨i + 1, v5, rb5, by omega, hit5, by rw [HTK.out]; exact hA5, HX.out.1.trans hO5⟩, ?_⟩
      rw [iterPos_is hit5, hip]
      omega
    · have hnx : ∀ ty, (Instr.next (.pointer (some ⟨w.heap.size, 0, none⟩)) true ty).run Tryd.prog wr = .ok (.tuple #[.bool false]) wr := fun ty => Lib.run_next_end_at wr w.heap.size s i ty hit (by omega)
      have hE : u.take i = u := List.take_of_length_le (by omega)
      rw [hE] at hA
      go_wp2
      refine bodyPost_ret (v := .tuple #[.int .i64 u.length, .nilIface]) (by simp [results, Tryd.results50, go_sem]) rfl ?_
      exact ⟨rfl, v', rbv', hA, hO⟩
set_option maxHeartbeats 4000000 in
/-- No sequence has come: nothing is turned. -/
theorem reset_ansi (q : Nat) (m o : Nat) (rbv : Value) (w : World) (h : Rec w q (anC m o rbv) 81) : Calls Tryd.prog 49 #[.pointer (some ⟨q, 0, none⟩)] w fun e w' => e = .returned (.tuple #[]) ∧ w' = w := by
  have c8 := h.cell 8 rfl
  clear h
  go_enter Tryd.func49, Tryd.ntmps49
  go_wp2
  refine bodyPost_ret (results_none rfl _ _ _) rfl ?_
  exact ⟨rfl, rfl⟩
set_option maxHeartbeats 12800000 in
set_option maxRecDepth 100000 in
/-- No sequence is open: nothing is written. -/
theorem restore_ansi (T : TypeId) (R : Nat → Option Value) (B m o q : Nat) (v rbv : Value) (l : List UInt8) (w : World) (h : AN T R B m o q v rbv l w) (hBw : B ≤ w.heap.size) :
    Calls Tryd.prog 52 #[.pointer (some ⟨q, 0, none⟩)] w fun e w' => e = .returned (.tuple #[]) ∧ AN T R B m o q v rbv l w' ∧ Oth B m q w w' := by
  have c0 := h.rec_.cell 0 rfl
  have hT : LibA.Three w q 5 81 (fun i => (anC m o rbv).toArray[i]?) (.slice none 0 0) (.int .i64 0) (.int .i8 0) := ⟨_, h.rec_, rfl, rfl, rfl, fun _ _ => rfl⟩
  have hmt : ∀ W, (method 261 54 (.pointer (some ⟨m, o, none⟩)) "Write").run Tryd.prog W = .ok (75, .pointer (some ⟨m, o, none⟩)) W := meth m o
  have HT := Lib.hid hT
  have HH := Lib.hid h
  clear hT h
  go_enter Tryd.func52, Tryd.ntmps52
  go_wp2
  have hd : (fun w' : World => w'.cell? ⟨q, 0, none⟩ = some (.iface 54 (.pointer (some ⟨m, o, none⟩)))) w := c0
  go_region_held3 (fun w' => w'.cell? ⟨q, 0, none⟩ = some (.iface 54 (.pointer (some ⟨m, o, none⟩)))) (first | go_keep | (exact hd)) (first
    | (go_at_call 76; refine (bytes_at 81 _ q 5 0 0 none 0 w.drew HT.out (Nat.le_refl _) (Nat.zero_le _) (by intro ad h; cases h) (fun _ => ⟨rfl, rfl⟩)).mono ?_; rintro e w3 ⟨rfl, rfl⟩; have hd : World.cell? w.drew.drew ⟨q, 0, none⟩ = some (.iface 54 (.pointer (some ⟨m, o, none⟩))) := c0)
    | (go_at_call 75; refine (write_none T R B m o v l w.drew.drew HH.out.drew.drew.buf hBw).mono ?_; rintro e w4 ⟨rfl, hbw, hbb, hgr⟩; have hA4 := HH.out.drew.drew.stay hbw hgr; have hd : w4.cell? ⟨q, 0, none⟩ = some (.iface 54 (.pointer (some ⟨m, o, none⟩))) := hA4.rec_.cell 0 rfl))
  go_end0
  refine ⟨rfl, hA4, (below_drew (below_drew (Below.refl B w))).trans hbb, fun k ob hh h1 h2 h3 => (hgr.block k (lt_of_block hh) (by simpa using h1)).trans hh⟩
end Go.Proofs.YtanadaamipfmkaaDoor.H
