/- One byte written to a bytes.Buffer that lies within a struct: which blocks it turns, and where its row lies; no condition but a bound. -/
import Derived.Test.YtanadaamipfmkaaDoorQHRec
import Derived.Test.YtanadaamipfmkaaDoorQShelf
import Derived.Laws.CopyOwn
import Derived.Laws.MakeOwn
import Derived.Lib.BufferAt
import Derived.Lib.BufferOwn
import Derived.Lib.BufferMore
import Derived.Lib.BufferGrow
import Derived.Deep.RegionWith
import Derived.Deep.Draws
namespace Go.Proofs.YtanadaamipfmkaaDoor.H
open Go.RowKit Go.Proofs.YtanadaamipfmkaaDoorW.PrintWords Go.Proofs.YtanadaamipfmkaaDoorW.PrintLast Go.Proofs.YtanadaamipfmkaaDoor.R
set_option linter.unusedVariables false
set_option linter.unusedSimpArgs false
attribute [local go_sem ↓] Go.wp_at_zero Go.wp_at_succ
theorem info5 : (Tryd.prog.info? 5).map (fun i => (i.zero, i.size, i.bytes)) = some (some (.int .u8 0), 1, 1) := by kernel_rfl
theorem info5_parts {t : TypeId} {z : Value} {n b : Nat} (h : (Tryd.prog.info? t).map (fun i => (i.zero, i.size, i.bytes)) = some (some z, n, b)) : ∃ i, Tryd.prog.info? t = some i ∧ i.zero = some z ∧ i.size = n ∧ i.bytes = b := by
  cases hi : Tryd.prog.info? t with
  | none => rw [hi] at h; cases h
  | some i =>
    rw [hi] at h
    simp only [Option.map_some, Option.some.injEq, Prod.mk.injEq] at h
    exact ⟨i, rfl, h.1, h.2.1, h.2.2⟩
set_option maxHeartbeats 6400000 in
set_option maxRecDepth 100000 in
/-- grow by one: 'buf' nil. -/
theorem grow_nil (b q : Nat) (T : TypeId) (R : Nat → Option Value) (lr : Int) (w : World) (hbk : LibA.Three w b q T R (.slice none 0 0) (.int .i64 0) (.int .i8 lr)) :
    Calls Tryd.prog 86 #[.pointer (some ⟨b, q, none⟩), .int .i64 1] w fun e w' => e = .returned (.int .i64 0) ∧ ∃ M : Array Value, M.size = 64 ∧ LibA.Three w' b q T R (.slice (some ⟨w.heap.size, 0, none⟩) 1 64) (.int .i64 0) (.int .i8 lr) ∧ w'.heap[w.heap.size]? = some (.cells M 5 (0, 0)) ∧ w.grownBy w' (some b) := by
  obtain ⟨i0, hi, hz0, hz1, hz2⟩ := info5_parts info5
  obtain ⟨M, hM⟩ : ∃ M, M = madeCells (Value.int .u8 0).cells ((64 : Int).toNat * i0.size) := ⟨_, rfl⟩
  have hMs : M.size = 64 := by rw [hM, size_madeCells, hz1]; rfl
  have hmk : ∀ W : World, (Instr.makeSlice 47 (.int .i64 1) (.int .i64 64)).run Tryd.prog W = .ok (.slice (some ⟨W.heap.size, 0, none⟩) 1 64) (W.alloc (.cells M 5)) := fun W => by
    have h := run_makeSlice (P := Tryd.prog) W 47 5 i0 (.int .u8 0) Tryd.underlying47 hi hz0 .i64 .i64 1 64 (by omega) (by omega) (by rw [hz1]; decide) (by rw [hz2]; decide) (by decide)
    rw [← hM] at h
    simpa using h
  clear hM
  have hIs : LibA.IsBuffer T R 5 0 b q [] w := ⟨Nat.zero_le _, _, _, hbk, World.ownsRow_nil _ _ _ _, by simp [Value.ownBlock]⟩
  have hnil : ∀ W, (binOp .eql 47 (.slice none 0 0) (.slice none 0 0)).run Tryd.prog W = .ok (.bool true) W := fun W => Lib.run_eql_slice_nil_nil W _ _ Tryd.underlying47
  go_enter Tryd.func86, Tryd.ntmps86
  go_wp2_with (go_at_call 110; refine (Tryd.Buffer_Len_at T R 0 b q [] _ hIs).mono ?_)
  rintro e W0 ⟨rfl, k, hW0⟩
  have hbk0 : LibA.Three W0 b q T R (.slice none 0 0) (.int .i64 0) (.int .i8 lr) := by rw [hW0]; exact hbk
  have c0 : W0.cell? ⟨b, q, none⟩ = some (.slice none 0 0) := hbk0.c0
  have c1 : W0.cell? ⟨b, q + 1, none⟩ = some (.int .i64 0) := hbk0.c1
  have f0 : W0.frozen? ⟨b, q, none⟩ = false := hbk0.f q
  have f1 : W0.frozen? ⟨b, q + 1, none⟩ = false := hbk0.f (q + 1)
  have hbW0 := hbk0.lt
  have c0a : ∀ o, (W0.alloc o).cell? ⟨b, q, none⟩ = some (.slice none 0 0) := fun o => (World.cell?_of_block (a := ⟨b, q, none⟩) (Below.heap_alloc W0 o b hbW0)).trans c0
  have f0a : ∀ o, (W0.alloc o).frozen? ⟨b, q, none⟩ = false := fun o => (World.frozen?_of_block (a := ⟨b, q, none⟩) (Below.heap_alloc W0 o b hbW0)).trans f0
  have HW0 := Lib.hid hW0
  clear hW0 hIs
  go_wp2_with (go_at_call 85; refine (Tryd.Buffer_tryGrow_none_at b q _ 0 0 1 _ c0 (Nat.le_refl _) (Nat.zero_le _) (by omega)).mono ?_; rintro e w' ⟨rfl, rfl⟩)
  go_ret
  have hsz0 : w'.heap.size = w.heap.size := by rw [HW0.out]; rfl
  have hg0 : w.grownBy w' (some b) := by rw [HW0.out]; exact ⟨rfl, rfl, rfl, Nat.le_refl _, fun _ _ _ => rfl⟩
  have hsz1 : (w'.setCell ⟨b, q, none⟩ (.slice (some ⟨w'.heap.size, 0, none⟩) 1 64)).heap.size = w.heap.size := by simp; exact hsz0
  refine ⟨rfl, M, hMs, ?_, ?_, Lib.grownBy_allocR (Lib.grownBy_setB hg0 q _) _⟩
  · rw [← hsz0]
    exact (hbk0.set0 _).of_heap (Below.heap_alloc _ _ b (hbk0.set0 _).lt)
  · have := Go.heap_alloc_new (w'.setCell ⟨b, q, none⟩ (.slice (some ⟨w'.heap.size, 0, none⟩) 1 64)) (.cells M 5)
    rw [hsz1] at this
    exact this
set_option maxHeartbeats 12800000 in
set_option maxRecDepth 100000 in
/-- grow by one: the row is full. -/
theorem grow_full (b q g l : Nat) (T : TypeId) (R : Nat → Option Value) (lr : Int) (cur : Array Value) (w : World) (hbk : LibA.Three w b q T R (.slice (some ⟨g, 0, none⟩) l l) (.int .i64 0) (.int .i8 lr))
    (hg : w.heap[g]? = some (.cells cur 5 (0, 0))) (hcs : cur.size = l) (hl1 : 1 ≤ l) (hl2 : l ≤ 1000000000) (hgb : g ≠ b) (h1 : ∀ v ∈ cur.toList, v.oneCell' = true) :
    Calls Tryd.prog 86 #[.pointer (some ⟨b, q, none⟩), .int .i64 1] w fun e w' => e = .returned (.int .i64 l) ∧ ∃ (cap : Nat) (M : Array Value), M.size = cap ∧ l + 1 ≤ cap ∧ cap ≤ maxLen ∧ M.toList.take l = cur.toList ∧ LibA.Three w' b q T R (.slice (some ⟨w.heap.size, 0, none⟩) (l + 1) cap) (.int .i64 0) (.int .i8 lr) ∧ w'.heap[w.heap.size]? = some (.cells M 5 (0, 0)) ∧ w.grownBy w' (some b) := by
  have hcl : cur.toList.length = l := by rw [Array.length_toList]; exact hcs
  have hIs : LibA.IsBuffer T R 5 0 b q cur.toList w := ⟨Nat.zero_le _, _, _, hbk, ⟨by rw [Nat.mul_one], .inr ⟨g, l, cur, by rw [hcl], Nat.zero_le _, hg, by omega, by unfold maxLen; omega, by omega, by rw [Nat.mul_one]; exact List.take_length⟩⟩, by simp [Value.ownBlock]; exact hgb⟩
  have hnil : ∀ W, (binOp .eql 47 (.slice (some ⟨g, 0, none⟩) l l) (.slice none 0 0)).run Tryd.prog W = .ok (.bool false) W := fun W => Lib.run_eql_slice_some_nil W _ _ _ Tryd.underlying47
  have h1' : ∀ v ∈ cur.toList.take l, v.oneCell' = true := fun v hv => h1 v (List.mem_of_mem_take hv)
  go_enter Tryd.func86, Tryd.ntmps86
  go_wp2_with (go_at_call 110; refine (Tryd.Buffer_Len_at T R 0 b q cur.toList _ hIs).mono ?_)
  rintro e W0 ⟨rfl, k, hW0⟩
  rw [hcl]
  have hbk0 : LibA.Three W0 b q T R (.slice (some ⟨g, 0, none⟩) l l) (.int .i64 0) (.int .i8 lr) := by rw [hW0]; exact hbk
  have hg0 : W0.heap[g]? = some (.cells cur 5 (0, 0)) := by rw [hW0]; exact hg
  have c0 : W0.cell? ⟨b, q, none⟩ = some (.slice (some ⟨g, 0, none⟩) l l) := hbk0.c0
  have c1 : W0.cell? ⟨b, q + 1, none⟩ = some (.int .i64 0) := hbk0.c1
  have f0 : W0.frozen? ⟨b, q, none⟩ = false := hbk0.f q
  have f1 : W0.frozen? ⟨b, q + 1, none⟩ = false := hbk0.f (q + 1)
  have HW0 := Lib.hid hW0
  clear hW0 hIs hcl
  go_wp2_with (go_at_call 85; refine (Tryd.Buffer_tryGrow_none_at b q _ l l 1 _ c0 (Nat.le_refl _) (by unfold maxLen; omega) (by omega)).mono ?_; rintro e w' ⟨rfl, rfl⟩)
  have mixed : Tryd.prog.follows Departure.mixedOrders = true := by kernel_rfl
  have hbW := hbk0.lt
  have hll : l ≤ l := Nat.le_refl _
  go_region_with_o (
      go_at_call 117
      refine (Tryd.bytes_growSlice_row g l l 1 cur _ ?_ hcs hll (by omega) (by omega) (by omega) h1').mono ?_
      exact hg0
      rintro e w2 ⟨cap2, cells, rfl, hN, hcsz, htk, hcap2, hcm2, hbel⟩
      have hbk2 : LibA.Three w2 b q T R (.slice (some ⟨g, 0, none⟩) l l) (.int .i64 0) (.int .i8 lr) := hbk0.of_heap (hbel.block b hbW)
      have d0 : w2.cell? ⟨b, q, none⟩ = some (.slice (some ⟨g, 0, none⟩) l l) := hbk2.c0
      have d1 : w2.cell? ⟨b, q + 1, none⟩ = some (.int .i64 0) := hbk2.c1
      have e0 : w2.frozen? ⟨b, q, none⟩ = false := hbk2.f q
      have e1 : w2.frozen? ⟨b, q + 1, none⟩ = false := hbk2.f (q + 1))
  all_goals (
    go_wp2
    go_ret
    have hsz0 : w'.heap.size = w.heap.size := by rw [HW0.out]; rfl
    have hg2 : w.grownBy w2 (some b) := Lib.grownBy_below (w := w'.drew) (by rw [HW0.out]; exact ⟨rfl, rfl, rfl, Nat.le_refl _, fun _ _ _ => rfl⟩) hbel
    have hne : w.heap.size ≠ b := by omega
    have hN2 : w2.heap[w.heap.size]? = some (.cells cells 5 (0, 0)) := by rw [← hsz0]; exact hN
    refine ⟨rfl, cap2, cells, hcsz, hcap2, hcm2, htk.trans (List.take_of_length_le (by rw [Array.length_toList]; omega)), ?_, ?_, Lib.grownBy_setB (Lib.grownBy_setB (Lib.grownBy_setB hg2 q _) (q + 1) _) q _⟩
    · rw [← hsz0]
      exact ((hbk2.set0 _).set1 _).set0 _
    · exact (Below.heap_setCell _ ⟨b, q, none⟩ _ _ hne).trans ((Below.heap_setCell _ ⟨b, q + 1, none⟩ _ _ hne).trans ((Below.heap_setCell _ ⟨b, q, none⟩ _ _ hne).trans hN2)))
/-- A buffer at offset q of block b, which is one of the call's own (from B on), and its row v. -/
structure BW (T : TypeId) (R : Nat → Option Value) (B b q : Nat) (v : Value) (l : List UInt8) (w : World) : Prop where
  low : B ≤ b
  three : ∃ lr, LibA.Three w b q T R v (.int .i64 0) (.int .i8 lr)
  own : w.ownsRow B 5 1 v l.length (Lib.byteCells l)
  ne : v.ownBlock ≠ some b
  nil : l = [] → v = .slice none 0 0
theorem bytes_cells (l : List UInt8) : ∀ v ∈ Lib.byteCells l, v.oneCell' = true := by
  intro v hv
  obtain ⟨x, _, rfl⟩ := List.mem_map.1 hv
  rfl
/-- What a step of the buffer leaves as it was. -/
def Kept (b : Nat) (v v' : Value) (w w' : World) : Prop := (∀ k, k < w.heap.size → k ≠ b → v.ownBlock ≠ some k → w'.heap[k]? = w.heap[k]?) ∧ ∀ g, v'.ownBlock = some g → v.ownBlock = some g ∨ w.heap.size ≤ g
theorem grown_keep {w w' : World} {b : Nat} {v : Value} (h : w.grownBy w' (some b)) : ∀ k, k < w.heap.size → k ≠ b → v.ownBlock ≠ some k → w'.heap[k]? = w.heap[k]? := fun k hk hb _ => h.block k hk (by simpa using hb)
theorem grown_below {B b : Nat} {w w' : World} (h : w.grownBy w' (some b)) (hB : B ≤ b) (hw : B ≤ w.heap.size) : Below B w w' := ⟨h.os, h.tape, h.output, h.size, fun k hk => h.block k (by omega) (by simp; omega)⟩
end Go.Proofs.YtanadaamipfmkaaDoor.H
