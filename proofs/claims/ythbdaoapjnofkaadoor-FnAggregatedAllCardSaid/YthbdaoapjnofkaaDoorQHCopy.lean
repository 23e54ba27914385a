/- A row of code points copied (Runes.Copy): a new row; no condition but a bound. -/
import Derived.Test.YthbdaoapjnofkaaDoorQHRec
import Derived.Laws.CopyOwn
import Derived.Laws.MakeOwn
namespace Go.Proofs.YthbdaoapjnofkaaDoor.H
open Go.RowKit Go.Proofs.YthbdaoapjnofkaaDoorW.PrintWords Go.Proofs.YthbdaoapjnofkaaDoorW.PrintLast Go.Proofs.YthbdaoapjnofkaaDoor.R
set_option linter.unusedVariables false
set_option linter.unusedSimpArgs false
attribute [local go_sem ↓] Go.wp_at_zero Go.wp_at_succ
theorem info21 : (Tryd.prog.info? 21).map (fun i => (i.zero, i.size, i.bytes)) = some (some (.int .i32 0), 1, 4) := by kernel_rfl
theorem make_full (n : Nat) (hn : n ≤ 2000000000) (w : World) : (Instr.makeSlice 27 (.int .i64 (n : Int)) (.int .i64 (n : Int))).run Tryd.prog w = .ok (.slice (some ⟨w.heap.size, 0, none⟩) n n) (w.alloc (.cells (madeCells #[.int .i32 0] n).toList.toArray 21)) := by
  obtain ⟨i0, hi, hz0, hz1, hz2⟩ := info_parts info21
  have := run_make (P := Tryd.prog) w 27 21 i0 (.int .i32 0) Tryd.underlying27 hi hz0 .i64 .i64 (n : Int) (n : Int) (by omega) (by omega) (by rw [hz2]; omega) (by omega)
  simp only [Int.toNat_natCast, hz1, Nat.mul_one] at this
  rw [Array.toArray_toList]
  exact this
theorem splice_all (L cs : List Value) (h : L.length = cs.length) : splice L 0 cs = cs := by unfold splice; simp [h]
set_option maxRecDepth 10000 in
set_option maxHeartbeats 2000000 in
theorem Copy_calls (b c n : Nat) (buf : List Int) (w : World) (hn : n = buf.length) (hc : ∀ j, j < buf.length → w.cell? ⟨b, j, none⟩ = some (.int .i32 (buf.getD j 0))) (hl : buf.length ≤ 1000000000) :
    Calls Tryd.prog 69 #[.agg #[], .slice (some ⟨b, 0, none⟩) n c] w fun e w' => e = .returned (.slice (some ⟨w.heap.size + 1, 0, none⟩) n n) ∧ Rec w' (w.heap.size + 1) (buf.map (Value.int .i32)) 21 ∧ Below w.heap.size w w' := by
  subst hn
  have hmk := make_full buf.length (by omega)
  have hcl : (madeCells #[.int .i32 0] buf.length).toList.length = buf.length := by rw [Array.length_toList, size_madeCells]
  generalize (madeCells #[.int .i32 0] buf.length).toList = L at *
  have hb1 := ((Below.refl w.heap.size w).alloc (Nat.le_refl _) (.cells #[] 62)).alloc (by simp) (.cells L.toArray 21)
  have HP := Lib.hid (show 0 < (buf.map (Value.int .i32)).length → (some ⟨w.heap.size + 1, 0, none⟩ : Option Addr) = some ⟨w.heap.size + 1, 0, none⟩ ∧ ∃ ad, (some ⟨b, 0, none⟩ : Option Addr) = some ad ∧ ∀ j v, (buf.map (Value.int .i32))[j]? = some v → ((w.alloc (.cells #[] 62)).alloc (.cells L.toArray 21)).cell? (ad.add j) = some v from fun h0 => by
    refine ⟨rfl, _, rfl, fun j v hj => ?_⟩
    rw [List.getElem?_map] at hj
    obtain ⟨x, hx, rfl⟩ := Option.map_eq_some_iff.1 hj
    obtain ⟨hjl, rfl⟩ := List.getElem?_eq_some_iff.1 hx
    have h1 := pw_cell_below hb1 (hc j hjl)
    rw [show ((⟨b, 0, none⟩ : Addr).add j) = ⟨b, j, none⟩ by unfold Addr.add; split <;> simp_all, h1]
    simp [List.getD, List.getElem?_eq_getElem hjl])
  have HL := Lib.hid hcl
  have hsz : (Tryd.prog.info? 21).map (·.size) = some 1 := by kernel_rfl
  have HSZ := Lib.hid hsz
  have hnew : ((w.alloc (.cells #[] 62)).alloc (.cells L.toArray 21)).heap[w.heap.size + 1]? = some (.cells L.toArray 21 (0, 0)) := by
    have := Go.heap_alloc_new (w.alloc (.cells #[] 62)) (.cells L.toArray 21)
    simpa using this
  have HNEW := Lib.hid hnew
  have HB1 := Lib.hid hb1
  clear hcl hsz hnew hc hb1
  go_enter Tryd.func69, Tryd.ntmps69
  go_wp2_with ((with_reducible refine gate_dst (N := 11) rfl ?_); refine wpList_copy_splice rfl (.tmp 9) (.tmp 10) 27 27 rfl 21 Tryd.underlying27 HSZ.out (some ⟨w.heap.size + 1, 0, none⟩) (some ⟨b, 0, none⟩) buf.length buf.length buf.length c rfl rfl (w.heap.size + 1) 0 L 21 HNEW.out (buf.map (Value.int .i32)) (by simp) HP.out (by rw [HL.out]; simp) (by intro v hv; obtain ⟨x, _, rfl⟩ := List.mem_map.1 hv; rfl) w.heap.size w HB1.out (by omega) ?_; intro w1 hg1 hbl1)
  go_ret
  refine ⟨rfl, ?_, hbl1⟩
  have := hg1.out
  rw [splice_all _ _ (by rw [HL.out]; simp)] at this
  exact this
end Go.Proofs.YthbdaoapjnofkaaDoor.H
