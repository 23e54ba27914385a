/- What readline's buffer tells of its line (Runes, Pos), with less known of it; no condition. -/
import Derived.Test.YtdinikcfhpfojaaDoorQGLoop
namespace Go.Proofs.YtdinikcfhpfojaaDoor.G
open Go.RowKit Go.Proofs.YtdinikcfhpfojaaDoor.H Go.Proofs.YtdinikcfhpfojaaDoorW.PrintWords Go.Proofs.YtdinikcfhpfojaaDoorW.PrintLast Go.Proofs.YtdinikcfhpfojaaDoor.R
set_option linter.unusedVariables false
set_option linter.unusedSimpArgs false
attribute [local go_sem ↓] Go.wp_at_zero Go.wp_at_succ
theorem make_full (n : Nat) (hn : n ≤ 2000000000) (w : World) : (Instr.makeSlice 66 (.int .i64 (n : Int)) (.int .i64 (n : Int))).run Tryd.prog w = .ok (.slice (some ⟨w.heap.size, 0, none⟩) n n) (w.alloc (.cells (madeCells #[.int .i32 0] n).toList.toArray 21)) := by
  obtain ⟨i0, hi, hz0, hz1, hz2⟩ := info_parts info21
  have := run_make (P := Tryd.prog) w 66 21 i0 (.int .i32 0) Tryd.underlying66 hi hz0 .i64 .i64 (n : Int) (n : Int) (by omega) (by omega) (by rw [hz2]; omega) (by omega)
  simp only [Int.toNat_natCast, hz1, Nat.mul_one] at this
  rw [Array.toArray_toList]
  exact this
theorem splice_all (L cs : List Value) (h : L.length = cs.length) : splice L 0 cs = cs := by unfold splice; simp [h]
set_option maxRecDepth 10000 in
set_option maxHeartbeats 2000000 in
theorem Runes_rec (m B idx : Nat) (A : Option Addr) (c : Nat) (buf : List Int) (kv : Value) (r : Rest) (w : World) (hm : Rec w m (rbc (.slice A buf.length c) idx r kv) 89) (hb : Own w B (.slice A buf.length c) buf) (hl : buf.length ≤ 1000000000) :
    Calls Tryd.prog 43 #[Pt m] w fun e w' => e = .returned (.slice (some ⟨w.heap.size, 0, none⟩) buf.length buf.length) ∧ Rec w' w.heap.size (buf.map (Value.int .i32)) 21 ∧ Below w.heap.size w w' := by
  obtain ⟨A2, c2, e2, hlc, hcm, hA⟩ := hb.form
  injection e2 with e3 e4 e5
  subst e3 e5
  have k0 := hm.cell 0 rfl
  have hmk := make_full buf.length (by omega)
  have hcl : (madeCells #[.int .i32 0] buf.length).toList.length = buf.length := by rw [Array.length_toList, size_madeCells]
  generalize (madeCells #[.int .i32 0] buf.length).toList = L at *
  have k1 := (hm.alloc (.cells L.toArray 21)).cell 0 rfl
  have hb1 := (Below.refl w.heap.size w).alloc (Nat.le_refl _) (.cells L.toArray 21)
  have HP := Lib.hid (show 0 < (buf.map (Value.int .i32)).length → (some ⟨w.heap.size, 0, none⟩ : Option Addr) = some ⟨w.heap.size, 0, none⟩ ∧ ∃ ad, A = some ad ∧ ∀ j v, (buf.map (Value.int .i32))[j]? = some v → (w.alloc (.cells L.toArray 21)).cell? (ad.add j) = some v from fun h0 => by
    rcases hA with ⟨rfl, rfl, rfl⟩ | ⟨g, rfl, hg, hBg, hc⟩
    · simp at h0
    · refine ⟨rfl, _, rfl, fun j v hj => ?_⟩
      rw [List.getElem?_map] at hj
      obtain ⟨x, hx, rfl⟩ := Option.map_eq_some_iff.1 hj
      obtain ⟨hjl, rfl⟩ := List.getElem?_eq_some_iff.1 hx
      have h1 := pw_cell_below hb1 (hc j hjl)
      rw [show ((⟨g, 0, none⟩ : Addr).add j) = ⟨g, j, none⟩ by unfold Addr.add; split <;> simp_all, h1]
      simp [List.getD, List.getElem?_eq_getElem hjl])
  have HL := Lib.hid hcl
  have hsz : (Tryd.prog.info? 21).map (·.size) = some 1 := by kernel_rfl
  have HSZ := Lib.hid hsz
  have hnew : (w.alloc (.cells L.toArray 21)).heap[w.heap.size]? = some (.cells L.toArray 21 (0, 0)) := Go.heap_alloc_new w _
  have HNEW := Lib.hid hnew
  clear hA hcl hsz hnew
  go_enter Tryd.func43, Tryd.ntmps43
  go_wp2_with ((with_reducible refine gate_dst (N := 15) rfl ?_); refine wpList_copy_splice rfl (.tmp 10) (.tmp 14) 66 66 rfl 21 Tryd.underlying66 HSZ.out (some ⟨w.heap.size, 0, none⟩) A buf.length buf.length buf.length c rfl rfl w.heap.size 0 L 21 HNEW.out (buf.map (Value.int .i32)) (by simp) HP.out (by rw [HL.out]; simp) (by intro v hv; obtain ⟨x, _, rfl⟩ := List.mem_map.1 hv; rfl) w.heap.size w hb1 (Nat.le_refl _) ?_; intro w1 hg1 hbl1)
  go_ret
  refine ⟨rfl, ?_, hbl1⟩
  have := hg1.out
  rw [splice_all _ _ (by rw [HL.out]; simp)] at this
  exact this
theorem Pos_rec (m idx : Nat) (bv kv : Value) (r : Rest) (w : World) (hm : Rec w m (rbc bv idx r kv) 89) : Calls Tryd.prog 44 #[Pt m] w fun e w' => e = .returned (.int .i64 idx) ∧ w' = w := by
  have k1 := hm.cell 1 rfl
  go_enter Tryd.func44, Tryd.ntmps44
  go_wp2
  go_ret
  exact ⟨rfl, rfl⟩
end Go.Proofs.YtdinikcfhpfojaaDoor.G
