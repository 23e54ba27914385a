/- Rows of code points, a copy of one (Runes.Copy), and a ring of elements (container/list: Back, Prev, Next, PushBack): what they make of memory; no condition but a bound. -/
import Derived.Test.YtdinikcfhpfojaaDoorQHRec
import Derived.Laws.CopyOwn
import Derived.Laws.MakeOwn
import Derived.LaidEqlPtr
namespace Go.Proofs.YtdinikcfhpfojaaDoor.H
open Go.RowKit Go.Proofs.YtdinikcfhpfojaaDoorW.PrintWords Go.Proofs.YtdinikcfhpfojaaDoorW.PrintLast Go.Proofs.YtdinikcfhpfojaaDoor.R
set_option linter.unusedVariables false
set_option linter.unusedSimpArgs false
attribute [local go_sem ↓] Go.wp_at_zero Go.wp_at_succ
abbrev PtS (b : Nat) : Value := .pointer (some ⟨b, 0, none⟩)
theorem info21 : (Tryd.prog.info? 21).map (fun i => (i.zero, i.size, i.bytes)) = some (some (.int .i32 0), 1, 4) := by kernel_rfl
theorem make_full (n : Nat) (hn : n ≤ 2000000000) (w : World) : (Instr.makeSlice 66 (.int .i64 (n : Int)) (.int .i64 (n : Int))).run Tryd.prog w = .ok (.slice (some ⟨w.heap.size, 0, none⟩) n n) (w.alloc (.cells (madeCells #[.int .i32 0] n).toList.toArray 21)) := by
  obtain ⟨i0, hi, hz0, hz1, hz2⟩ := info_parts info21
  have := run_make (P := Tryd.prog) w 66 21 i0 (.int .i32 0) Tryd.underlying66 hi hz0 .i64 .i64 (n : Int) (n : Int) (by omega) (by omega) (by rw [hz2]; omega) (by omega)
  simp only [Int.toNat_natCast, hz1, Nat.mul_one] at this
  rw [Array.toArray_toList]
  exact this
theorem splice_all (L cs : List Value) (h : L.length = cs.length) : splice L 0 cs = cs := by unfold splice; simp [h]
/-- A row of code points, wherever it lies. -/
def RowV (w : World) (v : Value) (l : List Int) : Prop := ∃ A c, v = .slice A l.length c ∧ l.length ≤ c ∧ Kd.C (Kd.int .i32) w A l.length l ∧ (0 < l.length → ∃ ad cs fz, A = some ad ∧ w.heap[ad.block]? = some (.cells cs 21 fz))
theorem add_block (a : Addr) (j : Nat) : (a.add j).block = a.block := by
  cases j with
  | zero => rfl
  | succ j => simp [Addr.add]
theorem cell_block {w w1 : World} {a : Addr} (h : w1.heap[a.block]? = w.heap[a.block]?) : w1.cell? a = w.cell? a := by
  unfold World.cell?
  simp only [h]
theorem C_move {w w1 : World} {A : Option Addr} {l : List Int} (h : Kd.C (Kd.int .i32) w A l.length l) (hm : 0 < l.length → ∀ ad, A = some ad → w1.heap[ad.block]? = w.heap[ad.block]?) : Kd.C (Kd.int .i32) w1 A l.length l := by
  obtain ⟨h1, h2, h3⟩ := Kd.reads_of_C (enc := Value.int .i32) (d := (0 : Int)) (h1 := fun _ => rfl) h
  refine Kd.C_of_reads (enc := Value.int .i32) (d := (0 : Int)) ⟨h1, h2, fun hn => ?_⟩
  obtain ⟨ad, e, hc⟩ := h3 hn
  exact ⟨ad, e, fun j hj => (cell_block (by rw [add_block]; exact hm hn ad e)).trans (hc j hj)⟩
/-- Rows are as they were. -/
def Rows21 (w w1 : World) : Prop := ∀ (k : Nat) (cs : Array Value) (fz : Nat × Nat), w.heap[k]? = some (Obj.cells cs 21 fz) → w1.heap[k]? = w.heap[k]?
theorem Rows21.refl (w : World) : Rows21 w w := fun _ _ _ _ => rfl
theorem Rows21.trans {w w1 w2 : World} (h : Rows21 w w1) (g : Rows21 w1 w2) : Rows21 w w2 := fun k cs fz hk => (g k cs fz ((h k cs fz hk).trans hk)).trans (h k cs fz hk)
theorem Rows21.of_below {w w1 : World} (h : Below w.heap.size w w1) : Rows21 w w1 := fun k cs fz hk => h.block k (lt_of_block hk)
theorem Rows21.set (w : World) (b i : Nat) (u : Value) {l : List Value} {t : TypeId} (h : Rec w b l t) (ht : t ≠ 21) : Rows21 w (w.setCell ⟨b, i, none⟩ u) := fun k cs fz hk => Below.heap_setCell w ⟨b, i, none⟩ u k (fun e => by
  have e' : k = b := e
  rw [e', show w.heap[b]? = _ from h] at hk
  injection hk with hk; injection hk with _ hk _
  exact ht hk)
theorem RowV.move {w w1 : World} {v : Value} {l : List Int} (h : RowV w v l) (hm : Rows21 w w1) : RowV w1 v l := by
  obtain ⟨A, c, rfl, hc, hC, hb⟩ := h
  have hk : 0 < l.length → ∀ ad, A = some ad → w1.heap[ad.block]? = w.heap[ad.block]? := fun hn ad e => by
    obtain ⟨ad', cs, fz, e', h⟩ := hb hn
    obtain rfl : ad = ad' := by rw [e] at e'; exact Option.some.inj e'
    exact hm _ cs fz h
  refine ⟨A, c, rfl, hc, C_move hC hk, fun hn => ?_⟩
  obtain ⟨ad, cs, fz, e, h⟩ := hb hn
  exact ⟨ad, cs, fz, e, (hk hn ad e).trans h⟩
theorem RowV.rec {w : World} {b n : Nat} {l : List Int} (h : Rec w b (l.map (Value.int .i32)) 21) (hn : n = l.length) (hl : l.length ≤ 1000000000) : RowV w (.slice (some ⟨b, 0, none⟩) n n) l := by
  subst hn
  refine ⟨_, _, rfl, Nat.le_refl _, Kd.C_of_reads (enc := Value.int .i32) (d := (0 : Int)) ⟨rfl, by omega, fun _ => ⟨_, rfl, fun j hj => ?_⟩⟩, fun _ => ⟨_, _, _, rfl, h⟩⟩
  have e : (⟨b, 0, none⟩ : Addr).add j = ⟨b, j, none⟩ := by
    cases j with
    | zero => rfl
    | succ j => simp [Addr.add]
  rw [e]
  exact h.cell j (by rw [List.getElem?_map, List.getElem?_eq_getElem hj]; simp [List.getD, List.getElem?_eq_getElem hj])
set_option maxRecDepth 10000 in
set_option maxHeartbeats 2000000 in
theorem Copy_calls (v : Value) (l : List Int) (w : World) (hr : RowV w v l) (hl : l.length ≤ 1000000000) :
    Calls Tryd.prog 108 #[.agg #[], v] w fun e w' => ∃ g, e = .returned (.slice (some ⟨g, 0, none⟩) l.length l.length) ∧ RowV w' (.slice (some ⟨g, 0, none⟩) l.length l.length) l ∧ w.heap.size ≤ g ∧ Below w.heap.size w w' := by
  obtain ⟨A, c, rfl, hcap, hC, _⟩ := hr
  have hmk := make_full l.length (by omega)
  have hcl : (madeCells #[.int .i32 0] l.length).toList.length = l.length := by rw [Array.length_toList, size_madeCells]
  generalize (madeCells #[.int .i32 0] l.length).toList = L at *
  have hb1 := ((Below.refl w.heap.size w).alloc (Nat.le_refl _) (.cells #[] 112)).alloc (by simp) (.cells L.toArray 21)
  have HP := Lib.hid (show 0 < (l.map (Value.int .i32)).length → (some ⟨w.heap.size + 1, 0, none⟩ : Option Addr) = some ⟨w.heap.size + 1, 0, none⟩ ∧ ∃ ad, A = some ad ∧ ∀ j v, (l.map (Value.int .i32))[j]? = some v → ((w.alloc (.cells #[] 112)).alloc (.cells L.toArray 21)).cell? (ad.add j) = some v from fun h0 => by
    rw [List.length_map] at h0
    obtain ⟨h1, h2, h3⟩ := Kd.reads_of_C (enc := Value.int .i32) (d := (0 : Int)) (h1 := fun _ => rfl) hC
    obtain ⟨ad, e, hc⟩ := h3 h0
    refine ⟨rfl, ad, e, fun j v hj => ?_⟩
    rw [List.getElem?_map] at hj
    obtain ⟨x, hx, rfl⟩ := Option.map_eq_some_iff.1 hj
    obtain ⟨hjl, rfl⟩ := List.getElem?_eq_some_iff.1 hx
    have h1 := pw_cell_below hb1 (hc j hjl)
    rw [h1]
    simp [List.getD, List.getElem?_eq_getElem hjl])
  have HL := Lib.hid hcl
  have hsz : (Tryd.prog.info? 21).map (·.size) = some 1 := by kernel_rfl
  have HSZ := Lib.hid hsz
  have hnew : ((w.alloc (.cells #[] 112)).alloc (.cells L.toArray 21)).heap[w.heap.size + 1]? = some (.cells L.toArray 21 (0, 0)) := by
    have := Go.heap_alloc_new (w.alloc (.cells #[] 112)) (.cells L.toArray 21)
    simpa using this
  have HNEW := Lib.hid hnew
  have HB1 := Lib.hid hb1
  clear hcl hsz hnew hC hb1
  go_enter Tryd.func108, Tryd.ntmps108
  go_wp2_with ((with_reducible refine gate_dst (N := 11) rfl ?_); refine wpList_copy_splice rfl (.tmp 9) (.tmp 10) 66 66 rfl 21 Tryd.underlying66 HSZ.out (some ⟨w.heap.size + 1, 0, none⟩) A l.length l.length l.length c rfl rfl (w.heap.size + 1) 0 L 21 HNEW.out (l.map (Value.int .i32)) (by simp) HP.out (by rw [HL.out]; simp) (by intro v hv; obtain ⟨x, _, rfl⟩ := List.mem_map.1 hv; rfl) w.heap.size w HB1.out (by omega) ?_; intro w1 hg1 hbl1)
  go_ret
  refine ⟨w.heap.size + 1, rfl, ?_, by omega, hbl1⟩
  have := hg1.out
  rw [splice_all _ _ (by rw [HL.out]; simp)] at this
  exact RowV.rec this rfl hl
theorem neq_other {tp te : TypeId} {j : TypeInfo} (w : World) {a b : Addr} {ca cb : Array Value} {ta tb : TypeId} (hp : Tryd.prog.underlying tp = some (.pointer te)) (hte : Tryd.prog.info? te = some j) (hsz : j.size ≠ 0)
    (hne : a ≠ b) (ha : w.heap[a.block]? = some (.cells ca ta (0, 0))) (hb : w.heap[b.block]? = some (.cells cb tb (0, 0))) :
    (binOp .neq tp (.pointer (some a)) (.pointer (some b))).run Tryd.prog w = .ok (.bool true) w := by
  have h : ∀ d : Nat, (Op.equalIn (d + 1) tp (.pointer (some a)) (.pointer (some b))).run Tryd.prog w = .ok false w := fun d => by
    simp [Op.equalIn, run_underlying hp, sizeOf, typeInfo, hte, hsz, run_sameAddr_other w hne ha hb]
  simp only [binOp]
  simp [Op.equal, Op.maxDepth, h 9999]
theorem neq_same {tp te : TypeId} {j : TypeInfo} (w : World) (a : Addr) (hp : Tryd.prog.underlying tp = some (.pointer te)) (hte : Tryd.prog.info? te = some j) :
    (binOp .neq tp (.pointer (some a)) (.pointer (some a))).run Tryd.prog w = .ok (.bool false) w := by
  have h : ∀ d : Nat, (Op.equalIn (d + 1) tp (.pointer (some a)) (.pointer (some a))).run Tryd.prog w = .ok true w := fun d => by
    simp [Op.equalIn, run_underlying hp, sizeOf, typeInfo, hte, run_sameAddr_same]
  simp only [binOp]
  simp [Op.equal, Op.maxDepth, h 9999]
theorem info155 : (Tryd.prog.info? 155).map (fun i => i.size) = some 4 := by kernel_rfl
theorem info155_parts : ∃ j, Tryd.prog.info? 155 = some j ∧ j.size ≠ 0 := by
  have h := info155
  cases hi : Tryd.prog.info? 155 with
  | none => rw [hi] at h; cases h
  | some i => rw [hi] at h; simp at h; exact ⟨i, rfl, by omega⟩
theorem ptr_ne {a b : Nat} {la lb : List Value} {ta tb : TypeId} {w : World} (h : a ≠ b) (ha : Rec w a la ta) (hb : Rec w b lb tb) : (binOp .neq 125 (PtS a) (PtS b)).run Tryd.prog w = .ok (.bool true) w := by
  obtain ⟨j, hj, hs⟩ := info155_parts
  exact neq_other w (te := 155) Tryd.underlying125 hj hs (fun e => h (by injection e)) ha hb
theorem ptr_same (a : Nat) (w : World) : (binOp .neq 125 (PtS a) (PtS a)).run Tryd.prog w = .ok (.bool false) w := by
  obtain ⟨j, hj, hs⟩ := info155_parts
  exact neq_same w _ (te := 155) Tryd.underlying125 hj
/-- A list's own block. -/
abbrev lsC (nx pv n : Nat) : List Value := [PtS nx, PtS pv, .pointer none, .nilIface, .int .i64 n]
abbrev elC (nx pv lb t : Nat) : List Value := [PtS nx, PtS pv, PtS lb, .iface 162 (PtS t)]
theorem Back_calls (lb nx pv n : Nat) (w : World) (h : Rec w lb (lsC nx pv n) 157) (hn : 0 < n) : Calls Tryd.prog 166 #[PtS lb] w fun e w' => e = .returned (PtS pv) ∧ w' = w := by
  have c1 := h.cell 1 rfl
  have c4 := h.cell 4 rfl
  have q1 : ((n : Int) == 0) = false := beq_eq_false_iff_ne.2 (by omega)
  have q2 : (n == 0) = false := beq_eq_false_iff_ne.2 (by omega)
  clear h
  go_enter Tryd.func166, Tryd.ntmps166
  go_wp2
  go_ret
  exact ⟨rfl, rfl⟩
theorem Back_none (lb nx pv : Nat) (w : World) (h : Rec w lb (lsC nx pv 0) 157) : Calls Tryd.prog 166 #[PtS lb] w fun e w' => e = .returned (.pointer none) ∧ w' = w := by
  have c4 := h.cell 4 rfl
  clear h
  go_enter Tryd.func166, Tryd.ntmps166
  go_wp2
  go_ret
  exact ⟨rfl, rfl⟩
theorem Len_calls (lb nx pv n : Nat) (w : World) (h : Rec w lb (lsC nx pv n) 157) : Calls Tryd.prog 190 #[PtS lb] w fun e w' => e = .returned (.int .i64 n) ∧ w' = w := by
  have c4 := h.cell 4 rfl
  clear h
  go_enter Tryd.func190, Tryd.ntmps190
  go_wp2
  go_ret
  exact ⟨rfl, rfl⟩
set_option maxRecDepth 100000 in
theorem Prev_calls (eb nx pv lb t : Nat) {l1 l2 : List Value} {t1 t2 : TypeId} (w : World) (h : Rec w eb (elC nx pv lb t) 155) (hne : pv ≠ lb) (h1 : Rec w pv l1 t1) (h2 : Rec w lb l2 t2) : Calls Tryd.prog 167 #[PtS eb] w fun e w' => e = .returned (PtS pv) ∧ w' = w := by
  have c1 := h.cell 1 rfl
  have c2 := h.cell 2 rfl
  have hcmp := ptr_ne hne h1 h2
  clear h h1 h2
  go_enter Tryd.func167, Tryd.ntmps167
  go_wp2
  go_ret
  exact ⟨rfl, rfl⟩
set_option maxRecDepth 100000 in
theorem Next_calls (eb nx pv lb t : Nat) {l1 l2 : List Value} {t1 t2 : TypeId} (w : World) (h : Rec w eb (elC nx pv lb t) 155) (hne : nx ≠ lb) (h1 : Rec w nx l1 t1) (h2 : Rec w lb l2 t2) : Calls Tryd.prog 173 #[PtS eb] w fun e w' => e = .returned (PtS nx) ∧ w' = w := by
  have c1 := h.cell 0 rfl
  have c2 := h.cell 2 rfl
  have hcmp := ptr_ne hne h1 h2
  clear h h1 h2
  go_enter Tryd.func173, Tryd.ntmps173
  go_wp2
  go_ret
  exact ⟨rfl, rfl⟩
end Go.Proofs.YtdinikcfhpfojaaDoor.H
