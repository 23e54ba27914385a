/- One step over a history (impl.past): New, Prev, Next; ASCII texts of at most 100000 bytes. -/
import Derived.Test.YtdinikcfhpfojaaDoorQHHsF
import Derived.Laws.Cover3
namespace Go.Proofs.YtdinikcfhpfojaaDoor.H
open Go.RowKit Go.Proofs.YtdinikcfhpfojaaDoorW.PrintWords Go.Proofs.YtdinikcfhpfojaaDoorW.PrintLast Go.Proofs.YtdinikcfhpfojaaDoor.R Go.Proofs.YtdinikcfhpfojaaDoor.X
set_option linter.unusedVariables false
set_option linter.unusedSimpArgs false
attribute [local go_sem ↓] Go.wp_at_zero Go.wp_at_succ
theorem CRow {w : World} {b cap : Nat} {l : List Int} (h : Rec w b (runeCells l cap) 21) (hl : l.length ≤ 1000000) : Kd.C (Kd.int .i32) w (some ⟨b, 0, none⟩) l.length l := by
  refine Kd.C_of_reads (enc := Value.int .i32) (d := (0 : Int)) ⟨rfl, by omega, fun _ => ⟨_, rfl, fun j hj => ?_⟩⟩
  have e : (⟨b, 0, none⟩ : Addr).add j = ⟨b, j, none⟩ := by
    cases j with
    | zero => rfl
    | succ j => simp [Addr.add]
  rw [e]
  exact h.cell j (runeCells_at l cap j hj)
theorem RowV.runes {w : World} {b cap : Nat} {l : List Int} (h : Rec w b (runeCells l cap) 21) (hl : l.length ≤ 1000000) (hc : l.length ≤ cap) : RowV w (.slice (some ⟨b, 0, none⟩) l.length cap) l :=
  ⟨_, _, rfl, hc, CRow h hl, fun _ => ⟨_, _, _, rfl, h⟩⟩
theorem runes_V (w : World) (v : Value) (l : List Int) (h : RowV w v l) : (convert 66 9 v).run Tryd.prog w = .ok (.string (runesBytes l)) w := by
  obtain ⟨A, c, rfl, hcap, hC, _⟩ := h
  obtain ⟨_, _, h3⟩ := Kd.reads_of_C (enc := Value.int .i32) (d := (0 : Int)) (h1 := fun _ => rfl) hC
  cases l with
  | nil =>
    cases A with
    | none => exact run_convert_runes_nil (P := Tryd.prog) w 66 9 21 0 c (by kernel_rfl) (by kernel_rfl) (by kernel_rfl)
    | some ad => exact run_convert_runes (P := Tryd.prog) w 66 9 21 ad 0 c [] (Nat.le_refl _) (by kernel_rfl) (by kernel_rfl) (by kernel_rfl) (fun j hj => absurd hj (by simp))
  | cons x l =>
    obtain ⟨ad, e, hc⟩ := h3 (by simp)
    subst e
    have := run_convert_runes (P := Tryd.prog) w 66 9 21 ad (x :: l).length c (x :: l) (Nat.le_refl _) (by kernel_rfl) (by kernel_rfl) (by kernel_rfl) hc
    rwa [List.take_length] at this
section
variable {B ob lb cb : Nat} {lim : Int} {fold : Bool} {st : St} {w w1 : World}
theorem hNew_calls (h : Sta B w ob lb cb lim fold st) (v : Value) (x : List Int) (hv : RowV w v x) (hf : Fit lim st x) (hBw : B ≤ w.heap.size) :
    Calls Tryd.prog 81 #[.agg #[PtS ob], v] w fun e' w' => e' = .returned (.tuple #[]) ∧ Sta B w' ob lb cb lim fold ⟨st.tx ++ [x], st.tx.length + 1⟩ ∧ Frm B w w' := by
  have hb : Below w.heap.size w (w.alloc (.cells #[PtS ob] 82)) := (Below.refl _ _).alloc (Nat.le_refl _) _
  have H := Lib.hid (New_sta (h.stays hb) v x (hv.stays hb) hf (by simp; omega))
  have HF := Lib.hid (Frm.of_below hb hBw)
  clear h hv hb
  go_enter Tryd.func81, Tryd.ntmps81
  go_wp2_with fail
  refine H.out.mono ?_
  rintro e' w2 ⟨rfl, h1, h2⟩
  have HR := Lib.hid (And.intro h1 h2)
  clear h1 h2
  go_wp2_with fail
  go_end0
  exact ⟨rfl, HR.out.1, HF.out.trans HR.out.2⟩
theorem hPrev_calls (h : Sta B w ob lb cb lim fold st) (i : Nat) (ha : st.at_ = i + 1) (hi : i < st.tx.length) (hBw : B ≤ w.heap.size) :
    Calls Tryd.prog 83 #[.agg #[PtS ob]] w fun e' w' => ∃ g, e' = .returned (.slice (some ⟨g, 0, none⟩) (st.tx[i]).length (st.tx[i]).length) ∧ RowV w' (.slice (some ⟨g, 0, none⟩) (st.tx[i]).length (st.tx[i]).length) st.tx[i] ∧ Sta B w' ob lb cb lim fold ⟨st.tx, i⟩ ∧ Frm B w w' := by
  have hb : Below w.heap.size w (w.alloc (.cells #[PtS ob] 82)) := (Below.refl _ _).alloc (Nat.le_refl _) _
  have H := Lib.hid (Prev_sta (h.stays hb) i ha hi (by simp; omega))
  have HF := Lib.hid (Frm.of_below hb hBw)
  clear h hb
  go_enter Tryd.func83, Tryd.ntmps83
  go_wp2_with fail
  refine H.out.mono ?_
  rintro e' w2 ⟨g, rfl, h1, h2, h3⟩
  have HR := Lib.hid (And.intro h1 (And.intro h2 h3))
  clear h1 h2 h3
  go_wp2_with fail
  go_ret
  exact ⟨g, rfl, HR.out.1, HR.out.2.1, HF.out.trans HR.out.2.2⟩
theorem hNext_calls (h : Sta B w ob lb cb lim fold st) (i : Nat) (ha : st.at_ = i) (hi : i + 1 < st.tx.length) (hBw : B ≤ w.heap.size) :
    Calls Tryd.prog 84 #[.agg #[PtS ob]] w fun e' w' => ∃ g, e' = .returned (.tuple #[.slice (some ⟨g, 0, none⟩) (st.tx[i + 1]).length (st.tx[i + 1]).length, .bool true]) ∧ RowV w' (.slice (some ⟨g, 0, none⟩) (st.tx[i + 1]).length (st.tx[i + 1]).length) st.tx[i + 1] ∧ Sta B w' ob lb cb lim fold ⟨st.tx, i + 1⟩ ∧ Frm B w w' := by
  have hb : Below w.heap.size w (w.alloc (.cells #[PtS ob] 82)) := (Below.refl _ _).alloc (Nat.le_refl _) _
  have H := Lib.hid (Next_sta (h.stays hb) i ha hi (by simp; omega))
  have HF := Lib.hid (Frm.of_below hb hBw)
  clear h hb
  go_enter Tryd.func84, Tryd.ntmps84
  go_wp2_with fail
  refine H.out.mono ?_
  rintro e' w2 ⟨g, rfl, h1, h2, h3⟩
  have HR := Lib.hid (And.intro h1 (And.intro h2 h3))
  clear h1 h2 h3
  go_wp2_with fail
  refine bodyPost_ret (results_tmp2 rfl _ _ _) rfl ?_
  exact ⟨g, rfl, HR.out.1, HR.out.2.1, HF.out.trans HR.out.2.2⟩
theorem Frm.new {b : Nat} (h : Frm B w w1) (hb : w.heap.size ≤ b) (hB : B ≤ b) (i : Nat) (u : Value) : Frm B w (w1.setCell ⟨b, i, none⟩ u) := ⟨h.1.setCell hB u, fun k cs t fz hk h1 h2 h3 h4 => (Below.heap_setCell w1 ⟨b, i, none⟩ u k (by have := lt_of_block hk; show k ≠ b; omega)).trans (h.2 k cs t fz hk h1 h2 h3 h4)⟩
theorem told_calls (w : World) : Calls Tryd.prog 68 #[.bool true] w fun e w' => e = .returned (.int .i64 1) ∧ w' = w := by
  go_enter Tryd.func68, Tryd.ntmps68
  go_wp2
  go_ret
  exact ⟨rfl, rfl⟩
set_option maxRecDepth 100000 in
set_option maxHeartbeats 16000000 in
theorem past_new (h : Sta B w ob lb cb lim fold st) (s : ByteArray) (N : Int) (flag : Bool) (has : Asc s) (hsz : s.size ≤ 100000) (hf : Fit lim st (ints s)) (hBw : B ≤ w.heap.size) :
    Calls Tryd.prog 50 #[.agg #[PtS ob], .agg #[.int .i64 1, .string s, .int .i64 N, .bool flag]] w fun e' w' => e' = .returned (.tuple #[.agg #[.string ⟨#[]⟩, .int .i64 0], .bool true]) ∧ Sta B w' ob lb cb lim fold ⟨st.tx ++ [ints s], st.tx.length + 1⟩ ∧ Frm B w w' := by
  have hcv := fun W : World => runes_run (P := Tryd.prog) W 9 66 21 s (by kernel_rfl) (by kernel_rfl) (by kernel_rfl) (by omega)
  rw [runesOf_asc has] at hcv
  have hli := ints_length s
  rw [hli] at hcv
  have hcap := fun W => grownCap_ge W s.size 0 21
  obtain ⟨wA, hwA⟩ : ∃ wA, wA = ((w.alloc (.cells #[PtS ob] 82)).alloc (.cells #[.int .i64 1, .string s, .int .i64 N, .bool flag] 50)).alloc (.cells #[.string ⟨#[]⟩, .int .i64 0] 56) := ⟨_, rfl⟩
  have hbA : Below w.heap.size w wA := hwA ▸ (((Below.refl _ _).alloc (Nat.le_refl _) _).alloc (by simp) _).alloc (by simp; omega) _
  have hzA : wA.heap.size = w.heap.size + 3 := by rw [hwA]; simp
  have r2 : Rec wA w.heap.size [PtS ob] 82 := hwA ▸ ((Rec.new w [PtS ob] 82).alloc _).alloc _
  have r3 : Rec wA (w.heap.size + 1) [.int .i64 1, .string s, .int .i64 N, .bool flag] 50 := hwA ▸ (Rec.at_ (b := w.heap.size + 1) (w.alloc (.cells #[PtS ob] 82)) [.int .i64 1, .string s, .int .i64 N, .bool flag] 50 (by simp)).alloc _
  have r4 : Rec wA (w.heap.size + 2) [.string ⟨#[]⟩, .int .i64 0] 56 := hwA ▸ Rec.at_ (b := w.heap.size + 2) ((w.alloc (.cells #[PtS ob] 82)).alloc (.cells #[.int .i64 1, .string s, .int .i64 N, .bool flag] 50)) [.string ⟨#[]⟩, .int .i64 0] 56 (by simp)
  have HA := Lib.hid (And.intro hbA (And.intro r2 (And.intro r3 r4)))
  have HST := Lib.hid (h.stays hbA)
  have hz1 := hbA.size
  clear h hbA r2 r3 r4
  go_enter Tryd.func50, Tryd.ntmps50
  go_wp2_with fail
  try rw [← hwA]
  rw [show w.heap.size + 1 + 1 + 1 = wA.heap.size by rw [hzA], show w.heap.size + 1 + 1 = w.heap.size + 2 from rfl]
  clear hwA
  have hcapA := hcap wA
  obtain ⟨cap, hcp⟩ : ∃ cap, cap = grownCap wA s.size 0 21 := ⟨_, rfl⟩
  rw [← hcp] at hcapA ⊢
  clear hcp hcap hcv
  obtain ⟨wB, hwB⟩ : ∃ wB, wB = (wA.alloc (.cells (runeCells (ints s) cap).toArray 21)).drew := ⟨_, rfl⟩
  have hbB : Below wA.heap.size wA wB := hwB ▸ ((Below.refl _ _).alloc (Nat.le_refl _) _).drew
  have HRB := Lib.hid (show RowV wB (.slice (some ⟨wA.heap.size, 0, none⟩) s.size cap) (ints s) from by
    have := RowV.runes (w := wB) (b := wA.heap.size) (cap := cap) (l := ints s) (hwB ▸ (Rec.new wA (runeCells (ints s) cap) 21).drew) (by omega) (by omega)
    rwa [hli] at this)
  have HSB := Lib.hid (HST.out.stays hbB)
  have HFB := Lib.hid ((Frm.of_below HA.out.1 hBw).trans (Frm.of_below hbB (by omega)))
  have HR4 := Lib.hid (HA.out.2.2.2.stays hbB)
  have HR2 := Lib.hid (HA.out.2.1.stays hbB)
  have hzB := hbB.size
  rw [← hwB]
  clear hwB hbB
  refine (hNew_calls HSB.out _ (ints s) HRB.out hf (by omega)).mono ?_
  rintro e' w5 ⟨rfl, h1, h2⟩
  have HR := Lib.hid (And.intro h1 h2)
  clear h1 h2
  have r5 := HR.out.2.one HR4.out (by decide) (by decide) (by decide) (by decide)
  have c0 := r5.cell 0 rfl
  have c1 := r5.cell 1 rfl
  have f0 := r5.free 0
  have f1 := r5.free 1
  have HR5 := Lib.hid r5
  clear r5
  go_wp2_with fail
  have r7 := (HR5.out.set 0 (.string ⟨#[]⟩)).set 1 (.int .i64 0)
  have q0 := r7.cell 0 rfl
  have q1 := r7.cell 1 rfl
  refine bodyPost_ret (v := .tuple #[.agg #[.string ⟨#[]⟩, .int .i64 0], .bool true]) (by simp [results, Tryd.results50, go_sem, q0, q1]) rfl ?_
  exact ⟨rfl, (HR.out.1.set HR5.out (by decide) 0 _).set (HR5.out.set 0 _) (by decide) 1 _, ((HFB.out.trans HR.out.2).new (by omega) (by omega) 0 _).new (by omega) (by omega) 1 _⟩
set_option maxRecDepth 100000 in
set_option maxHeartbeats 16000000 in
theorem past_prev (h : Sta B w ob lb cb lim fold st) (s : ByteArray) (N : Int) (flag : Bool) (has : Asc s) (hsz : s.size ≤ 100000) (i : Nat) (ha : st.at_ = i + 1) (hi : i < st.tx.length) (hBw : B ≤ w.heap.size) :
    Calls Tryd.prog 50 #[.agg #[PtS ob], .agg #[.int .i64 3, .string s, .int .i64 N, .bool flag]] w fun e' w' => e' = .returned (.tuple #[.agg #[.string (runesBytes st.tx[i]), .int .i64 1], .bool true]) ∧ Sta B w' ob lb cb lim fold ⟨st.tx, i⟩ ∧ Frm B w w' := by
  have hcv := fun W : World => runes_run (P := Tryd.prog) W 9 66 21 s (by kernel_rfl) (by kernel_rfl) (by kernel_rfl) (by omega)
  rw [runesOf_asc has] at hcv
  have hli := ints_length s
  rw [hli] at hcv
  have hcap := fun W => grownCap_ge W s.size 0 21
  obtain ⟨wA, hwA⟩ : ∃ wA, wA = ((w.alloc (.cells #[PtS ob] 82)).alloc (.cells #[.int .i64 3, .string s, .int .i64 N, .bool flag] 50)).alloc (.cells #[.string ⟨#[]⟩, .int .i64 0] 56) := ⟨_, rfl⟩
  have hbA : Below w.heap.size w wA := hwA ▸ (((Below.refl _ _).alloc (Nat.le_refl _) _).alloc (by simp) _).alloc (by simp; omega) _
  have hzA : wA.heap.size = w.heap.size + 3 := by rw [hwA]; simp
  have r2 : Rec wA w.heap.size [PtS ob] 82 := hwA ▸ ((Rec.new w [PtS ob] 82).alloc _).alloc _
  have r3 : Rec wA (w.heap.size + 1) [.int .i64 3, .string s, .int .i64 N, .bool flag] 50 := hwA ▸ (Rec.at_ (b := w.heap.size + 1) (w.alloc (.cells #[PtS ob] 82)) [.int .i64 3, .string s, .int .i64 N, .bool flag] 50 (by simp)).alloc _
  have r4 : Rec wA (w.heap.size + 2) [.string ⟨#[]⟩, .int .i64 0] 56 := hwA ▸ Rec.at_ (b := w.heap.size + 2) ((w.alloc (.cells #[PtS ob] 82)).alloc (.cells #[.int .i64 3, .string s, .int .i64 N, .bool flag] 50)) [.string ⟨#[]⟩, .int .i64 0] 56 (by simp)
  have HA := Lib.hid (And.intro hbA (And.intro r2 (And.intro r3 r4)))
  have HST := Lib.hid (h.stays hbA)
  have hz1 := hbA.size
  clear h hbA r2 r3 r4
  go_enter Tryd.func50, Tryd.ntmps50
  go_wp2_with fail
  try rw [← hwA]
  rw [show w.heap.size + 1 + 1 + 1 = wA.heap.size by rw [hzA], show w.heap.size + 1 + 1 = w.heap.size + 2 from rfl]
  clear hwA
  have hcapA := hcap wA
  obtain ⟨cap, hcp⟩ : ∃ cap, cap = grownCap wA s.size 0 21 := ⟨_, rfl⟩
  rw [← hcp] at hcapA ⊢
  clear hcp hcap hcv
  obtain ⟨wB, hwB⟩ : ∃ wB, wB = (wA.alloc (.cells (runeCells (ints s) cap).toArray 21)).drew := ⟨_, rfl⟩
  have hbB : Below wA.heap.size wA wB := hwB ▸ ((Below.refl _ _).alloc (Nat.le_refl _) _).drew
  have HRB := Lib.hid (show RowV wB (.slice (some ⟨wA.heap.size, 0, none⟩) s.size cap) (ints s) from by
    have := RowV.runes (w := wB) (b := wA.heap.size) (cap := cap) (l := ints s) (hwB ▸ (Rec.new wA (runeCells (ints s) cap) 21).drew) (by omega) (by omega)
    rwa [hli] at this)
  have HSB := Lib.hid (HST.out.stays hbB)
  have HFB := Lib.hid ((Frm.of_below HA.out.1 hBw).trans (Frm.of_below hbB (by omega)))
  have HR4 := Lib.hid (HA.out.2.2.2.stays hbB)
  have HR2 := Lib.hid (HA.out.2.1.stays hbB)
  have hzB := hbB.size
  rw [← hwB]
  clear hwB hbB
  refine (hPrev_calls HSB.out i ha hi (by omega)).mono ?_
  rintro e' w5 ⟨g, rfl, h1, h2, h3⟩
  have HR := Lib.hid (And.intro h1 (And.intro h2 h3))
  clear h1 h2 h3
  have hconv := runes_V w5.drew _ _ (HR.out.1.stays ((Below.refl _ _).drew))
  have r5 := HR.out.2.2.one HR4.out (by decide) (by decide) (by decide) (by decide)
  have c0 := r5.cell 0 rfl
  have c1 := r5.cell 1 rfl
  have f0 := r5.free 0
  have f1 := r5.free 1
  have HR5 := Lib.hid r5
  clear r5
  obtain ⟨m, hm⟩ : ∃ m, m = (st.tx[i]).length := ⟨_, rfl⟩
  obtain ⟨S, hS⟩ : ∃ S, S = runesBytes st.tx[i] := ⟨_, rfl⟩
  rw [← hm, ← hS] at hconv
  rw [← hm]
  have HSS := Lib.hid hS
  have HRW := Lib.hid (fun W (hb : Rows21 w5 W) => hm ▸ hS ▸ runes_V W _ _ (HR.out.1.move hb))
  have hnil : ∀ W, (binOp .neq 66 (.slice (some ⟨g, 0, none⟩) m m) (.slice none 0 0)).run Tryd.prog W = .ok (.bool true) W := fun W => run_neq_slice_nil W 66 21 (some ⟨g, 0, none⟩) m m Tryd.underlying66
  clear hm hS
  go_wp2_with fail
  refine wp_region_noPanic ?_
  refine wp_region_held_drew (S := fun w' => (convert 66 9 (.slice (some ⟨g, 0, none⟩) m m)).run Tryd.prog w' = .ok (.string S) w') (by kernel_rfl) hconv (fun hHeld => ?_)
  refine wpAnyH_take (i := 0) (v := ?vz1_0) (by simp only [List.getElem?_toArray, List.getElem?_cons_succ, List.getElem?_cons_zero]; rfl) (by kernel_rfl) (by kernel_rfl) (by kernel_rfl) (fun _ _ _ h => h) (Or.inl ⟨by rfl, ?hz1_0⟩) (by assumption) ?_
  case hz1_0 => (intro w hSw; go_simp; try with_reducible rfl)
  try simp only [Act.put, List.setIfInBounds_toArray, List.set_cons_zero, List.set_cons_succ]
  refine wpAnyH_take (i := 1) (v := ?vz2_1) (by simp only [List.getElem?_toArray, List.getElem?_cons_succ, List.getElem?_cons_zero]; rfl) (by kernel_rfl) (by kernel_rfl) (by kernel_rfl) (fun _ _ _ h => h) (Or.inl ⟨by rfl, ?hz2_1⟩) (by assumption) ?_
  case hz2_1 => (intro w hSw; go_simp; try with_reducible rfl)
  try simp only [Act.put, List.setIfInBounds_toArray, List.set_cons_zero, List.set_cons_succ]
  refine wpAnyH_take (i := 2) (v := ?vz3_2) (by simp only [List.getElem?_toArray, List.getElem?_cons_succ, List.getElem?_cons_zero]; rfl) (by kernel_rfl) (by kernel_rfl) (by kernel_rfl) (fun _ _ _ h => h) (Or.inl ⟨by rfl, ?hz3_2⟩) (by assumption) ?_
  case hz3_2 => (intro w hSw; go_simp; try with_reducible rfl)
  try simp only [Act.put, List.setIfInBounds_toArray, List.set_cons_zero, List.set_cons_succ]
  refine wpAnyH_take (i := 3) (v := ?vz4_3) (by simp only [List.getElem?_toArray, List.getElem?_cons_succ, List.getElem?_cons_zero]; rfl) (by kernel_rfl) (by kernel_rfl) (by kernel_rfl) (fun _ _ _ h => h) (Or.inl ⟨by rfl, ?hz4_3⟩) (by assumption) ?_
  case hz4_3 => (intro w hSw; go_simp; try with_reducible rfl)
  try simp only [Act.put, List.setIfInBounds_toArray, List.set_cons_zero, List.set_cons_succ]
  refine wpAnyH_ready (rs := [4]) (by kernel_rfl) (by simp) ?_
  refine AllReadyH.cons (o := _) rfl (fun K hK => ?_) AllReadyH.nil
  go_simp
  refine (told_calls w5.drew).mono ?_
  rintro e' w6 ⟨rfl, hw⟩
  have hw := hw.symm
  subst hw
  refine hK.out _ _ hconv (fun hHeld2 => ?_)
  clear hK K hHeld
  try simp only [Act.put, List.setIfInBounds_toArray, List.set_cons_zero, List.set_cons_succ]
  refine wpAnyH_take (i := 5) (v := ?vz5_5) (by simp only [List.getElem?_toArray, List.getElem?_cons_succ, List.getElem?_cons_zero]; rfl) (by kernel_rfl) (by kernel_rfl) (by kernel_rfl) (fun _ _ _ h => h) (Or.inl ⟨by rfl, ?hz5_5⟩) (by assumption) ?_
  case hz5_5 => (intro w hSw; go_simp; try with_reducible rfl)
  try simp only [Act.put, List.setIfInBounds_toArray, List.set_cons_zero, List.set_cons_succ]
  refine wpAnyH_ready (rs := [6]) (by kernel_rfl) (by simp) ?_
  refine AllReadyH.cons (o := _) rfl (fun K hK => ?_) AllReadyH.nil
  go_simp
  have r7 := (HR5.out.set 0 (.string S)).set 1 (.int .i64 1)
  have q0 := r7.cell 0 rfl
  have q1 := r7.cell 1 rfl
  have HRS := Lib.hid ((Rows21.set w5 (w.heap.size + 2) 0 (.string S) HR5.out (by decide)).trans (Rows21.set _ (w.heap.size + 2) 1 (.int .i64 1) (HR5.out.set 0 (.string S)) (by decide)))
  refine hK.out _ _ (HRW.out _ HRS.out) (fun hHeld3 => ?_)
  clear hK K hHeld2
  try simp only [Act.put, List.setIfInBounds_toArray, List.set_cons_zero, List.set_cons_succ]
  refine wpAnyH_take (i := 7) (v := ?vz6_7) (by simp only [List.getElem?_toArray, List.getElem?_cons_succ, List.getElem?_cons_zero]; rfl) (by kernel_rfl) (by kernel_rfl) (by kernel_rfl) (fun _ _ _ h => h) (Or.inl ⟨by rfl, ?hz6_7⟩) (by assumption) ?_
  case hz6_7 => (intro w hSw; go_simp; try with_reducible rfl)
  try simp only [Act.put, List.setIfInBounds_toArray, List.set_cons_zero, List.set_cons_succ]
  refine wpAnyH_done (by kernel_rfl) ?_ _
  refine NoPanic.normal ?_
  go_wp2_with fail
  refine bodyPost_ret (v := .tuple #[.agg #[.string S, .int .i64 1], .bool true]) (by simp [results, Tryd.results50, go_sem, q0, q1]) rfl ?_
  exact ⟨by rw [← HSS.out], ((HR.out.2.1.set HR5.out (by decide) 0 _).set (HR5.out.set 0 _) (by decide) 1 _).stays ((Below.refl _ _).drew), (((HFB.out.trans HR.out.2.2).new (by omega) (by omega) 0 _).new (by omega) (by omega) 1 _).trans (Frm.of_below ((Below.refl _ _).drew) (by have := HR.out.2.2.1.size; simp; omega))⟩
set_option maxRecDepth 100000 in
set_option maxHeartbeats 16000000 in
theorem past_next (h : Sta B w ob lb cb lim fold st) (s : ByteArray) (N : Int) (flag : Bool) (has : Asc s) (hsz : s.size ≤ 100000) (i : Nat) (ha : st.at_ = i) (hi : i + 1 < st.tx.length) (hBw : B ≤ w.heap.size) :
    Calls Tryd.prog 50 #[.agg #[PtS ob], .agg #[.int .i64 4, .string s, .int .i64 N, .bool flag]] w fun e' w' => e' = .returned (.tuple #[.agg #[.string (runesBytes st.tx[i + 1]), .int .i64 1], .bool true]) ∧ Sta B w' ob lb cb lim fold ⟨st.tx, i + 1⟩ ∧ Frm B w w' := by
  have hcv := fun W : World => runes_run (P := Tryd.prog) W 9 66 21 s (by kernel_rfl) (by kernel_rfl) (by kernel_rfl) (by omega)
  rw [runesOf_asc has] at hcv
  have hli := ints_length s
  rw [hli] at hcv
  have hcap := fun W => grownCap_ge W s.size 0 21
  obtain ⟨wA, hwA⟩ : ∃ wA, wA = ((w.alloc (.cells #[PtS ob] 82)).alloc (.cells #[.int .i64 4, .string s, .int .i64 N, .bool flag] 50)).alloc (.cells #[.string ⟨#[]⟩, .int .i64 0] 56) := ⟨_, rfl⟩
  have hbA : Below w.heap.size w wA := hwA ▸ (((Below.refl _ _).alloc (Nat.le_refl _) _).alloc (by simp) _).alloc (by simp; omega) _
  have hzA : wA.heap.size = w.heap.size + 3 := by rw [hwA]; simp
  have r2 : Rec wA w.heap.size [PtS ob] 82 := hwA ▸ ((Rec.new w [PtS ob] 82).alloc _).alloc _
  have r3 : Rec wA (w.heap.size + 1) [.int .i64 4, .string s, .int .i64 N, .bool flag] 50 := hwA ▸ (Rec.at_ (b := w.heap.size + 1) (w.alloc (.cells #[PtS ob] 82)) [.int .i64 4, .string s, .int .i64 N, .bool flag] 50 (by simp)).alloc _
  have r4 : Rec wA (w.heap.size + 2) [.string ⟨#[]⟩, .int .i64 0] 56 := hwA ▸ Rec.at_ (b := w.heap.size + 2) ((w.alloc (.cells #[PtS ob] 82)).alloc (.cells #[.int .i64 4, .string s, .int .i64 N, .bool flag] 50)) [.string ⟨#[]⟩, .int .i64 0] 56 (by simp)
  have HA := Lib.hid (And.intro hbA (And.intro r2 (And.intro r3 r4)))
  have HST := Lib.hid (h.stays hbA)
  have hz1 := hbA.size
  clear h hbA r2 r3 r4
  go_enter Tryd.func50, Tryd.ntmps50
  go_wp2_with fail
  try rw [← hwA]
  rw [show w.heap.size + 1 + 1 + 1 = wA.heap.size by rw [hzA], show w.heap.size + 1 + 1 = w.heap.size + 2 from rfl]
  clear hwA
  have hcapA := hcap wA
  obtain ⟨cap, hcp⟩ : ∃ cap, cap = grownCap wA s.size 0 21 := ⟨_, rfl⟩
  rw [← hcp] at hcapA ⊢
  clear hcp hcap hcv
  obtain ⟨wB, hwB⟩ : ∃ wB, wB = (wA.alloc (.cells (runeCells (ints s) cap).toArray 21)).drew := ⟨_, rfl⟩
  have hbB : Below wA.heap.size wA wB := hwB ▸ ((Below.refl _ _).alloc (Nat.le_refl _) _).drew
  have HRB := Lib.hid (show RowV wB (.slice (some ⟨wA.heap.size, 0, none⟩) s.size cap) (ints s) from by
    have := RowV.runes (w := wB) (b := wA.heap.size) (cap := cap) (l := ints s) (hwB ▸ (Rec.new wA (runeCells (ints s) cap) 21).drew) (by omega) (by omega)
    rwa [hli] at this)
  have HSB := Lib.hid (HST.out.stays hbB)
  have HFB := Lib.hid ((Frm.of_below HA.out.1 hBw).trans (Frm.of_below hbB (by omega)))
  have HR4 := Lib.hid (HA.out.2.2.2.stays hbB)
  have HR2 := Lib.hid (HA.out.2.1.stays hbB)
  have hzB := hbB.size
  rw [← hwB]
  clear hwB hbB
  refine (hNext_calls HSB.out i ha hi (by omega)).mono ?_
  rintro e' w5 ⟨g, rfl, h1, h2, h3⟩
  have HR := Lib.hid (And.intro h1 (And.intro h2 h3))
  clear h1 h2 h3
  have hconv := runes_V w5.drew _ _ (HR.out.1.stays ((Below.refl _ _).drew))
  have r5 := HR.out.2.2.one HR4.out (by decide) (by decide) (by decide) (by decide)
  have c0 := r5.cell 0 rfl
  have c1 := r5.cell 1 rfl
  have f0 := r5.free 0
  have f1 := r5.free 1
  have HR5 := Lib.hid r5
  clear r5
  obtain ⟨m, hm⟩ : ∃ m, m = (st.tx[i + 1]).length := ⟨_, rfl⟩
  obtain ⟨S, hS⟩ : ∃ S, S = runesBytes st.tx[i + 1] := ⟨_, rfl⟩
  rw [← hm, ← hS] at hconv
  rw [← hm]
  have HSS := Lib.hid hS
  have HRW := Lib.hid (fun W (hb : Rows21 w5 W) => hm ▸ hS ▸ runes_V W _ _ (HR.out.1.move hb))
  have hnil : ∀ W, (binOp .neq 66 (.slice (some ⟨g, 0, none⟩) m m) (.slice none 0 0)).run Tryd.prog W = .ok (.bool true) W := fun W => run_neq_slice_nil W 66 21 (some ⟨g, 0, none⟩) m m Tryd.underlying66
  clear hm hS
  go_wp2_with fail
  refine wp_region_noPanic ?_
  refine wp_region_held_drew (S := fun w' => (convert 66 9 (.slice (some ⟨g, 0, none⟩) m m)).run Tryd.prog w' = .ok (.string S) w') (by kernel_rfl) hconv (fun hHeld => ?_)
  refine wpAnyH_take (i := 0) (v := ?vz7_0) (by simp only [List.getElem?_toArray, List.getElem?_cons_succ, List.getElem?_cons_zero]; rfl) (by kernel_rfl) (by kernel_rfl) (by kernel_rfl) (fun _ _ _ h => h) (Or.inl ⟨by rfl, ?hz7_0⟩) (by assumption) ?_
  case hz7_0 => (intro w hSw; go_simp; try with_reducible rfl)
  try simp only [Act.put, List.setIfInBounds_toArray, List.set_cons_zero, List.set_cons_succ]
  refine wpAnyH_take (i := 1) (v := ?vz8_1) (by simp only [List.getElem?_toArray, List.getElem?_cons_succ, List.getElem?_cons_zero]; rfl) (by kernel_rfl) (by kernel_rfl) (by kernel_rfl) (fun _ _ _ h => h) (Or.inl ⟨by rfl, ?hz8_1⟩) (by assumption) ?_
  case hz8_1 => (intro w hSw; go_simp; try with_reducible rfl)
  try simp only [Act.put, List.setIfInBounds_toArray, List.set_cons_zero, List.set_cons_succ]
  refine wpAnyH_take (i := 2) (v := ?vz9_2) (by simp only [List.getElem?_toArray, List.getElem?_cons_succ, List.getElem?_cons_zero]; rfl) (by kernel_rfl) (by kernel_rfl) (by kernel_rfl) (fun _ _ _ h => h) (Or.inl ⟨by rfl, ?hz9_2⟩) (by assumption) ?_
  case hz9_2 => (intro w hSw; go_simp; try with_reducible rfl)
  try simp only [Act.put, List.setIfInBounds_toArray, List.set_cons_zero, List.set_cons_succ]
  refine wpAnyH_ready (rs := [3]) (by kernel_rfl) (by simp) ?_
  refine AllReadyH.cons (o := _) rfl (fun K hK => ?_) AllReadyH.nil
  go_simp
  refine (told_calls w5.drew).mono ?_
  rintro e' w6 ⟨rfl, hw⟩
  have hw := hw.symm
  subst hw
  refine hK.out _ _ hconv (fun hHeld2 => ?_)
  clear hK K hHeld
  try simp only [Act.put, List.setIfInBounds_toArray, List.set_cons_zero, List.set_cons_succ]
  refine wpAnyH_take (i := 4) (v := ?vz10_4) (by simp only [List.getElem?_toArray, List.getElem?_cons_succ, List.getElem?_cons_zero]; rfl) (by kernel_rfl) (by kernel_rfl) (by kernel_rfl) (fun _ _ _ h => h) (Or.inl ⟨by rfl, ?hz10_4⟩) (by assumption) ?_
  case hz10_4 => (intro w hSw; go_simp; try with_reducible rfl)
  try simp only [Act.put, List.setIfInBounds_toArray, List.set_cons_zero, List.set_cons_succ]
  refine wpAnyH_ready (rs := [5]) (by kernel_rfl) (by simp) ?_
  refine AllReadyH.cons (o := _) rfl (fun K hK => ?_) AllReadyH.nil
  go_simp
  have r7 := (HR5.out.set 0 (.string S)).set 1 (.int .i64 1)
  have q0 := r7.cell 0 rfl
  have q1 := r7.cell 1 rfl
  have HRS := Lib.hid ((Rows21.set w5 (w.heap.size + 2) 0 (.string S) HR5.out (by decide)).trans (Rows21.set _ (w.heap.size + 2) 1 (.int .i64 1) (HR5.out.set 0 (.string S)) (by decide)))
  refine hK.out _ _ (HRW.out _ HRS.out) (fun hHeld3 => ?_)
  clear hK K hHeld2
  try simp only [Act.put, List.setIfInBounds_toArray, List.set_cons_zero, List.set_cons_succ]
  refine wpAnyH_take (i := 6) (v := ?vz11_6) (by simp only [List.getElem?_toArray, List.getElem?_cons_succ, List.getElem?_cons_zero]; rfl) (by kernel_rfl) (by kernel_rfl) (by kernel_rfl) (fun _ _ _ h => h) (Or.inl ⟨by rfl, ?hz11_6⟩) (by assumption) ?_
  case hz11_6 => (intro w hSw; go_simp; try with_reducible rfl)
  try simp only [Act.put, List.setIfInBounds_toArray, List.set_cons_zero, List.set_cons_succ]
  refine wpAnyH_done (by kernel_rfl) ?_ _
  refine NoPanic.normal ?_
  go_wp2_with fail
  refine bodyPost_ret (v := .tuple #[.agg #[.string S, .int .i64 1], .bool true]) (by simp [results, Tryd.results50, go_sem, q0, q1]) rfl ?_
  exact ⟨by rw [← HSS.out], ((HR.out.2.1.set HR5.out (by decide) 0 _).set (HR5.out.set 0 _) (by decide) 1 _).stays ((Below.refl _ _).drew), (((HFB.out.trans HR.out.2.2).new (by omega) (by omega) 0 _).new (by omega) (by omega) 1 _).trans (Frm.of_below ((Below.refl _ _).drew) (by have := HR.out.2.2.1.size; simp; omega))⟩
end
end Go.Proofs.YtdinikcfhpfojaaDoor.H
