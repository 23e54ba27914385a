/- A history of texts (readline's opHistory): Prev, Next; no condition but bounds. -/
import Derived.Test.YtdinikcfhpfojaaDoorQHHsD
namespace Go.Proofs.YtdinikcfhpfojaaDoor.H
open Go.RowKit Go.Proofs.YtdinikcfhpfojaaDoorW.PrintWords Go.Proofs.YtdinikcfhpfojaaDoorW.PrintLast Go.Proofs.YtdinikcfhpfojaaDoor.R
set_option linter.unusedVariables false
set_option linter.unusedSimpArgs false
attribute [local go_sem ↓] Go.wp_at_zero Go.wp_at_succ
section
variable {B ob lb cb n : Nat} {lim ver : Int} {fold : Bool} {e t : Nat → Nat} {src : Nat → List Int} {vr : Nat → Int} {cur : Value} {w w1 : World}
set_option maxRecDepth 100000 in
set_option maxHeartbeats 4000000 in
theorem Show_calls (ob tb : Nat) (cbv lbv cur v tv : Value) (ver vi : Int) (w : World) (h1 : Rec w ob [cbv, lbv, .int .i64 ver, cur, .bool true] 127) (h2 : Rec w tb [v, .int .i64 vi, tv] 161) (hne : vi ≠ ver) :
    Calls Tryd.prog 172 #[PtS ob, .iface 162 (PtS tb)] w fun e w' => e = .returned v ∧ Below w.heap.size w w' := by
  have c2 := h1.cell 2 rfl
  have d0 := h2.cell 0 rfl
  have d1 := h2.cell 1 rfl
  have hass := assert_it tb
  have q1 : (vi == ver) = false := beq_eq_false_iff_ne.2 hne
  clear h1 h2
  go_enter Tryd.func172, Tryd.ntmps172
  go_wp2_with fail
  go_quiet (fail)
  have HNQ := Lib.hid (show Below w.heap.size w (w.drewN nq) from pw_below_drewN (Below.refl _ _) _)
  go_wp2_with fail
  go_ret
  exact ⟨rfl, HNQ.out⟩
set_option maxRecDepth 100000 in
set_option maxHeartbeats 16000000 in
theorem OpPrev_calls (i : Nat) (h : HS B w ob lb cb lim fold n e t src vr (PtS (e (i + 1))) ver) (hi : i + 1 < n) (hvr : vr i ≠ ver) (hsl : (src i).length ≤ 1000000000) (hBw : B ≤ w.heap.size) :
    Calls Tryd.prog 130 #[PtS ob] w fun e' w' => ∃ g, e' = .returned (.slice (some ⟨g, 0, none⟩) (src i).length (src i).length) ∧ RowV w' (.slice (some ⟨g, 0, none⟩) (src i).length (src i).length) (src i) ∧ HS B w' ob lb cb lim fold n e t src vr (PtS (e i)) ver ∧ Frm B w w' := by
  have HH := Lib.hid h
  have k3 := h.oh.cell 3 rfl
  have HL := Lib.hid h.ls
  have HEi := Lib.hid (h.el i (by omega)).1
  have HEj := Lib.hid (h.el (i + 1) (by omega)).1
  obtain ⟨v0, tv0, g1, g2, g3⟩ := h.it i (by omega)
  have HI := Lib.hid (And.intro g1 (And.intro g2 g3))
  have z3 := h.oh.free 3
  clear h g1 g2 g3
  go_enter Tryd.func130, Tryd.ntmps130
  go_wp2_with fail
  refine (Prev_calls (e (i + 1)) _ (e i) lb _ w (by have := HEj.out; rw [if_neg (show ¬ i + 1 = 0 by omega)] at this; exact this) (HEi.out.ne HL.out (by decide)) HEi.out HL.out).mono ?_
  rintro e' w2 ⟨rfl, hw⟩
  have hw := hw.symm
  subst hw
  go_wp2_with fail
  have H1 := Lib.hid (HH.out.setOh 3 (PtS (e i)) (PtS (e i)) ver rfl)
  have HF1 := Lib.hid (Frm.set HH.out.oh (.inl rfl) HH.out.low.1 3 (PtS (e i)))
  have HI1 := Lib.hid (And.intro (HI.out.1.other (a := ⟨ob, 3, none⟩) (HI.out.1.ne HH.out.oh (by decide)) (PtS (e i))) (HI.out.2.1.move (Rows21.set w ob 3 (PtS (e i)) HH.out.oh (by decide))))
  have e3 := (H1.out.el i (by omega)).1.cell 3 rfl
  obtain ⟨w1, hw1⟩ : ∃ w1, w1 = w.setCell ⟨ob, 3, none⟩ (PtS (e i)) := ⟨_, rfl⟩
  rw [← hw1] at H1 HF1 HI1 e3 ⊢
  have hz1 : w1.heap.size = w.heap.size := by rw [hw1]; simp
  clear hw1
  refine wp_region_noPanic ?_
  refine wp_region_held_drew (S := fun w' => w'.cell? ⟨e i, 3, none⟩ = some (.iface 162 (PtS (t i)))) (by kernel_rfl) e3 (fun hHeld => ?_)
  refine wpAnyH_take (i := 0) (v := ?vz1_0) (by simp only [List.getElem?_toArray, List.getElem?_cons_succ, List.getElem?_cons_zero]; rfl) (by kernel_rfl) (by kernel_rfl) (by kernel_rfl) (fun _ _ _ h => h) (Or.inl ⟨by rfl, ?hz1_0⟩) (by assumption) ?_
  case hz1_0 => (intro w hSw; go_simp; try with_reducible rfl)
  try simp only [Act.put, List.setIfInBounds_toArray, List.set_cons_zero, List.set_cons_succ]
  refine wpAnyH_take (i := 1) (v := ?vz2_1) (by simp only [List.getElem?_toArray, List.getElem?_cons_succ, List.getElem?_cons_zero]; rfl) (by kernel_rfl) (by kernel_rfl) (by kernel_rfl) (fun _ _ _ h => h) (Or.inl ⟨by rfl, ?hz2_1⟩) (by assumption) ?_
  case hz2_1 => (intro w hSw; go_simp; try with_reducible rfl)
  try simp only [Act.put, List.setIfInBounds_toArray, List.set_cons_zero, List.set_cons_succ]
  refine wpAnyH_take (i := 2) (v := ?vz3_2) (by simp only [List.getElem?_toArray, List.getElem?_cons_succ, List.getElem?_cons_zero]; rfl) (by kernel_rfl) (by kernel_rfl) (by kernel_rfl) (fun _ _ _ h => h) (Or.inl ⟨by rfl, ?hz3_2⟩) (by assumption) ?_
  case hz3_2 => (intro w hSw; go_simp; try with_reducible rfl)
  try simp only [Act.put, List.setIfInBounds_toArray, List.set_cons_zero, List.set_cons_succ]
  refine wpAnyH_take (i := 3) (v := ?vz4_3) (by simp only [List.getElem?_toArray, List.getElem?_cons_succ, List.getElem?_cons_zero]; rfl) (by kernel_rfl) (by kernel_rfl) (by kernel_rfl) (fun _ _ _ h => h) (Or.inl ⟨by rfl, ?hz4_3⟩) (by assumption) ?_
  case hz4_3 => (intro w hSw; go_simp; try with_reducible rfl)
  try simp only [Act.put, List.setIfInBounds_toArray, List.set_cons_zero, List.set_cons_succ]
  refine wpAnyH_take (i := 4) (v := ?vz5_4) (by simp only [List.getElem?_toArray, List.getElem?_cons_succ, List.getElem?_cons_zero]; rfl) (by kernel_rfl) (by kernel_rfl) (by kernel_rfl) (fun _ _ _ h => h) (Or.inl ⟨by rfl, ?hz5_4⟩) (by assumption) ?_
  case hz5_4 => (intro w hSw; go_simp; try with_reducible rfl)
  try simp only [Act.put, List.setIfInBounds_toArray, List.set_cons_zero, List.set_cons_succ]
  refine wpAnyH_take (i := 5) (v := ?vz6_5) (by simp only [List.getElem?_toArray, List.getElem?_cons_succ, List.getElem?_cons_zero]; rfl) (by kernel_rfl) (by kernel_rfl) (by kernel_rfl) (fun _ _ _ h => h) (Or.inl ⟨by rfl, ?hz6_5⟩) (by assumption) ?_
  case hz6_5 => (intro w hSw; go_simp; try with_reducible rfl)
  try simp only [Act.put, List.setIfInBounds_toArray, List.set_cons_zero, List.set_cons_succ]
  refine wpAnyH_ready (rs := [6]) (by kernel_rfl) (by simp) ?_
  refine AllReadyH.cons (o := _) rfl (fun K hK => ?_) AllReadyH.nil
  go_simp
  refine (Show_calls ob (t i) (PtS cb) (PtS lb) (PtS (e i)) v0 tv0 ver (vr i) w1.drew H1.out.oh HI1.out.1 hvr).mono ?_
  rintro e' w2 ⟨rfl, hb⟩
  have HB2 := Lib.hid (show Below w1.heap.size w1 w2 from ⟨hb.os, hb.tape, hb.output, hb.size, hb.block⟩)
  clear hb
  have H2 := Lib.hid (H1.out.stays HB2.out)
  refine hK.out _ _ ((H2.out.el i (by omega)).1.cell 3 rfl) (fun hHeld2 => ?_)
  clear hK K hHeld
  try simp only [Act.put, List.setIfInBounds_toArray, List.set_cons_zero, List.set_cons_succ]
  refine wpAnyH_ready (rs := [7]) (by kernel_rfl) (by simp) ?_
  refine AllReadyH.cons (o := _) rfl (fun K hK => ?_) AllReadyH.nil
  go_simp
  refine (Copy_calls v0 (src i) w2 (HI1.out.2.stays HB2.out) hsl).mono ?_
  rintro e' w3 ⟨g, rfl, hR, hg, hb⟩
  have HR := Lib.hid (And.intro hR (And.intro hg hb))
  clear hR hg hb
  have H3 := Lib.hid (H2.out.stays HR.out.2.2)
  refine hK.out _ _ ((H3.out.el i (by omega)).1.cell 3 rfl) (fun hHeld3 => ?_)
  clear hK K hHeld2
  try simp only [Act.put, List.setIfInBounds_toArray, List.set_cons_zero, List.set_cons_succ]
  refine wpAnyH_take (i := 8) (v := ?vz7_8) (by simp only [List.getElem?_toArray, List.getElem?_cons_succ, List.getElem?_cons_zero]; rfl) (by kernel_rfl) (by kernel_rfl) (by kernel_rfl) (fun _ _ _ h => h) (Or.inl ⟨by rfl, ?hz7_8⟩) (by assumption) ?_
  case hz7_8 => (intro w hSw; go_simp; try with_reducible rfl)
  try simp only [Act.put, List.setIfInBounds_toArray, List.set_cons_zero, List.set_cons_succ]
  refine wpAnyH_done (by kernel_rfl) ?_ _
  refine NoPanic.normal ?_
  go_wp2_with fail
  go_ret
  exact ⟨g, rfl, HR.out.1, H3.out, (HF1.out.trans (Frm.of_below HB2.out (by omega))).trans (Frm.of_below HR.out.2.2 (by have := HB2.out.size; omega))⟩
set_option maxRecDepth 100000 in
set_option maxHeartbeats 16000000 in
theorem OpNext_calls (i : Nat) (h : HS B w ob lb cb lim fold n e t src vr (PtS (e i)) ver) (hi : i + 1 < n) (hvr : vr (i + 1) ≠ ver) (hsl : (src (i + 1)).length ≤ 1000000000) (hBw : B ≤ w.heap.size) :
    Calls Tryd.prog 131 #[PtS ob] w fun e' w' => ∃ g, e' = .returned (.tuple #[.slice (some ⟨g, 0, none⟩) (src (i + 1)).length (src (i + 1)).length, .bool true]) ∧ RowV w' (.slice (some ⟨g, 0, none⟩) (src (i + 1)).length (src (i + 1)).length) (src (i + 1)) ∧ HS B w' ob lb cb lim fold n e t src vr (PtS (e (i + 1))) ver ∧ Frm B w w' := by
  have HH := Lib.hid h
  have k3 := h.oh.cell 3 rfl
  have HL := Lib.hid h.ls
  have HEi := Lib.hid (h.el i (by omega)).1
  have HEj := Lib.hid (h.el (i + 1) (by omega)).1
  obtain ⟨v0, tv0, g1, g2, g3⟩ := h.it (i + 1) (by omega)
  have HI := Lib.hid (And.intro g1 (And.intro g2 g3))
  have z3 := h.oh.free 3
  clear h g1 g2 g3
  go_enter Tryd.func131, Tryd.ntmps131
  go_wp2_with fail
  refine (Next_calls (e i) (e (i + 1)) _ lb _ w (by have := HEi.out; rw [if_pos hi] at this; exact this) (HEj.out.ne HL.out (by decide)) HEj.out HL.out).mono ?_
  rintro e' w2 ⟨rfl, hw⟩
  have hw := hw.symm
  subst hw
  go_wp2_with fail
  have H1 := Lib.hid (HH.out.setOh 3 (PtS (e (i + 1))) (PtS (e (i + 1))) ver rfl)
  have HF1 := Lib.hid (Frm.set HH.out.oh (.inl rfl) HH.out.low.1 3 (PtS (e (i + 1))))
  have HI1 := Lib.hid (And.intro (HI.out.1.other (a := ⟨ob, 3, none⟩) (HI.out.1.ne HH.out.oh (by decide)) (PtS (e (i + 1)))) (HI.out.2.1.move (Rows21.set w ob 3 (PtS (e (i + 1))) HH.out.oh (by decide))))
  have e3 := (H1.out.el (i + 1) (by omega)).1.cell 3 rfl
  obtain ⟨w1, hw1⟩ : ∃ w1, w1 = w.setCell ⟨ob, 3, none⟩ (PtS (e (i + 1))) := ⟨_, rfl⟩
  rw [← hw1] at H1 HF1 HI1 e3 ⊢
  have hz1 : w1.heap.size = w.heap.size := by rw [hw1]; simp
  clear hw1
  refine wp_region_noPanic ?_
  refine wp_region_held_drew (S := fun w' => w'.cell? ⟨e (i + 1), 3, none⟩ = some (.iface 162 (PtS (t (i + 1))))) (by kernel_rfl) e3 (fun hHeld => ?_)
  refine wpAnyH_take (i := 0) (v := ?vz8_0) (by simp only [List.getElem?_toArray, List.getElem?_cons_succ, List.getElem?_cons_zero]; rfl) (by kernel_rfl) (by kernel_rfl) (by kernel_rfl) (fun _ _ _ h => h) (Or.inl ⟨by rfl, ?hz8_0⟩) (by assumption) ?_
  case hz8_0 => (intro w hSw; go_simp; try with_reducible rfl)
  try simp only [Act.put, List.setIfInBounds_toArray, List.set_cons_zero, List.set_cons_succ]
  refine wpAnyH_take (i := 1) (v := ?vz9_1) (by simp only [List.getElem?_toArray, List.getElem?_cons_succ, List.getElem?_cons_zero]; rfl) (by kernel_rfl) (by kernel_rfl) (by kernel_rfl) (fun _ _ _ h => h) (Or.inl ⟨by rfl, ?hz9_1⟩) (by assumption) ?_
  case hz9_1 => (intro w hSw; go_simp; try with_reducible rfl)
  try simp only [Act.put, List.setIfInBounds_toArray, List.set_cons_zero, List.set_cons_succ]
  refine wpAnyH_take (i := 2) (v := ?vz10_2) (by simp only [List.getElem?_toArray, List.getElem?_cons_succ, List.getElem?_cons_zero]; rfl) (by kernel_rfl) (by kernel_rfl) (by kernel_rfl) (fun _ _ _ h => h) (Or.inl ⟨by rfl, ?hz10_2⟩) (by assumption) ?_
  case hz10_2 => (intro w hSw; go_simp; try with_reducible rfl)
  try simp only [Act.put, List.setIfInBounds_toArray, List.set_cons_zero, List.set_cons_succ]
  refine wpAnyH_take (i := 3) (v := ?vz11_3) (by simp only [List.getElem?_toArray, List.getElem?_cons_succ, List.getElem?_cons_zero]; rfl) (by kernel_rfl) (by kernel_rfl) (by kernel_rfl) (fun _ _ _ h => h) (Or.inl ⟨by rfl, ?hz11_3⟩) (by assumption) ?_
  case hz11_3 => (intro w hSw; go_simp; try with_reducible rfl)
  try simp only [Act.put, List.setIfInBounds_toArray, List.set_cons_zero, List.set_cons_succ]
  refine wpAnyH_take (i := 4) (v := ?vz12_4) (by simp only [List.getElem?_toArray, List.getElem?_cons_succ, List.getElem?_cons_zero]; rfl) (by kernel_rfl) (by kernel_rfl) (by kernel_rfl) (fun _ _ _ h => h) (Or.inl ⟨by rfl, ?hz12_4⟩) (by assumption) ?_
  case hz12_4 => (intro w hSw; go_simp; try with_reducible rfl)
  try simp only [Act.put, List.setIfInBounds_toArray, List.set_cons_zero, List.set_cons_succ]
  refine wpAnyH_take (i := 5) (v := ?vz13_5) (by simp only [List.getElem?_toArray, List.getElem?_cons_succ, List.getElem?_cons_zero]; rfl) (by kernel_rfl) (by kernel_rfl) (by kernel_rfl) (fun _ _ _ h => h) (Or.inl ⟨by rfl, ?hz13_5⟩) (by assumption) ?_
  case hz13_5 => (intro w hSw; go_simp; try with_reducible rfl)
  try simp only [Act.put, List.setIfInBounds_toArray, List.set_cons_zero, List.set_cons_succ]
  refine wpAnyH_ready (rs := [6]) (by kernel_rfl) (by simp) ?_
  refine AllReadyH.cons (o := _) rfl (fun K hK => ?_) AllReadyH.nil
  go_simp
  refine (Show_calls ob (t (i + 1)) (PtS cb) (PtS lb) (PtS (e (i + 1))) v0 tv0 ver (vr (i + 1)) w1.drew H1.out.oh HI1.out.1 hvr).mono ?_
  rintro e' w2 ⟨rfl, hb⟩
  have HB2 := Lib.hid (show Below w1.heap.size w1 w2 from ⟨hb.os, hb.tape, hb.output, hb.size, hb.block⟩)
  clear hb
  have H2 := Lib.hid (H1.out.stays HB2.out)
  refine hK.out _ _ ((H2.out.el (i + 1) (by omega)).1.cell 3 rfl) (fun hHeld2 => ?_)
  clear hK K hHeld
  try simp only [Act.put, List.setIfInBounds_toArray, List.set_cons_zero, List.set_cons_succ]
  refine wpAnyH_ready (rs := [7]) (by kernel_rfl) (by simp) ?_
  refine AllReadyH.cons (o := _) rfl (fun K hK => ?_) AllReadyH.nil
  go_simp
  refine (Copy_calls v0 (src (i + 1)) w2 (HI1.out.2.stays HB2.out) hsl).mono ?_
  rintro e' w3 ⟨g, rfl, hR, hg, hb⟩
  have HR := Lib.hid (And.intro hR (And.intro hg hb))
  clear hR hg hb
  have H3 := Lib.hid (H2.out.stays HR.out.2.2)
  refine hK.out _ _ ((H3.out.el (i + 1) (by omega)).1.cell 3 rfl) (fun hHeld3 => ?_)
  clear hK K hHeld2
  try simp only [Act.put, List.setIfInBounds_toArray, List.set_cons_zero, List.set_cons_succ]
  refine wpAnyH_take (i := 8) (v := ?vz14_8) (by simp only [List.getElem?_toArray, List.getElem?_cons_succ, List.getElem?_cons_zero]; rfl) (by kernel_rfl) (by kernel_rfl) (by kernel_rfl) (fun _ _ _ h => h) (Or.inl ⟨by rfl, ?hz14_8⟩) (by assumption) ?_
  case hz14_8 => (intro w hSw; go_simp; try with_reducible rfl)
  try simp only [Act.put, List.setIfInBounds_toArray, List.set_cons_zero, List.set_cons_succ]
  refine wpAnyH_take (i := 9) (v := ?vz15_9) (by simp only [List.getElem?_toArray, List.getElem?_cons_succ, List.getElem?_cons_zero]; rfl) (by kernel_rfl) (by kernel_rfl) (by kernel_rfl) (fun _ _ _ h => h) (Or.inl ⟨by rfl, ?hz15_9⟩) (by assumption) ?_
  case hz15_9 => (intro w hSw; go_simp; try with_reducible rfl)
  try simp only [Act.put, List.setIfInBounds_toArray, List.set_cons_zero, List.set_cons_succ]
  refine wpAnyH_done (by kernel_rfl) ?_ _
  refine NoPanic.normal ?_
  go_wp2_with fail
  refine bodyPost_ret (results_tmp2 rfl _ _ _) rfl ?_
  exact ⟨g, rfl, HR.out.1, H3.out, (HF1.out.trans (Frm.of_below HB2.out (by omega))).trans (Frm.of_below HR.out.2.2 (by have := HB2.out.size; omega))⟩
end
end Go.Proofs.YtdinikcfhpfojaaDoor.H
