/- A history of texts (readline's opHistory): Push, Update, New; no condition but bounds. -/
import Derived.Test.YtdinikcfhpfojaaDoorQHHsC
import Derived.StillTailTactics
namespace Go.Proofs.YtdinikcfhpfojaaDoor.H
open Go.RowKit Go.Proofs.YtdinikcfhpfojaaDoorW.PrintWords Go.Proofs.YtdinikcfhpfojaaDoorW.PrintLast Go.Proofs.YtdinikcfhpfojaaDoor.R
set_option linter.unusedVariables false
set_option linter.unusedSimpArgs false
attribute [local go_sem ↓] Go.wp_at_zero Go.wp_at_succ
theorem RowV.nil (w : World) : RowV w (.slice none 0 0) [] := ⟨none, 0, rfl, Nat.le_refl _, Kd.C_of_reads (enc := Value.int .i32) (d := (0 : Int)) ⟨rfl, by simp, fun h => absurd h (by simp)⟩, fun h => absurd h (by simp)⟩
theorem RowV.stays {w w1 : World} {v : Value} {l : List Int} (h : RowV w v l) (hb : Below w.heap.size w w1) : RowV w1 v l := h.move (Rows21.of_below hb)
section
variable {B ob lb cb n : Nat} {lim ver : Int} {fold : Bool} {e t : Nat → Nat} {src : Nat → List Int} {vr : Nat → Int} {cur : Value} {w w1 : World}
theorem HS.tlt (h : HS B w ob lb cb lim fold n e t src vr cur ver) {i : Nat} (hi : i < n) : t i < w.heap.size := by
  obtain ⟨v, tv, h1, _⟩ := h.it i hi
  exact h1.lt
/-- The same value is stored into an element. -/
theorem HS.setEl (h : HS B w ob lb cb lim fold n e t src vr cur ver) (k : Nat) (hk : k < n) (i : Nat) (u : Value) (hs : ∀ nx pv, (elC nx pv lb (t k)).set i u = elC nx pv lb (t k)) : HS B (w.setCell ⟨e k, i, none⟩ u) ob lb cb lim fold n e t src vr cur ver := by
  have hE := (h.el k hk).1
  refine ⟨h.oh.other (a := ⟨e k, i, none⟩) (h.oh.ne hE (by decide)) u, h.cf.other (a := ⟨e k, i, none⟩) (h.cf.ne hE (by decide)) u, h.ls.other (a := ⟨e k, i, none⟩) (h.ls.ne hE (by decide)) u, fun j hj => ⟨?_, (h.el j hj).2⟩, fun j hj => ?_, h.inje, h.injt, h.low⟩
  · by_cases hjk : j = k
    · subst hjk
      have := hE.set i u
      rwa [hs] at this
    · exact (h.el j hj).1.other (a := ⟨e k, i, none⟩) (fun e0 => hjk (h.inje j k hj hk e0)) u
  · obtain ⟨v, tv, h1, h2, h3⟩ := h.it j hj
    exact ⟨v, tv, h1.other (a := ⟨e k, i, none⟩) (h1.ne hE (by decide)) u, h2.move (Rows21.set w (e k) i u hE (by decide)), h3⟩
set_option maxHeartbeats 4000000 in
theorem Push_calls (h : HS B w ob lb cb lim fold n e t src vr cur ver) (v : Value) (l : List Int) (hv : RowV w v l) (hl : l.length ≤ 1000000000) (hn : n ≤ 1000000) (hBw : B ≤ w.heap.size) :
    Calls Tryd.prog 170 #[PtS ob, v] w fun e' w' => e' = .returned (.tuple #[]) ∧ ∃ eb tb, HS B w' ob lb cb lim fold (n + 1) (upd e n eb) (upd t n tb) (upd src n l) (upd vr n 0) (PtS eb) ver ∧ Frm B w w' := by
  have HC := Lib.hid (Copy_calls v l w hv hl)
  have HH := Lib.hid h
  clear h hv
  go_enter Tryd.func170, Tryd.ntmps170
  go_wp2_with fail
  refine HC.out.mono ?_
  rintro e' w1 ⟨g, rfl, hR, hg, hb⟩
  have HR := Lib.hid (And.intro hR (And.intro hg hb))
  clear hR hg hb
  have H1 := Lib.hid (HH.out.stays HR.out.2.2)
  have k1 := H1.out.oh.cell 1 rfl
  have hbA : Below w1.heap.size w1 (w1.alloc (.cells #[.slice (some ⟨g, 0, none⟩) l.length l.length, .int .i64 0, .slice none 0 0] 161)) := (Below.refl _ _).alloc (Nat.le_refl _) _
  have HP := Lib.hid (PushBack_calls (H1.out.stays hbA) w1.heap.size (.slice (some ⟨g, 0, none⟩) l.length l.length) (.slice none 0 0) l (Rec.new w1 [.slice (some ⟨g, 0, none⟩) l.length l.length, .int .i64 0, .slice none 0 0] 161) (HR.out.1.stays hbA) (by have := HR.out.2.2.size; omega) (fun i hi => by have := H1.out.tlt hi; omega) (by have := HR.out.2.2.size; simp; omega) hn)
  have HF := Lib.hid ((Frm.of_below HR.out.2.2 hBw).trans (Frm.of_below hbA (by have := HR.out.2.2.size; omega)))
  clear hbA
  go_wp2_with fail
  refine HP.out.mono ?_
  rintro e' w3 ⟨rfl, h1, h2⟩
  have HQ := Lib.hid (And.intro h1 h2)
  clear h1 h2
  have k3 := HQ.out.1.oh.cell 3 rfl
  have z3 := HQ.out.1.oh.free 3
  go_wp2_with fail
  go_end0
  exact ⟨rfl, _, _, HQ.out.1.setOh 3 _ _ _ (by simp), (HF.out.trans HQ.out.2).trans (Frm.set HQ.out.1.oh (.inl rfl) HQ.out.1.low.1 3 _)⟩
theorem assert_it (tb : Nat) (W : World) : (Instr.typeAssert (.iface 162 (PtS tb)) 20 162 false).run Tryd.prog W = .ok (PtS tb) W := by kernel_rfl
set_option maxHeartbeats 4000000 in
/-- The first text is stored. -/
theorem Update_first (h : HS B w ob lb cb lim fold 0 e t src vr (.pointer none) ver) (v : Value) (l : List Int) (hv : RowV w v l) (hl : l.length ≤ 1000000000) (hlim : 1 ≤ lim) (hBw : B ≤ w.heap.size) :
    Calls Tryd.prog 129 #[PtS ob, v, .bool true] w fun e' w' => e' = .returned .nilIface ∧ ∃ eb tb, HS B w' ob lb cb lim fold 1 (upd e 0 eb) (upd t 0 tb) (upd src 0 l) (upd vr 0 0) (PtS eb) ver ∧ Frm B w w' := by
  have HC := Lib.hid (Copy_calls v l w hv hl)
  have HH := Lib.hid h
  clear h hv
  go_enter Tryd.func129, Tryd.ntmps129
  go_wp2_with fail
  refine HC.out.mono ?_
  rintro e' w1 ⟨g, rfl, hR, hg, hb⟩
  have HR := Lib.hid (And.intro hR (And.intro hg hb))
  clear hR hg hb
  have H1 := Lib.hid (HH.out.stays HR.out.2.2)
  have k3 := H1.out.oh.cell 3 rfl
  have HP := Lib.hid (Push_calls H1.out (.slice (some ⟨g, 0, none⟩) l.length l.length) l HR.out.1 hl (by omega) (by have := HR.out.2.2.size; omega))
  go_wp2_with fail
  refine HP.out.mono ?_
  rintro e' w2 ⟨rfl, eb, tb, h1, h2⟩
  have HQ := Lib.hid (And.intro h1 h2)
  clear h1 h2
  go_wp2_with fail
  refine (Compact_calls _ _ _ _ _ 1 _ _ _ _ _ HQ.out.1.oh HQ.out.1.cf HQ.out.1.ls (by omega)).mono ?_
  rintro e' w3 ⟨rfl, hb3⟩
  have HB3 := Lib.hid hb3
  clear hb3
  go_wp2_with fail
  go_ret
  exact ⟨rfl, eb, tb, HQ.out.1.stays HB3.out, ((Frm.of_below HR.out.2.2 hBw).trans HQ.out.2).trans (Frm.of_below HB3.out (by have := HQ.out.2.1.size; have := HR.out.2.2.size; omega))⟩
set_option maxHeartbeats 8000000 in
/-- A further text is stored at the end. -/
theorem Update_last (h : HS B w ob lb cb lim fold (n + 1) e t src vr (PtS (e n)) ver) (v : Value) (l : List Int) (hv : RowV w v l) (hl : l.length ≤ 1000000000) (hlim : (n : Int) + 1 ≤ lim) (hBw : B ≤ w.heap.size) :
    Calls Tryd.prog 129 #[PtS ob, v, .bool true] w fun e' w' => e' = .returned .nilIface ∧ HS B w' ob lb cb lim fold (n + 1) e t (upd src n l) (upd vr n ver) (PtS (e n)) ver ∧ Frm B w w' := by
  have HC := Lib.hid (Copy_calls v l w hv hl)
  have HH := Lib.hid h
  clear h hv
  have hass := assert_it (t n)
  go_enter Tryd.func129, Tryd.ntmps129
  go_wp2_with fail
  refine HC.out.mono ?_
  rintro e' w1 ⟨g, rfl, hR, hg, hb⟩
  have HR := Lib.hid (And.intro hR (And.intro hg hb))
  clear hR hg hb
  have H1 := Lib.hid (HH.out.stays HR.out.2.2)
  have k3 := H1.out.oh.cell 3 rfl
  have k2 := H1.out.oh.cell 2 rfl
  have hE := (H1.out.el n (by omega)).1
  have e3 := hE.cell 3 rfl
  have y3 := hE.free 3
  obtain ⟨v0, tv0, g1, g2, g3⟩ := H1.out.it n (by omega)
  have i0 := g1.cell 0 rfl
  have i1 := g1.cell 1 rfl
  have x0 := g1.free 0
  have x1 := g1.free 1
  have ne1 := g1.ne H1.out.oh (by decide)
  have ne2 := g1.ne hE (by decide)
  have ne3 := hE.ne H1.out.oh (by decide)
  have HI := Lib.hid (And.intro g1 (And.intro g2 g3))
  have HEL := Lib.hid hE
  clear g1 g2 g3 hE
  go_wp2_with fail
  have S1 := H1.out.setIt n (by omega) (.int .i64 ver) 1 src (upd vr n ver) (fun j hj => ⟨rfl, upd_ne vr n ver hj⟩) (fun v tv _ h2 => ⟨v, tv, by rw [upd_at]; rfl, h2⟩)
  obtain ⟨v1, tv1, p1, _, _⟩ := S1.it n (by omega)
  have hRow : RowV (w1.setCell ⟨t n, 1, none⟩ (.int .i64 ver)) (.slice (some ⟨g, 0, none⟩) l.length l.length) l := HR.out.1.move (Rows21.set w1 (t n) 1 _ HI.out.1 (by decide))
  have S2 := S1.setIt n (by omega) (.slice (some ⟨g, 0, none⟩) l.length l.length) 0 (upd src n l) (upd vr n ver) (fun j hj => ⟨upd_ne src n l hj, rfl⟩) (fun v tv _ h2 => ⟨.slice (some ⟨g, 0, none⟩) l.length l.length, tv, rfl, by rw [upd_at]; exact hRow⟩)
  have S3 := S2.setEl n (by omega) 3 (.iface 162 (PtS (t n))) (fun _ _ => rfl)
  have F := (((Frm.of_below HR.out.2.2 hBw).trans (Frm.set HI.out.1 (.inr (.inr (.inr rfl))) HI.out.2.2 1 (.int .i64 ver))).trans (Frm.set p1 (.inr (.inr (.inr rfl))) HI.out.2.2 0 (.slice (some ⟨g, 0, none⟩) l.length l.length))).trans (Frm.set (S2.el n (by omega)).1 (.inr (.inr (.inl rfl))) (S2.el n (by omega)).2 3 (.iface 162 (PtS (t n))))
  have HS3 := Lib.hid (And.intro S3 F)
  clear S1 S2 S3 F p1 hRow
  refine (Compact_calls _ _ _ _ _ (n + 1) _ _ _ _ _ HS3.out.1.oh HS3.out.1.cf HS3.out.1.ls (by omega)).mono ?_
  rintro e' w3 ⟨rfl, hb3⟩
  have HB3 := Lib.hid hb3
  clear hb3
  go_wp2_with fail
  go_ret
  exact ⟨rfl, HS3.out.1.stays HB3.out, HS3.out.2.trans (Frm.of_below HB3.out (by have := HS3.out.2.1.size; omega))⟩
theorem Back_none_quiet (lb nx pv m : Nat) (w : World) (h : Rec w lb (lsC nx pv 0) 157) : Calls Tryd.prog 166 #[PtS lb] (w.drewN m) fun e w' => e = .returned (.pointer none) ∧ w' = w.drewN m := Back_none lb nx pv (w.drewN m) h
set_option maxHeartbeats 8000000 in
/-- The first text. -/
theorem New_first (h : HS B w ob lb cb lim fold 0 e t src vr (.pointer none) 0) (v : Value) (l : List Int) (hv : RowV w v l) (hl : l.length ≤ 1000000000) (h0 : 0 < l.length) (hlim : 1 ≤ lim) (hBw : B ≤ w.heap.size) :
    Calls Tryd.prog 128 #[PtS ob, v] w fun e' w' => e' = .returned .nilIface ∧ ∃ e2 t2 s2 v2, HS B w' ob lb cb lim fold 2 e2 t2 s2 v2 (PtS (e2 1)) 1 ∧ s2 0 = l ∧ v2 0 = 0 ∧ s2 1 = [] ∧ v2 1 = 0 ∧ Frm B w w' := by
  have HC := Lib.hid (Copy_calls v l w hv hl)
  have HH := Lib.hid h
  have k4 := h.oh.cell 4 rfl
  clear h hv
  go_enter Tryd.func128, Tryd.ntmps128
  go_wp2_with fail
  refine HC.out.mono ?_
  rintro e' w1 ⟨g, rfl, hR, hg, hb⟩
  have HR := Lib.hid (And.intro hR (And.intro hg hb))
  clear hR hg hb
  have H1 := Lib.hid (HH.out.stays HR.out.2.2)
  have k1 := H1.out.oh.cell 1 rfl
  have k3 := H1.out.oh.cell 3 rfl
  have HL := Lib.hid (show Rec w1 lb (lsC lb lb 0) 157 from H1.out.ls)
  go_wp2_with fail
  refine (Back_none lb lb lb w1 HL.out).mono ?_
  rintro e' w2 ⟨rfl, hw⟩
  have hw := hw.symm
  subst hw
  have q1 : ((l.length : Int) == 0) = false := beq_eq_false_iff_ne.2 (by omega)
  have q2 : (l.length == 0) = false := beq_eq_false_iff_ne.2 (by omega)
  go_wp2_with fail
  go_quiet ((go_at_call 166; refine Calls.quiet_of_same (Back_none_quiet lb lb lb _ w1 HL.out)))
  have HNQ := Lib.hid (show Below w1.heap.size w1 (w1.drewN nq) from pw_below_drewN (Below.refl _ _) _)
  obtain ⟨w2, hw2⟩ : ∃ w2, w2 = w1.drewN nq := ⟨_, rfl⟩
  rw [← hw2] at HNQ ⊢
  clear hw2
  go_wp2_with fail
  have HU := Lib.hid (Update_first (H1.out.stays HNQ.out) (.slice (some ⟨g, 0, none⟩) l.length l.length) l (HR.out.1.stays HNQ.out) hl hlim (by have := HNQ.out.size; have := HR.out.2.2.size; omega))
  refine HU.out.mono ?_
  rintro e' w3 ⟨rfl, eb, tb, h1, h2⟩
  have H3 := Lib.hid (And.intro h1 h2)
  clear h1 h2
  have k2 := H3.out.1.oh.cell 2 rfl
  have z2 := H3.out.1.oh.free 2
  go_wp2_with fail
  have H4 := Lib.hid (H3.out.1.setOh 2 (.int .i64 1) (PtS eb) 1 rfl)
  have HF4 := Lib.hid (Frm.set H3.out.1.oh (.inl rfl) H3.out.1.low.1 2 (.int .i64 1))
  refine (Push_calls H4.out (.slice none 0 0) [] (RowV.nil _) (by simp) (by omega) (by have := H3.out.2.1.size; have := HNQ.out.size; have := HR.out.2.2.size; simp; omega)).mono ?_
  rintro e' w5 ⟨rfl, eb2, tb2, h1, h2⟩
  have H5 := Lib.hid (And.intro h1 h2)
  clear h1 h2
  go_wp2_with fail
  go_ret
  exact ⟨rfl, upd (upd e 0 eb) 1 eb2, upd (upd t 0 tb) 1 tb2, upd (upd src 0 l) 1 [], upd (upd vr 0 0) 1 0, H5.out.1, rfl, rfl, rfl, rfl, ((((Frm.of_below HR.out.2.2 hBw).trans (Frm.of_below HNQ.out (by have := HR.out.2.2.size; omega))).trans H3.out.2).trans HF4.out).trans H5.out.2⟩
theorem Back_quiet (lb nx pv n m : Nat) (w : World) (h : Rec w lb (lsC nx pv n) 157) (hn : 0 < n) : Calls Tryd.prog 166 #[PtS lb] (w.drewN m) fun e w' => e = .returned (PtS pv) ∧ w' = w.drewN m := Back_calls lb nx pv n (w.drewN m) h hn
/-- Whether two rows are the same. -/
def EqC : Prop := ∀ (v1 v2 : Value) (l1 l2 : List Int) (w : World), RowV w v1 l1 → RowV w v2 l2 → l1.length ≤ 1000000000 → l2.length ≤ 1000000000 → Calls Tryd.prog 168 #[.agg #[], v1, v2] w fun e w' => e = .returned (.bool (decide (l1 = l2))) ∧ Below w.heap.size w w'
set_option maxRecDepth 100000 in
set_option maxHeartbeats 16000000 in
/-- A further text. -/
theorem New_next (hEq : EqC) (h : HS B w ob lb cb lim fold (n + 2) e t src vr (PtS (e (n + 1))) ver) (v : Value) (l : List Int) (hv : RowV w v l) (hl : l.length ≤ 1000000000) (h0 : 0 < l.length) (hne : l ≠ src n) (hsl : (src n).length ≤ 1000000000) (hlim : (n : Int) + 3 ≤ lim) (hn : n ≤ 100000) (hver : 0 ≤ ver ∧ ver ≤ 1000000) (hBw : B ≤ w.heap.size) :
    Calls Tryd.prog 128 #[PtS ob, v] w fun e' w' => e' = .returned .nilIface ∧ ∃ eb tb, HS B w' ob lb cb lim fold (n + 3) (upd e (n + 2) eb) (upd t (n + 2) tb) (upd (upd src (n + 1) l) (n + 2) []) (upd (upd vr (n + 1) ver) (n + 2) 0) (PtS eb) (ver + 1) ∧ Frm B w w' := by
  have HC := Lib.hid (Copy_calls v l w hv hl)
  have HH := Lib.hid h
  have HEQ := Lib.hid hEq
  have HNE := Lib.hid (show decide (l = src n) = false from decide_eq_false hne)
  have k4 := h.oh.cell 4 rfl
  clear h hv hEq hne
  go_enter Tryd.func128, Tryd.ntmps128
  go_wp2_with fail
  refine HC.out.mono ?_
  rintro e' w1 ⟨g, rfl, hR, hg, hb⟩
  have HR := Lib.hid (And.intro hR (And.intro hg hb))
  clear hR hg hb
  have H1 := Lib.hid (HH.out.stays HR.out.2.2)
  have k1 := H1.out.oh.cell 1 rfl
  have k3 := H1.out.oh.cell 3 rfl
  have HL := Lib.hid (show Rec w1 lb (lsC (e 0) (e (n + 1)) (n + 2)) 157 from by
    have := H1.out.ls
    rw [if_neg (by omega), if_neg (by omega)] at this
    exact this)
  have HE1 := Lib.hid (show Rec w1 (e (n + 1)) (elC lb (e n) lb (t (n + 1))) 155 from by
    have := (H1.out.el (n + 1) (by omega)).1
    rw [if_neg (by omega), if_neg (by omega)] at this
    exact this)
  have hE0 := (H1.out.el n (by omega)).1
  have e3 := hE0.cell 3 rfl
  obtain ⟨v0, tv0, g1, g2, g3⟩ := H1.out.it n (by omega)
  have i0 := g1.cell 0 rfl
  have hass := assert_it (t n)
  have HG2 := Lib.hid g2
  have HE0 := Lib.hid hE0
  have hnl : e n ≠ lb := hE0.ne HL.out (by decide)
  clear hE0 g1 g2 g3
  go_wp2_with fail
  refine (Back_calls lb _ _ _ w1 HL.out (by omega)).mono ?_
  rintro e' w2 ⟨rfl, hw⟩
  have hw := hw.symm
  subst hw
  go_wp2_with fail
  refine (Prev_calls (e (n + 1)) lb (e n) lb (t (n + 1)) w1 HE1.out hnl HE0.out HL.out).mono ?_
  rintro e' w2 ⟨rfl, hw⟩
  have hw := hw.symm
  subst hw
  have q1 : ((l.length : Int) == 0) = false := beq_eq_false_iff_ne.2 (by omega)
  have q2 : (l.length == 0) = false := beq_eq_false_iff_ne.2 (by omega)
  go_wp2_with fail
  go_still_tail 10, (by kernel_rfl)
  change wpList _ _ _ _ _ w1.drew
  go_wp2_with fail
  refine (HEQ.out _ _ l (src n) w1.drew (HR.out.1.stays ((Below.refl _ _).drew)) (HG2.out.stays ((Below.refl _ _).drew)) hl hsl).mono ?_
  rintro e' w2 ⟨rfl, hb⟩
  have HB2 := Lib.hid (show Below w1.heap.size w1 w2 from ⟨hb.os, hb.tape, hb.output, hb.size, hb.block⟩)
  clear hb
  rw [HNE.out]
  have H2 := Lib.hid (H1.out.stays HB2.out)
  have k1 := H2.out.oh.cell 1 rfl
  have k3 := H2.out.oh.cell 3 rfl
  have HL2 := Lib.hid (HL.out.stays HB2.out)
  have hsame := ptr_same (e (n + 1))
  clear e3 i0
  go_wp2_with fail
  go_quiet ((go_at_call 166; refine Calls.quiet_of_same (Back_quiet lb _ _ _ _ w2 HL2.out (by omega))))
  have HNQ := Lib.hid (show Below w2.heap.size w2 (w2.drewN nq) from pw_below_drewN (Below.refl _ _) _)
  obtain ⟨w3, hw3⟩ : ∃ w3, w3 = w2.drewN nq := ⟨_, rfl⟩
  rw [← hw3] at HNQ ⊢
  clear hw3
  go_wp2_with fail
  have hz2 := HB2.out.size
  have hzR := HR.out.2.2.size
  have hz3 := HNQ.out.size
  have HU := Lib.hid (Update_last (n := n + 1) (H2.out.stays HNQ.out) (.slice (some ⟨g, 0, none⟩) l.length l.length) l ((HR.out.1.stays HB2.out).stays HNQ.out) hl (by omega) (by omega))
  refine HU.out.mono ?_
  rintro e' w4 ⟨rfl, h1, h2⟩
  have H4 := Lib.hid (And.intro h1 h2)
  clear h1 h2
  have k2 := H4.out.1.oh.cell 2 rfl
  have z2 := H4.out.1.oh.free 2
  have w64_ : IntKind.i64.wrap (ver + 1) = ver + 1 := IntWalk.i64_in _ (by omega)
  go_wp2_with fail
  have H5 := Lib.hid (H4.out.1.setOh 2 (.int .i64 (ver + 1)) (PtS (e (n + 1))) (ver + 1) rfl)
  have HF5 := Lib.hid (Frm.set H4.out.1.oh (.inl rfl) H4.out.1.low.1 2 (.int .i64 (ver + 1)))
  refine (Push_calls H5.out (.slice none 0 0) [] (RowV.nil _) (by simp) (by omega) (by have := H4.out.2.1.size; simp; omega)).mono ?_
  rintro e' w6 ⟨rfl, eb2, tb2, h1, h2⟩
  have H6 := Lib.hid (And.intro h1 h2)
  clear h1 h2
  go_wp2_with fail
  go_ret
  exact ⟨rfl, eb2, tb2, H6.out.1, (((((Frm.of_below HR.out.2.2 hBw).trans (Frm.of_below HB2.out (by omega))).trans (Frm.of_below HNQ.out (by omega))).trans H4.out.2).trans HF5.out).trans H6.out.2⟩
end
end Go.Proofs.YtdinikcfhpfojaaDoor.H
