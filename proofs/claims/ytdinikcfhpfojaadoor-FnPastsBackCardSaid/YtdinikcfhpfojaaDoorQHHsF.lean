/- A history of texts (readline's opHistory): what New, Prev and Next make of the row of texts; ASCII texts of at most 100000 bytes, at most 1000. -/
import Derived.Test.YtdinikcfhpfojaaDoorQHHsE
import Derived.Test.YtdinikcfhpfojaaDoorQPEqualx1
import Derived.Test.YtdinikcfhpfojaaDoorQXPure
namespace Go.Proofs.YtdinikcfhpfojaaDoor.H
open Go.RowKit Go.Proofs.YtdinikcfhpfojaaDoorW.PrintWords Go.Proofs.YtdinikcfhpfojaaDoorW.PrintLast Go.Proofs.YtdinikcfhpfojaaDoor.R Go.Proofs.YtdinikcfhpfojaaDoor.X
set_option linter.unusedVariables false
set_option linter.unusedSimpArgs false
attribute [local go_sem ↓] Go.wp_at_zero Go.wp_at_succ
theorem eq_tells (a l2 : List Int) (h1 : a.length ≤ 1000000000) (h2 : l2.length ≤ 1000000000) : Ev (fun k => PEqual.readline_Runes_Equal.f k a l2) (decide (a = l2)) := by
  unfold PEqual.readline_Runes_Equal.f
  by_cases hlt : a.length = l2.length
  · refine ev_ifp (by omega) ?_
    suffices h : ∀ d i : Nat, i + d = l2.length → a.take i = l2.take i → Ev (fun k => PEqual.readline_Runes_Equal.l0 k a l2 (i : Int)) (decide (a = l2)) by
      exact h l2.length 0 (by omega) (by simp)
    intro d
    induction d with
    | zero =>
      intro i hi he
      rw [List.take_of_length_le (by omega), List.take_of_length_le (by omega)] at he
      refine Ev.step (fun k => by rw [PEqual.readline_Runes_Equal.l0]) ?_
      exact ev_ifn (by omega) (ev_some (by simp [he]))
    | succ d ih =>
      intro i hi he
      have hi1 : i < a.length := by omega
      have hi2 : i < l2.length := by omega
      have r1 := rd_nat a i hi1
      have r2 := rd_nat l2 i hi2
      refine Ev.step (fun k => by rw [PEqual.readline_Runes_Equal.l0, r1, r2, w64 (x := (i : Int) + 1) (by omega) (by omega)]) ?_
      refine ev_ifp (by omega) (ev_ifp (by omega) (ev_ifp (by omega) ?_))
      by_cases hx : a[i] = l2[i]
      · refine ev_ifp hx ?_
        have := ih (i + 1) (by omega) (by rw [List.take_succ_eq_append_getElem hi1, List.take_succ_eq_append_getElem hi2, he, hx])
        rwa [show ((i + 1 : Nat) : Int) = (i : Int) + 1 by omega] at this
      · refine ev_ifn hx (ev_some ?_)
        have hne : ¬ a = l2 := fun e => hx (by subst e; rfl)
        simp [hne]
  · refine ev_ifn (by omega) (ev_some ?_)
    have hne : ¬ a = l2 := fun e => hlt (by rw [e])
    simp [hne]
theorem eqC : EqC := fun v1 v2 l1 l2 w hr1 hr2 h1 h2 => by
  obtain ⟨A1, c1, rfl, hc1, hC1, _⟩ := hr1
  obtain ⟨A2, c2, rfl, hc2, hC2, _⟩ := hr2
  obtain ⟨k, hk⟩ := (eq_tells l1 l2 h1 h2).rounds
  exact PEqual.readline_Runes_Equal.calls k A1 c1 l1 A2 c2 l2 _ w hC1 hc1 hC2 hc2 hk
/-- The texts that were put in, and which is told. -/
structure St where
  tx : List (List Int)
  at_ : Nat
structure Lnk (n : Nat) (e : Nat → Nat) (src : Nat → List Int) (vr : Nat → Int) (cur : Value) (ver : Int) (st : St) : Prop where
  none_ : st.tx = [] → n = 0 ∧ cur = .pointer none ∧ ver = 0
  some_ : st.tx ≠ [] → n = st.tx.length + 1 ∧ cur = PtS (e st.at_) ∧ ver = st.tx.length ∧ st.at_ ≤ st.tx.length ∧ (∀ i (h : i < st.tx.length), src i = st.tx[i]) ∧ ∀ i, i < n → vr i < ver
  few : st.tx.length ≤ 1000
  short : ∀ x ∈ st.tx, x.length ≤ 100000
def Sta (B : Nat) (w : World) (ob lb cb : Nat) (lim : Int) (fold : Bool) (st : St) : Prop := ∃ n e t src vr cur ver, HS B w ob lb cb lim fold n e t src vr cur ver ∧ Lnk n e src vr cur ver st
section
variable {B ob lb cb : Nat} {lim : Int} {fold : Bool} {st : St} {w w1 : World}
theorem Sta.stays (h : Sta B w ob lb cb lim fold st) (hb : Below w.heap.size w w1) : Sta B w1 ob lb cb lim fold st := by
  obtain ⟨n, e, t, src, vr, cur, ver, h1, h2⟩ := h
  exact ⟨n, e, t, src, vr, cur, ver, h1.stays hb, h2⟩
/-- A block of another kind changes. -/
theorem Sta.far (h : Sta B w ob lb cb lim fold st) (hm : ∀ (k : Nat) (cs : Array Value) (t : TypeId) (fz : Nat × Nat), w.heap[k]? = some (Obj.cells cs t fz) → (t = 127 ∨ t = 71 ∨ t = 157 ∨ t = 155 ∨ t = 161 ∨ t = 21) → w1.heap[k]? = w.heap[k]?) : Sta B w1 ob lb cb lim fold st := by
  obtain ⟨n, e, t, src, vr, cur, ver, h1, h2⟩ := h
  have mv : ∀ {b : Nat} {L : List Value} {ty : TypeId}, Rec w b L ty → (ty = 127 ∨ ty = 71 ∨ ty = 157 ∨ ty = 155 ∨ ty = 161 ∨ ty = 21) → Rec w1 b L ty := fun hr ht => (hm _ _ _ _ hr ht).trans hr
  refine ⟨n, e, t, src, vr, cur, ver, ⟨mv h1.oh (by decide), mv h1.cf (by decide), mv h1.ls (by decide), fun i hi => ⟨mv (h1.el i hi).1 (by decide), (h1.el i hi).2⟩, fun i hi => ?_, h1.inje, h1.injt, h1.low⟩, h2⟩
  obtain ⟨v, tv, g1, g2, g3⟩ := h1.it i hi
  exact ⟨v, tv, mv g1 (by decide), g2.move (fun k cs fz hk => hm k cs 21 fz hk (by decide)), g3⟩
theorem Sta.set (h : Sta B w ob lb cb lim fold st) {b : Nat} {L : List Value} {ty : TypeId} (hr : Rec w b L ty) (ht : ¬ (ty = 127 ∨ ty = 71 ∨ ty = 157 ∨ ty = 155 ∨ ty = 161 ∨ ty = 21)) (i : Nat) (u : Value) : Sta B (w.setCell ⟨b, i, none⟩ u) ob lb cb lim fold st := h.far fun k cs t fz hk h1 => Below.heap_setCell w ⟨b, i, none⟩ u k (fun e => by
  have e' : k = b := e
  rw [e', show w.heap[b]? = _ from hr] at hk
  injection hk with hk; injection hk with _ hk _
  exact ht (hk ▸ h1))
/-- A text that may be put in. -/
def Fit (lim : Int) (st : St) (x : List Int) : Prop := 0 < x.length ∧ x.length ≤ 100000 ∧ st.tx.length < 1000 ∧ (st.tx.length : Int) + 2 ≤ lim ∧ (st.tx ≠ [] → st.at_ = st.tx.length ∧ st.tx.getLast? ≠ some x)
theorem New_sta (h : Sta B w ob lb cb lim fold st) (v : Value) (x : List Int) (hv : RowV w v x) (hf : Fit lim st x) (hBw : B ≤ w.heap.size) :
    Calls Tryd.prog 128 #[PtS ob, v] w fun e' w' => e' = .returned .nilIface ∧ Sta B w' ob lb cb lim fold ⟨st.tx ++ [x], st.tx.length + 1⟩ ∧ Frm B w w' := by
  obtain ⟨n, e, t, src, vr, cur, ver, h1, h2⟩ := h
  obtain ⟨f0, f1, f2, f3, f4⟩ := hf
  by_cases he : st.tx = []
  · obtain ⟨rfl, rfl, rfl⟩ := h2.none_ he
    refine (New_first h1 v x hv (by omega) f0 (by omega) hBw).mono ?_
    rintro e' w' ⟨rfl, e2, t2, s2, v2, g1, g2, g3, g4, g5, g6⟩
    refine ⟨rfl, ⟨2, e2, t2, s2, v2, _, _, g1, ?_⟩, g6⟩
    rw [he]
    refine ⟨fun h0 => by simp at h0, fun _ => ⟨rfl, rfl, rfl, Nat.le_refl _, fun i hi => ?_, fun i hi => ?_⟩, by simp, fun y hy => ?_⟩
    · obtain rfl : i = 0 := by simp at hi; omega
      exact g2
    · rcases (show i = 0 ∨ i = 1 by omega) with rfl | rfl
      · rw [g3]; decide
      · rw [g5]; decide
    · obtain rfl : y = x := by simpa using hy
      omega
  · obtain ⟨hn, hc, hv', ha, hs, hvr⟩ := h2.some_ he
    obtain ⟨f5, f6⟩ := f4 he
    obtain ⟨m, hm⟩ : ∃ m, st.tx.length = m + 1 := ⟨st.tx.length - 1, by have := List.length_pos_iff.2 he; omega⟩
    have hn2 : n = m + 2 := by omega
    subst hn2
    rw [f5, hm] at hc
    subst hc
    have hlast : src m = st.tx[m] := hs m (by omega)
    have hgl : st.tx.getLast? = some st.tx[m] := by rw [List.getLast?_eq_getElem?, show st.tx.length - 1 = m by omega]; exact List.getElem?_eq_getElem (by omega)
    have hsl := h2.short (src m) (by rw [hlast]; exact List.getElem_mem _)
    refine (New_next eqC h1 v x hv (by omega) f0 (fun e0 => f6 (by rw [hgl, e0, hlast])) (by omega) (by omega) (by omega) (by omega) hBw).mono ?_
    rintro e' w' ⟨rfl, eb, tb, g1, g2⟩
    refine ⟨rfl, ⟨m + 3, _, _, _, _, _, _, g1, ?_⟩, g2⟩
    have hl2 : (st.tx ++ [x]).length = m + 2 := by simp; omega
    refine ⟨fun h0 => by simp at h0, fun _ => ⟨by rw [hl2], ?_, by rw [hl2, hv', hm]; rfl, by rw [hl2, hm]; exact Nat.le_refl _, fun i hi => ?_, fun i hi => ?_⟩, by rw [hl2]; omega, fun y hy => ?_⟩
    · show PtS eb = PtS (upd e (m + 2) eb (st.tx.length + 1))
      rw [hm, upd_at]
    · show upd (upd src (m + 1) x) (m + 2) [] i = (st.tx ++ [x])[i]
      rw [upd_ne _ _ _ (by rw [hl2] at hi; omega)]
      by_cases hi1 : i = m + 1
      · subst hi1
        rw [upd_at, List.getElem_append_right (by omega)]
        simp [hm]
      · rw [upd_ne _ _ _ hi1, hs i (by rw [hl2] at hi; omega), List.getElem_append_left]
    · by_cases hi2 : i = m + 2
      · subst hi2; rw [upd_at]; omega
      · rw [upd_ne _ _ _ hi2]
        by_cases hi1 : i = m + 1
        · subst hi1; rw [upd_at]; omega
        · rw [upd_ne _ _ _ hi1]; have := hvr i (by omega); omega
    · rcases List.mem_append.1 hy with h3 | h3
      · exact h2.short y h3
      · obtain rfl : y = x := by simpa using h3
        omega
theorem Prev_sta (h : Sta B w ob lb cb lim fold st) (i : Nat) (ha : st.at_ = i + 1) (hi : i < st.tx.length) (hBw : B ≤ w.heap.size) :
    Calls Tryd.prog 130 #[PtS ob] w fun e' w' => ∃ g, e' = .returned (.slice (some ⟨g, 0, none⟩) (st.tx[i]).length (st.tx[i]).length) ∧ RowV w' (.slice (some ⟨g, 0, none⟩) (st.tx[i]).length (st.tx[i]).length) st.tx[i] ∧ Sta B w' ob lb cb lim fold ⟨st.tx, i⟩ ∧ Frm B w w' := by
  obtain ⟨n, e, t, src, vr, cur, ver, h1, h2⟩ := h
  have he : st.tx ≠ [] := by intro e0; rw [e0] at hi; simp at hi
  obtain ⟨hn, hc, hv', ha', hs, hvr⟩ := h2.some_ he
  rw [ha] at hc
  subst hc
  have hsi := hs i hi
  have hsl := h2.short st.tx[i] (List.getElem_mem hi)
  have hvi := hvr i (by omega)
  refine (OpPrev_calls i h1 (by omega) (by omega) (by rw [hsi]; omega) hBw).mono ?_
  rintro e' w' ⟨g, rfl, g1, g2, g3⟩
  rw [hsi] at g1 ⊢
  exact ⟨g, rfl, g1, ⟨n, e, t, src, vr, _, ver, g2, ⟨fun e0 => absurd e0 he, fun _ => ⟨hn, rfl, hv', by show i ≤ st.tx.length; omega, hs, hvr⟩, h2.few, h2.short⟩⟩, g3⟩
theorem Next_sta (h : Sta B w ob lb cb lim fold st) (i : Nat) (ha : st.at_ = i) (hi : i + 1 < st.tx.length) (hBw : B ≤ w.heap.size) :
    Calls Tryd.prog 131 #[PtS ob] w fun e' w' => ∃ g, e' = .returned (.tuple #[.slice (some ⟨g, 0, none⟩) (st.tx[i + 1]).length (st.tx[i + 1]).length, .bool true]) ∧ RowV w' (.slice (some ⟨g, 0, none⟩) (st.tx[i + 1]).length (st.tx[i + 1]).length) st.tx[i + 1] ∧ Sta B w' ob lb cb lim fold ⟨st.tx, i + 1⟩ ∧ Frm B w w' := by
  obtain ⟨n, e, t, src, vr, cur, ver, h1, h2⟩ := h
  have he : st.tx ≠ [] := by intro e0; rw [e0] at hi; simp at hi
  obtain ⟨hn, hc, hv', ha', hs, hvr⟩ := h2.some_ he
  rw [ha] at hc
  subst hc
  have hsi := hs (i + 1) hi
  have hsl := h2.short st.tx[i + 1] (List.getElem_mem hi)
  have hvi := hvr (i + 1) (by omega)
  refine (OpNext_calls i h1 (by omega) (by omega) (by rw [hsi]; omega) hBw).mono ?_
  rintro e' w' ⟨g, rfl, g1, g2, g3⟩
  rw [hsi] at g1 ⊢
  exact ⟨g, rfl, g1, ⟨n, e, t, src, vr, _, ver, g2, ⟨fun e0 => absurd e0 he, fun _ => ⟨hn, rfl, hv', by show i + 1 ≤ st.tx.length; omega, hs, hvr⟩, h2.few, h2.short⟩⟩, g3⟩
end
end Go.Proofs.YtdinikcfhpfojaaDoor.H
