/- A history of texts (readline's opHistory): its state in memory; Compact, Push, Update; no condition but bounds. -/
import Derived.Test.YtdinikcfhpfojaaDoorQHHsB
import Derived.BigQuiet
import Derived.Deep.QuietTactic
namespace Go.Proofs.YtdinikcfhpfojaaDoor.H
open Go.RowKit Go.Proofs.YtdinikcfhpfojaaDoorW.PrintWords Go.Proofs.YtdinikcfhpfojaaDoorW.PrintLast Go.Proofs.YtdinikcfhpfojaaDoor.R
set_option linter.unusedVariables false
set_option linter.unusedSimpArgs false
attribute [local go_sem ↓] Go.wp_at_zero Go.wp_at_succ
/-- A history of n elements: their blocks e, the blocks t of what they hold, its rows and versions; the current element; the history's version. -/
structure HS (B : Nat) (w : World) (ob lb cb : Nat) (lim : Int) (fold : Bool) (n : Nat) (e t : Nat → Nat) (src : Nat → List Int) (vr : Nat → Int) (cur : Value) (ver : Int) : Prop where
  oh : Rec w ob [PtS cb, PtS lb, .int .i64 ver, cur, .bool true] 127
  cf : Rec w cb [.int .i64 lim, .bool fold, .bool false, .int .i32 0] 71
  ls : Rec w lb (lsC (if n = 0 then lb else e 0) (if n = 0 then lb else e (n - 1)) n) 157
  el : ∀ i, i < n → Rec w (e i) (elC (if i + 1 < n then e (i + 1) else lb) (if i = 0 then lb else e (i - 1)) lb (t i)) 155 ∧ B ≤ e i
  it : ∀ i, i < n → ∃ v tv, Rec w (t i) [v, .int .i64 (vr i), tv] 161 ∧ RowV w v (src i) ∧ B ≤ t i
  inje : ∀ i j, i < n → j < n → e i = e j → i = j
  injt : ∀ i j, i < n → j < n → t i = t j → i = j
  low : B ≤ ob ∧ B ≤ lb ∧ B ≤ cb
section
variable {B ob lb cb n : Nat} {lim ver : Int} {fold : Bool} {e t : Nat → Nat} {src : Nat → List Int} {vr : Nat → Int} {cur : Value} {w w1 : World}
theorem HS.stays (h : HS B w ob lb cb lim fold n e t src vr cur ver) (hb : Below w.heap.size w w1) : HS B w1 ob lb cb lim fold n e t src vr cur ver :=
  ⟨h.oh.stays hb, h.cf.stays hb, h.ls.stays hb, fun i hi => ⟨(h.el i hi).1.stays hb, (h.el i hi).2⟩, fun i hi => by
    obtain ⟨v, tv, h1, h2, h3⟩ := h.it i hi
    exact ⟨v, tv, h1.stays hb, h2.move (Rows21.of_below hb), h3⟩, h.inje, h.injt, h.low⟩
theorem HS.setOh (h : HS B w ob lb cb lim fold n e t src vr cur ver) (i : Nat) (u : Value) (cur2 : Value) (ver2 : Int) (hl : ([PtS cb, PtS lb, .int .i64 ver, cur, .bool true] : List Value).set i u = [PtS cb, PtS lb, .int .i64 ver2, cur2, .bool true]) : HS B (w.setCell ⟨ob, i, none⟩ u) ob lb cb lim fold n e t src vr cur2 ver2 :=
  ⟨hl ▸ h.oh.set i u, h.cf.other (a := ⟨ob, i, none⟩) (h.cf.ne h.oh (by decide)) u, h.ls.other (a := ⟨ob, i, none⟩) (h.ls.ne h.oh (by decide)) u, fun j hj => ⟨(h.el j hj).1.other (a := ⟨ob, i, none⟩) ((h.el j hj).1.ne h.oh (by decide)) u, (h.el j hj).2⟩, fun j hj => by
    obtain ⟨v, tv, h1, h2, h3⟩ := h.it j hj
    exact ⟨v, tv, h1.other (a := ⟨ob, i, none⟩) (h1.ne h.oh (by decide)) u, h2.move (Rows21.set w ob i u h.oh (by decide)), h3⟩, h.inje, h.injt, h.low⟩
/-- An item's version, or row, is stored. -/
theorem HS.setIt (h : HS B w ob lb cb lim fold n e t src vr cur ver) (k : Nat) (hk : k < n) (u : Value) (i : Nat) (src2 : Nat → List Int) (vr2 : Nat → Int)
    (hs : ∀ j, j ≠ k → src2 j = src j ∧ vr2 j = vr j) (hn : ∀ v tv, Rec w (t k) [v, .int .i64 (vr k), tv] 161 → RowV w v (src k) → ∃ v2 tv2, ([v, .int .i64 (vr k), tv] : List Value).set i u = [v2, .int .i64 (vr2 k), tv2] ∧ RowV w v2 (src2 k)) :
    HS B (w.setCell ⟨t k, i, none⟩ u) ob lb cb lim fold n e t src2 vr2 cur ver := by
  obtain ⟨v0, tv0, g1, g2, g3⟩ := h.it k hk
  refine ⟨h.oh.other (a := ⟨t k, i, none⟩) (h.oh.ne g1 (by decide)) u, h.cf.other (a := ⟨t k, i, none⟩) (h.cf.ne g1 (by decide)) u, h.ls.other (a := ⟨t k, i, none⟩) (h.ls.ne g1 (by decide)) u, fun j hj => ⟨(h.el j hj).1.other (a := ⟨t k, i, none⟩) ((h.el j hj).1.ne g1 (by decide)) u, (h.el j hj).2⟩, fun j hj => ?_, h.inje, h.injt, h.low⟩
  have hrows := Rows21.set w (t k) i u g1 (by decide)
  by_cases hjk : j = k
  · subst hjk
    obtain ⟨v2, tv2, e2, r2⟩ := hn v0 tv0 g1 g2
    exact ⟨v2, tv2, e2 ▸ g1.set i u, r2.move hrows, g3⟩
  · obtain ⟨v, tv, h1, h2, h3⟩ := h.it j hj
    rw [(hs j hjk).1, (hs j hjk).2]
    exact ⟨v, tv, h1.other (a := ⟨t k, i, none⟩) (fun e => hjk (h.injt j k hj hk e)) u, h2.move hrows, h3⟩
end
theorem Len_quiet (lb nx pv n m : Nat) (w : World) (h : Rec w lb (lsC nx pv n) 157) : Calls Tryd.prog 190 #[PtS lb] (w.drewN m) fun e w' => e = .returned (.int .i64 n) ∧ w' = w.drewN m := Len_calls lb nx pv n (w.drewN m) h
set_option maxRecDepth 100000 in
set_option maxHeartbeats 4000000 in
theorem Compact_calls (ob lb cb nx pv n : Nat) (lim ver : Int) (fold : Bool) (cur : Value) (w : World) (h1 : Rec w ob [PtS cb, PtS lb, .int .i64 ver, cur, .bool true] 127) (h2 : Rec w cb [.int .i64 lim, .bool fold, .bool false, .int .i32 0] 71) (h3 : Rec w lb (lsC nx pv n) 157) (hn : (n : Int) ≤ lim) :
    Calls Tryd.prog 171 #[PtS ob] w fun e w' => e = .returned (.tuple #[]) ∧ Below w.heap.size w w' := by
  have c0 := h1.cell 0 rfl
  have c1 := h1.cell 1 rfl
  have d0 := h2.cell 0 rfl
  have l4 := h3.cell 4 rfl
  have hg : decide ((n : Int) > lim) = false := decide_eq_false (by omega)
  have hg2 : decide (lim < (n : Int)) = false := decide_eq_false (by omega)
  have HL := Lib.hid h3
  clear h1 h2 h3
  go_enter Tryd.func171, Tryd.ntmps171
  go_wp2_with fail
  go_loopw [] (fun wr => ∃ m, wr = w.drewN m) (fun _ => 0)
  case atStart => exact ⟨0, rfl⟩
  case round =>
    obtain ⟨m, hm⟩ := hrel
    have HM := Lib.hid hm
    have c0 : wr.cell? ⟨ob, 0, none⟩ = some (PtS cb) := by rw [hm]; exact c0
    have c1 : wr.cell? ⟨ob, 1, none⟩ = some (PtS lb) := by rw [hm]; exact c1
    have d0 : wr.cell? ⟨cb, 0, none⟩ = some (.int .i64 lim) := by rw [hm]; exact d0
    have HL2 := Lib.hid (show Rec wr lb (lsC nx pv n) 157 by rw [hm]; exact HL.out)
    clear hm
    go_wp2_with fail
    go_quiet ((go_at_call 190; go_loud (refine Calls.quiet_of_same (Len_quiet lb nx pv n _ wr HL2.out))))
    go_wp2
    go_end0
    refine ⟨rfl, ?_⟩
    rw [HM.out]
    exact pw_below_drewN (pw_below_drewN (Below.refl _ _) _) _
def upd {α : Type} (f : Nat → α) (n : Nat) (x : α) : Nat → α := fun i => if i = n then x else f i
theorem upd_at {α : Type} (f : Nat → α) (n : Nat) (x : α) : upd f n x n = x := if_pos rfl
theorem upd_ne {α : Type} (f : Nat → α) (n : Nat) (x : α) {i : Nat} (h : i ≠ n) : upd f n x i = f i := if_neg h
set_option maxHeartbeats 2000000 in
theorem value_first (B lb t : Nat) (w : World) (hl : Rec w lb (lsC lb lb 0) 157) (hB2 : B ≤ lb) (hBw : B ≤ w.heap.size) :
    Calls Tryd.prog 200 #[PtS lb, .iface 162 (PtS t), PtS lb] w fun e w' => e = .returned (PtS w.heap.size) ∧ Rec w' w.heap.size (elC lb lb lb t) 155 ∧ Rec w' lb (lsC w.heap.size w.heap.size 1) 157 ∧ (∀ k, k < w.heap.size → k ≠ lb → w'.heap[k]? = w.heap[k]?) ∧ Frm B w w' := by
  have H := Lib.hid (insert_first B lb w.heap.size t _ (Rec.new w [.pointer none, .pointer none, .pointer none, .iface 162 (PtS t)] 155) (hl.alloc _) hBw hB2)
  clear hl
  go_enter Tryd.func200, Tryd.ntmps200
  go_wp2_with (go_at_call 206; refine H.out.mono ?_; rintro e w1 ⟨rfl, h1, h2, h3, h4, h5⟩; have HR := Lib.hid (And.intro h1 (And.intro h2 (And.intro h3 h4))); clear h1 h2 h3 h4 h5)
  go_ret
  exact ⟨rfl, HR.out.1, HR.out.2.1, fun k hk hne => (HR.out.2.2.1 k (by omega) hne hne).trans (Below.heap_alloc w _ k hk), (Frm.of_below ((Below.refl _ _).alloc (Nat.le_refl _) _) hBw).trans HR.out.2.2.2⟩
set_option maxHeartbeats 2000000 in
theorem value_next (B lb t a nx pv tl len : Nat) (w : World) (hl : Rec w lb (lsC nx a len) 157) (ha : Rec w a (elC lb pv lb tl) 155) (hB2 : B ≤ lb) (hB3 : B ≤ a) (hBw : B ≤ w.heap.size) (hlen : len ≤ 1000000) :
    Calls Tryd.prog 200 #[PtS lb, .iface 162 (PtS t), PtS a] w fun e w' => e = .returned (PtS w.heap.size) ∧ Rec w' w.heap.size (elC lb a lb t) 155 ∧ Rec w' lb (lsC nx w.heap.size (len + 1)) 157 ∧ Rec w' a (elC w.heap.size pv lb tl) 155 ∧ (∀ k, k < w.heap.size → k ≠ lb → k ≠ a → w'.heap[k]? = w.heap[k]?) ∧ Frm B w w' := by
  have H := Lib.hid (insert_next B lb w.heap.size t a nx pv tl len _ (Rec.new w [.pointer none, .pointer none, .pointer none, .iface 162 (PtS t)] 155) (hl.alloc _) (ha.alloc _) (by have := ha.lt; omega) hBw hB2 hB3 hlen)
  clear hl ha
  go_enter Tryd.func200, Tryd.ntmps200
  go_wp2_with (go_at_call 206; refine H.out.mono ?_; rintro e w1 ⟨rfl, h1, h2, h3, h4, h5, h6⟩; have HR := Lib.hid (And.intro h1 (And.intro h2 (And.intro h3 (And.intro h4 h5)))); clear h1 h2 h3 h4 h5 h6)
  go_ret
  exact ⟨rfl, HR.out.1, HR.out.2.1, HR.out.2.2.1, fun k hk hne hna => (HR.out.2.2.2.1 k (by omega) hne hna).trans (Below.heap_alloc w _ k hk), (Frm.of_below ((Below.refl _ _).alloc (Nat.le_refl _) _) hBw).trans HR.out.2.2.2.2⟩
set_option maxHeartbeats 4000000 in
/-- An element at the end. -/
theorem PushBack_calls {B ob lb cb n : Nat} {lim ver : Int} {fold : Bool} {e t : Nat → Nat} {src : Nat → List Int} {vr : Nat → Int} {cur : Value} {w : World} (h : HS B w ob lb cb lim fold n e t src vr cur ver) (tb : Nat) (v tv : Value) (l : List Int) (ht : Rec w tb [v, .int .i64 0, tv] 161) (hv : RowV w v l) (hBt : B ≤ tb) (hnew : ∀ i, i < n → t i ≠ tb) (hBw : B ≤ w.heap.size) (hn : n ≤ 1000000) :
    Calls Tryd.prog 189 #[PtS lb, .iface 162 (PtS tb)] w fun e' w' => e' = .returned (PtS w.heap.size) ∧ HS B w' ob lb cb lim fold (n + 1) (upd e n w.heap.size) (upd t n tb) (upd src n l) (upd vr n 0) cur ver ∧ Frm B w w' := by
  have hlz := lazy_calls lb _ _ n w h.ls
  have l1 := h.ls.cell 1 rfl
  by_cases hn0 : n = 0
  · subst hn0
    have H := Lib.hid (value_first B lb tb w h.ls h.low.2.1 hBw)
    have l1' : w.cell? ⟨lb, 1, none⟩ = some (PtS lb) := l1
    have HH := Lib.hid h
    have HZ := Lib.hid hlz
    have HT := Lib.hid (And.intro ht (And.intro hv hBt))
    clear h l1 hlz ht hv hBt
    go_enter Tryd.func189, Tryd.ntmps189
    go_wp2_with (first | (go_at_call 199; refine HZ.out.mono ?_; rintro e' w0 ⟨rfl, hw⟩; have hw := hw.symm; subst hw) | (go_at_call 200; refine H.out.mono ?_; rintro e w1 ⟨rfl, h1, h2, h3, h4⟩; have HR := Lib.hid (And.intro h1 (And.intro h2 (And.intro h3 h4))); clear h1 h2 h3 h4))
    go_ret
    have hk := HR.out.2.2.1
    have mv : ∀ {b : Nat} {L : List Value} {ty : TypeId}, Rec w b L ty → b ≠ lb → Rec w1 b L ty := fun hr hne => (hk _ hr.lt hne).trans hr
    refine ⟨rfl, ⟨mv HH.out.oh (HH.out.oh.ne HH.out.ls (by decide)), mv HH.out.cf (HH.out.cf.ne HH.out.ls (by decide)), HR.out.2.1, fun i hi => ?_, fun i hi => ?_, fun i j hi hj _ => by omega, fun i j hi hj _ => by omega, HH.out.low⟩, HR.out.2.2.2⟩
    · obtain rfl : i = 0 := by omega
      exact ⟨HR.out.1, hBw⟩
    · obtain rfl : i = 0 := by omega
      exact ⟨v, tv, mv HT.out.1 (HT.out.1.ne HH.out.ls (by decide)), HT.out.2.1.move HR.out.2.2.2.rows, HT.out.2.2⟩
  · have hE := (h.el (n - 1) (by omega)).1
    rw [if_neg (by omega)] at hE
    have hls := h.ls
    rw [if_neg hn0, if_neg hn0] at hls
    have l1' : w.cell? ⟨lb, 1, none⟩ = some (PtS (e (n - 1))) := hls.cell 1 rfl
    have H := Lib.hid (value_next B lb tb (e (n - 1)) (e 0) (if n - 1 = 0 then lb else e (n - 1 - 1)) (t (n - 1)) n w hls hE h.low.2.1 (h.el (n - 1) (by omega)).2 hBw hn)
    have HH := Lib.hid h
    have HZ := Lib.hid hlz
    have HT := Lib.hid (And.intro ht (And.intro hv hBt))
    have HNW := Lib.hid hnew
    clear h l1 hlz ht hv hBt hls hE hnew
    go_enter Tryd.func189, Tryd.ntmps189
    go_wp2_with (first | (go_at_call 199; refine HZ.out.mono ?_; rintro e' w0 ⟨rfl, hw⟩; have hw := hw.symm; subst hw) | (go_at_call 200; refine H.out.mono ?_; rintro e w1 ⟨rfl, h1, h2, h3, h4, h5⟩; have HR := Lib.hid (And.intro h1 (And.intro h2 (And.intro h3 (And.intro h4 h5)))); clear h1 h2 h3 h4 h5))
    go_ret
    have hk := HR.out.2.2.2.1
    have hEl := HH.out.el (n - 1) (by omega)
    have mv : ∀ {b : Nat} {L : List Value} {ty : TypeId}, Rec w b L ty → b ≠ lb → b ≠ e (n - 1) → Rec w1 b L ty := fun hr hne hna => (hk _ hr.lt hne hna).trans hr
    have elt : ∀ i, i < n → e i < w.heap.size := fun i hi => (HH.out.el i hi).1.lt
    refine ⟨rfl, ⟨mv HH.out.oh (HH.out.oh.ne HH.out.ls (by decide)) (HH.out.oh.ne hEl.1 (by decide)), mv HH.out.cf (HH.out.cf.ne HH.out.ls (by decide)) (HH.out.cf.ne hEl.1 (by decide)), ?_, fun i hi => ?_, fun i hi => ?_, fun i j hi hj hij => ?_, fun i j hi hj hij => ?_, HH.out.low⟩, HR.out.2.2.2.2⟩
    · have := HR.out.2.1
      rw [if_neg (by omega), if_neg (by omega), upd_ne e n _ (by omega), show n + 1 - 1 = n by omega, upd_at]
      exact this
    · rcases Nat.lt_or_ge i n with hlt | hge
      · rw [upd_ne e n _ (by omega), upd_ne t n _ (by omega), upd_ne e n _ (i := i - 1) (by omega)]
        by_cases hil : i = n - 1
        · subst hil
          rw [if_pos (by omega), show n - 1 + 1 = n by omega, upd_at]
          exact ⟨HR.out.2.2.1, hEl.2⟩
        · have hi1 := HH.out.el i hlt
          rw [if_pos (by omega)] at hi1
          rw [if_pos (by omega), upd_ne e n _ (by omega)]
          exact ⟨mv hi1.1 (hi1.1.ne HH.out.ls (by decide)) (fun h0 => hil (HH.out.inje i (n - 1) hlt (by omega) h0)), hi1.2⟩
      · obtain rfl : i = n := by omega
        rw [upd_at, upd_at, if_neg (by omega), if_neg hn0, upd_ne e i _ (i := i - 1) (by omega)]
        exact ⟨HR.out.1, hBw⟩
    · rcases Nat.lt_or_ge i n with hlt | hge
      · rw [upd_ne t n _ (by omega), upd_ne vr n _ (by omega), upd_ne src n _ (by omega)]
        obtain ⟨v', tv', g1, g2, g3⟩ := HH.out.it i hlt
        exact ⟨v', tv', mv g1 (g1.ne HH.out.ls (by decide)) (g1.ne hEl.1 (by decide)), g2.move HR.out.2.2.2.2.rows, g3⟩
      · obtain rfl : i = n := by omega
        rw [upd_at, upd_at, upd_at]
        exact ⟨v, tv, mv HT.out.1 (HT.out.1.ne HH.out.ls (by decide)) (HT.out.1.ne hEl.1 (by decide)), HT.out.2.1.move HR.out.2.2.2.2.rows, HT.out.2.2⟩
    · rcases Nat.lt_or_ge i n with hlt | hge
      · rw [upd_ne e n _ (by omega)] at hij
        rcases Nat.lt_or_ge j n with hjt | hjge
        · rw [upd_ne e n _ (by omega)] at hij; exact HH.out.inje i j hlt hjt hij
        · obtain rfl : j = n := by omega
          rw [upd_at] at hij; have := elt i hlt; omega
      · obtain rfl : i = n := by omega
        rw [upd_at] at hij
        rcases Nat.lt_or_ge j i with hjt | hjge
        · rw [upd_ne e i _ (by omega)] at hij; have := elt j hjt; omega
        · omega
    · rcases Nat.lt_or_ge i n with hlt | hge
      · rw [upd_ne t n _ (by omega)] at hij
        rcases Nat.lt_or_ge j n with hjt | hjge
        · rw [upd_ne t n _ (by omega)] at hij; exact HH.out.injt i j hlt hjt hij
        · obtain rfl : j = n := by omega
          rw [upd_at] at hij; exact absurd hij (HNW.out i hlt)
      · obtain rfl : i = n := by omega
        rw [upd_at] at hij
        rcases Nat.lt_or_ge j i with hjt | hjge
        · rw [upd_ne t i _ (by omega)] at hij; exact absurd hij.symm (HNW.out j hjt)
        · omega
end Go.Proofs.YtdinikcfhpfojaaDoor.H
