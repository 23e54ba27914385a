/- A line with a mask, as it is shown (impl.ShownLine): what it tells; for prompts and lines of printable ASCII of at most 1000000 signs, the cursor at the line's end, widths that are more than the prompt's. -/
import Derived.Test.YtdinikcfhpfojaaDoorQHCf
import Derived.Test.YtdinikcfhpfojaaDoorQHRec
import Derived.Test.YtdinikcfhpfojaaDoorQHCaught
import Derived.Test.YtdinikcfhpfojaaDoorQXPure
import Derived.Test.YtdinikcfhpfojaaDoorQPWidthAllx1
namespace Go.Proofs.YtdinikcfhpfojaaDoor.H
open Go.RowKit Go.Proofs.YtdinikcfhpfojaaDoorW.PrintWords Go.Proofs.YtdinikcfhpfojaaDoorW.PrintLast Go.Proofs.YtdinikcfhpfojaaDoor.R Go.Proofs.YtdinikcfhpfojaaDoor.X
set_option linter.unusedVariables false
set_option linter.unusedSimpArgs false
attribute [local go_sem ↓] Go.wp_at_zero Go.wp_at_succ
abbrev PtS (b : Nat) : Value := .pointer (some ⟨b, 0, none⟩)
/-- Printable ASCII. -/
def Pln (l : List Int) : Prop := ∀ x ∈ l, 32 ≤ x ∧ x ≤ 126
theorem cf_tells (l : List Int) (hl : l.length ≤ 1000000) (hp : Pln l) : Ev (fun k => readline_Runes_ColorFilter.f k l) l := by
  unfold readline_Runes_ColorFilter.f
  refine ev_ifp (by omega) ?_
  suffices h : ∀ d i : Nat, i + d = l.length → Ev (fun k => readline_Runes_ColorFilter.l0 k l (l.take i) (i : Int)) l by
    exact h l.length 0 (by omega)
  intro d
  induction d with
  | zero =>
    intro i hi
    rw [List.take_of_length_le (by omega)]
    refine Ev.step (fun k => by rw [readline_Runes_ColorFilter.l0]) ?_
    exact ev_ifn (by omega) (Ev.now _)
  | succ d ih =>
    intro i hi
    have hil : i < l.length := by omega
    have hr := rd_nat l i hil
    have h2 := ih (i + 1) (by omega)
    rw [List.take_succ_eq_append_getElem hil, show ((i + 1 : Nat) : Int) = (i : Int) + 1 by omega] at h2
    have hx := hp l[i] (List.getElem_mem _)
    refine Ev.step (fun k => by rw [readline_Runes_ColorFilter.l0, hr]) ?_
    refine ev_ifp (by omega) (ev_ifp (by omega) (ev_ifn (by omega) ?_))
    refine Ev.step (fun k => by rw [readline_Runes_ColorFilter.j1, hr, w64 (x := (i : Int) + 1) (by omega) (by omega)]) ?_
    exact ev_ifn Bool.false_ne_true (ev_ifp (by omega) (ev_ifp (by omega) (ev_ifp (by simp; omega) h2)))
theorem wa_tells (l : List Int) (hl : l.length ≤ 1000000) (hp : Pln l) : Ev (fun k => PWidthAll.readline_Runes_WidthAll.f k l) (l.length : Int) := by
  unfold PWidthAll.readline_Runes_WidthAll.f
  suffices h : ∀ d i : Nat, i + d = l.length → Ev (fun k => PWidthAll.readline_Runes_WidthAll.l0 k l (i : Int) (i : Int)) (l.length : Int) by
    exact h l.length 0 (by omega)
  intro d
  induction d with
  | zero =>
    intro i hi
    refine Ev.step (fun k => by rw [PWidthAll.readline_Runes_WidthAll.l0]) ?_
    exact ev_ifn (by omega) (ev_some (by omega))
  | succ d ih =>
    intro i hi
    have hil : i < l.length := by omega
    have hr := rd_nat l i hil
    have h2 := ih (i + 1) (by omega)
    rw [show ((i + 1 : Nat) : Int) = (i : Int) + 1 by omega] at h2
    have hx := hp l[i] (List.getElem_mem _)
    have hw : PWidthAll.readline_Runes_Width.f l[i] = some 1 := by
      unfold PWidthAll.readline_Runes_Width.f
      rw [if_neg (by omega), if_neg (by omega), if_neg (by omega)]
    refine Ev.step (fun k => by rw [PWidthAll.readline_Runes_WidthAll.l0, hr, hw, w64 (x := (i : Int) + 1) (by omega) (by omega)]) ?_
    exact ev_ifp (by omega) (ev_ifp (by omega) (ev_bind (ev_const rfl) (by rw [w64 (by omega) (by omega)]; exact h2)))
/-- The buffer's record: the row, the cursor, the prompt, the mask, the width. -/
def rbl (bv : Value) (i : Int) (pv : Value) (mask width : Int) : List Value := [bv, .int .i64 i, pv, .int .i64 0, .bool false, .bool true, .int .i32 mask, .int .i64 width, .pointer none, .string ⟨#[]⟩, .slice none 0 0]
set_option maxHeartbeats 4000000 in
theorem promptLen_calls (m : Nat) (bv : Value) (i mask width : Int) (A : Option Addr) (c : Nat) (xs : List Int) (w : World) (hm : Rec w m (rbl bv i (.slice A xs.length c) mask width) 89) (hC : Kd.C (Kd.int .i32) w A xs.length xs) (hc : xs.length ≤ c) (hl : xs.length ≤ 1000000) (hp : Pln xs) :
    Calls Tryd.prog 118 #[PtS m] w fun e w' => e = .returned (.int .i64 xs.length) ∧ Below w.heap.size w w' := by
  obtain ⟨k1, hcf⟩ := (cf_tells xs hl hp).rounds
  obtain ⟨k2, hwa⟩ := (wa_tells xs hl hp).rounds
  have hml := hm.lt
  have HM := Lib.hid (And.intro hm (And.intro hC hc))
  have p2 := hm.cell 2 rfl
  clear hm hC hc
  go_enter Tryd.func118, Tryd.ntmps118
  go_wp2_with fail
  refine wp_region_noPanic ?_
  refine wp_region_held_drew (S := fun w' => w'.cell? ⟨m, 2, none⟩ = some (.slice A xs.length c)) (by kernel_rfl) p2 (fun hHeld => ?_)
  refine wpAnyH_take (i := 0) (v := ?v0) (by simp only [List.getElem?_toArray, List.getElem?_cons_succ, List.getElem?_cons_zero]; rfl) (by kernel_rfl) (by kernel_rfl) (by kernel_rfl) (fun _ _ _ h => h) (Or.inl ⟨by rfl, ?h0⟩) (by assumption) ?_
  case h0 => (intro w hSw; (try dsimp only at hSw); go_simp; try with_reducible rfl)
  try simp only [Act.put, List.setIfInBounds_toArray, List.set_cons_zero, List.set_cons_succ]
  refine wpAnyH_take (i := 1) (v := ?v1) (by simp only [List.getElem?_toArray, List.getElem?_cons_succ, List.getElem?_cons_zero]; rfl) (by kernel_rfl) (by kernel_rfl) (by kernel_rfl) (fun _ _ _ h => h) (Or.inl ⟨by rfl, ?h1⟩) (by assumption) ?_
  case h1 => (intro w hSw; (try dsimp only at hSw); go_simp; try with_reducible rfl)
  try simp only [Act.put, List.setIfInBounds_toArray, List.set_cons_zero, List.set_cons_succ]
  refine wpAnyH_take (i := 2) (v := ?v2) (by simp only [List.getElem?_toArray, List.getElem?_cons_succ, List.getElem?_cons_zero]; rfl) (by kernel_rfl) (by kernel_rfl) (by kernel_rfl) (fun _ _ _ h => h) (Or.inl ⟨by rfl, ?h2⟩) (by assumption) ?_
  case h2 => (intro w hSw; (try dsimp only at hSw); go_simp; try with_reducible rfl)
  try simp only [Act.put, List.setIfInBounds_toArray, List.set_cons_zero, List.set_cons_succ]
  refine wpAnyH_take (i := 3) (v := ?v3) (by simp only [List.getElem?_toArray, List.getElem?_cons_succ, List.getElem?_cons_zero]; rfl) (by kernel_rfl) (by kernel_rfl) (by kernel_rfl) (fun _ _ _ h => h) (Or.inl ⟨by rfl, ?h3⟩) (by assumption) ?_
  case h3 => (intro w hSw; (try dsimp only at hSw); go_simp; try with_reducible rfl)
  try simp only [Act.put, List.setIfInBounds_toArray, List.set_cons_zero, List.set_cons_succ]
  refine wpAnyH_take (i := 4) (v := ?v4) (by simp only [List.getElem?_toArray, List.getElem?_cons_succ, List.getElem?_cons_zero]; rfl) (by kernel_rfl) (by kernel_rfl) (by kernel_rfl) (fun _ _ _ h => h) (Or.inl ⟨by rfl, ?h4⟩) (by assumption) ?_
  case h4 => (intro w hSw; (try dsimp only at hSw); go_simp; try with_reducible rfl)
  try simp only [Act.put, List.setIfInBounds_toArray, List.set_cons_zero, List.set_cons_succ]
  refine wpAnyH_take (i := 5) (v := ?v5) (by simp only [List.getElem?_toArray, List.getElem?_cons_succ, List.getElem?_cons_zero]; rfl) (by kernel_rfl) (by kernel_rfl) (by kernel_rfl) (fun _ _ _ h => h) (Or.inl ⟨by rfl, ?h5⟩) (by assumption) ?_
  case h5 => (intro w hSw; (try dsimp only at hSw); go_simp; try with_reducible rfl)
  try simp only [Act.put, List.setIfInBounds_toArray, List.set_cons_zero, List.set_cons_succ]
  refine wpAnyH_ready (rs := [6]) (by kernel_rfl) (by simp) ?_
  refine AllReadyH.cons (o := _) rfl (fun K hK => ?_) AllReadyH.nil
  go_simp
  refine (readline_Runes_ColorFilter.calls k1 A c xs xs _ (Kd.C_drew HM.out.2.1) HM.out.2.2 hcf).mono ?_
  rintro e w1 ⟨v1, rfl, hR1, hb1⟩
  obtain ⟨A1, c1, rfl⟩ := Kd.R_slice hR1
  have q2 : w1.cell? ⟨m, 2, none⟩ = some (.slice A xs.length c) := (hb1.cell (p := ⟨m, 2, none⟩) (by show m < w.drew.heap.size; exact hml)).trans p2
  refine hK.out _ _ q2 (fun hHeld2 => ?_)
  clear hK K hHeld
  try simp only [Act.put, List.setIfInBounds_toArray, List.set_cons_zero, List.set_cons_succ]
  refine wpAnyH_ready (rs := [7]) (by kernel_rfl) (by simp) ?_
  refine AllReadyH.cons (o := _) rfl (fun K hK => ?_) AllReadyH.nil
  go_simp
  have hR1' := Kd.R_reads' hR1
  refine (PWidthAll.readline_Runes_WidthAll.calls k2 A1 c1 xs _ _ hR1'.2.2 hR1'.2.1 hwa).mono ?_
  rintro e w2 ⟨rfl, hb2⟩
  have q3 : w2.cell? ⟨m, 2, none⟩ = some (.slice A xs.length c) := (hb2.cell (p := ⟨m, 2, none⟩) (by show m < w1.heap.size; exact Nat.lt_of_lt_of_le hml hb1.size)).trans q2
  have HB2 := Lib.hid (show Below w.heap.size w w2 from below_step (((Below.refl w.heap.size w).drew).trans hb1) hb2)
  refine hK.out _ _ q3 (fun hHeld3 => ?_)
  clear hK K hHeld2
  try simp only [Act.put, List.setIfInBounds_toArray, List.set_cons_zero, List.set_cons_succ]
  refine wpAnyH_take (i := 8) (v := ?v8) (by simp only [List.getElem?_toArray, List.getElem?_cons_succ, List.getElem?_cons_zero]; rfl) (by kernel_rfl) (by kernel_rfl) (by kernel_rfl) (fun _ _ _ h => h) (Or.inl ⟨by rfl, ?h8⟩) (by assumption) ?_
  case h8 => (intro w hSw; (try dsimp only at hSw); go_simp; try with_reducible rfl)
  try simp only [Act.put, List.setIfInBounds_toArray, List.set_cons_zero, List.set_cons_succ]
  refine wpAnyH_done (by kernel_rfl) ?_ _
  refine NoPanic.normal ?_
  go_wp2
  go_ret
  exact ⟨rfl, HB2.out⟩
theorem PromptLen_calls (m : Nat) (bv : Value) (i mask width : Int) (A : Option Addr) (c : Nat) (xs : List Int) (w : World) (hm : Rec w m (rbl bv i (.slice A xs.length c) mask width) 89) (hC : Kd.C (Kd.int .i32) w A xs.length xs) (hc : xs.length ≤ c) (hl : xs.length ≤ 1000000) (hp : Pln xs) :
    Calls Tryd.prog 78 #[PtS m] w fun e w' => e = .returned (.int .i64 xs.length) ∧ Below w.heap.size w w' := by
  have H := Lib.hid (promptLen_calls m bv i mask width A c xs w hm hC hc hl hp)
  clear hm hC hc hl hp
  go_enter Tryd.func78, Tryd.ntmps78
  go_wp2_with (go_at_call 118; refine H.out.mono ?_; rintro e w1 ⟨rfl, hb⟩)
  go_ret
  exact ⟨rfl, hb⟩
theorem func_neq_nil (g : Nat) (caps : Array Value) (w : World) : (binOp .neq 1 (.func (.func g) #[] caps) .nilFunc).run Tryd.prog w = .ok (.bool true) w := by
  have h : ∀ d : Nat, (Op.equalIn (d + 1) 1 (.func (.func g) #[] caps) .nilFunc).run Tryd.prog w = .ok false w := fun d => by
    simp [Op.equalIn, run_underlying Tryd.underlying1]
  simp only [binOp]
  simp [Op.equal, Op.maxDepth, h 9999]
theorem Refresh_calls (g : Nat) (caps : Array Value) (p : Value) (w : World) (R : World → Prop) (hcf : ∀ args w, (callFunc g args).run Tryd.prog w = .ok (.enter g args) w)
    (hg : Calls Tryd.prog g caps w fun e w' => e = .returned (.tuple #[]) ∧ R w') : Calls Tryd.prog 60 #[p, .func (.func g) #[] caps] w fun e w' => e = .returned (.tuple #[]) ∧ R w' := by
  have HG := Lib.hid hg
  clear hg
  have hn := func_neq_nil g caps
  go_enter Tryd.func60, Tryd.ntmps60
  go_wp2_with ((with_reducible refine HG.out.mono ?_); rintro e w1 ⟨rfl, hR1⟩)
  go_end0
  exact ⟨rfl, hR1⟩
theorem enter77 : ∀ args w, (callFunc 77 args).run Tryd.prog w = .ok (.enter 77 args) w := fun args w => enters_ Tryd.func77 (by kernel_rfl) rfl args w
theorem enter61 : ∀ args w, (callFunc 61 args).run Tryd.prog w = .ok (.enter 61 args) w := fun args w => enters_ Tryd.func61 (by kernel_rfl) rfl args w
theorem closure77_calls (q m : Nat) (bv : Value) (i mask width : Int) (A : Option Addr) (c : Nat) (xs : List Int) (w : World) (hq : One w q (PtS m) 68) (hm : Rec w m (rbl bv i (.slice A xs.length c) mask width) 89) (hC : Kd.C (Kd.int .i32) w A xs.length xs) (hc : xs.length ≤ c) (hl : xs.length ≤ 1000000) (hp : Pln xs) :
    Calls Tryd.prog 77 #[PtS q] w fun e w' => e = .returned (.tuple #[]) ∧ Below w.heap.size w w' := by
  have H := Lib.hid (PromptLen_calls m bv i mask width A c xs w hm hC hc hl hp)
  have cq := hq.cell
  clear hm hC hc hl hp hq
  go_enter Tryd.func77, Tryd.ntmps77
  go_wp2_with (go_at_call 78; refine H.out.mono ?_; rintro e w1 ⟨rfl, hb⟩)
  go_end0
  exact ⟨rfl, hb⟩
theorem caughtPl_calls (q m : Nat) (bv : Value) (i mask width : Int) (A : Option Addr) (c : Nat) (xs : List Int) (w : World) (hq : One w q (PtS m) 68) (hm : Rec w m (rbl bv i (.slice A xs.length c) mask width) 89) (hC : Kd.C (Kd.int .i32) w A xs.length xs) (hc : xs.length ≤ c) (hl : xs.length ≤ 1000000) (hp : Pln xs) :
    Calls Tryd.prog 39 #[.func (.func 77) #[] #[PtS q]] w fun e w' => e = .returned (.bool true) ∧ Below w.heap.size w w' := by
  refine (caught_calls 77 _ w (fun w' => Below w.heap.size w w') enter77 ?_).mono ?_
  · have hb0 : Below w.heap.size w (w.alloc (.cells #[.bool false] 4)) := (Below.refl _ _).alloc (Nat.le_refl _) _
    refine (closure77_calls q m bv i mask width A c xs _ (hq.alloc _) (hm.alloc _) (Kd.C_below hC hb0) hc hl hp).mono ?_
    rintro e w' ⟨rfl, hb⟩
    exact ⟨rfl, (One.new w (.bool false) 4).stays hb, below_step hb0 hb⟩
  · rintro e w' ⟨rfl, w1, hb, ho, rfl⟩
    exact ⟨rfl, hb.setCell (Nat.le_refl _) _⟩
theorem C_row (w : World) (b : Nat) (l : List Int) (hl : l.length ≤ 9223372036854775807) (h : ∀ j, j < l.length → w.cell? ⟨b, j, none⟩ = some (.int .i32 (l.getD j 0))) : Kd.C (Kd.int .i32) w (some ⟨b, 0, none⟩) l.length l := by
  refine Kd.C_of_reads (d := (0 : Int)) ⟨rfl, hl, fun _ => ⟨_, rfl, fun j hj => ?_⟩⟩
  have := h j hj
  cases j with
  | zero => simpa [Addr.add] using this
  | succ j => simpa [Addr.add] using this
set_option maxHeartbeats 2000000 in
theorem NewB_calls (p : ByteArray) (mask width : Int) (w : World) (hp : Pln (ints p)) (ha : Asc p) (hl : p.size ≤ 1000000) :
    Calls Tryd.prog 36 #[.string p, .int .i64 width, .agg #[.int .i64 0, .bool false, .bool true, .int .i32 mask]] w fun e w' => ∃ m b c, e = .returned (PtS m) ∧ Rec w' m (rbl (.slice none 0 0) 0 (.slice (some ⟨b, 0, none⟩) (ints p).length c) mask width) 89 ∧ Kd.C (Kd.int .i32) w' (some ⟨b, 0, none⟩) (ints p).length (ints p) ∧ (ints p).length ≤ c ∧ w.heap.size ≤ m ∧ w.heap.size ≤ b ∧ b ≠ m ∧ Below w.heap.size w w' := by
  have hcv := fun W : World => runes_run (P := Tryd.prog) W 9 66 21 p (by kernel_rfl) (by kernel_rfl) (by kernel_rfl) (by omega)
  rw [runesOf_asc ha] at hcv
  have hln := ints_length p
  have hpl := Lib.hid (And.intro hp ha)
  clear hp ha
  go_enter Tryd.func36, Tryd.ntmps36
  go_wp2
  go_ret
  have hz : (w.alloc (.cells #[.int .i64 0, .bool false, .bool true, .int .i32 mask] 71)).heap.size = w.heap.size + 1 := by simp
  refine ⟨w.heap.size + 2, w.heap.size + 1, _, rfl, by rw [hln]; exact (Rec.at_ _ (rbl (.slice none 0 0) 0 (.slice (some ⟨w.heap.size + 1, 0, none⟩) p.size _) mask width) 89 (by simp)).drew, ?_, ?_, by omega, by omega, by omega, ((((Below.refl _ _).alloc (Nat.le_refl _) _).alloc (by simp) _).alloc (by simp; omega) _).drew⟩
  · refine C_row _ _ _ (by omega) fun j hj => ?_
    refine (((Rec.at_ (b := w.heap.size + 1) (w.alloc (.cells #[.int .i64 0, .bool false, .bool true, .int .i32 mask] 71)) (runeCells (ints p) _) 21 (by simp)).alloc _).drew).cell j (runeCells_at _ _ j hj)
  · rw [hln]; exact grownCap_ge _ _ _ _
theorem set_closure (qa q b m : Nat) (bv pv : Value) (i0 i mask width : Int) (A : Option Addr) (n c : Nat) (w : World) (ha : One w qa (.slice A n c) 66) (hq : One w q (PtS m) 68) (hb : One w b (.int .i64 i) 3) (hqm : q ≠ m) (hbm : b ≠ m) (hm : Rec w m (rbl bv i0 pv mask width) 89) :
    Calls Tryd.prog 61 #[PtS qa, PtS q, PtS b] w fun e w' => e = .returned (.tuple #[]) ∧ w' = (w.setCell ⟨m, 0, none⟩ (.slice A n c)).setCell ⟨m, 1, none⟩ (.int .i64 i) := by
  have ca := ha.cell
  have c0 := hq.cell
  have cb := hb.cell
  have k0 := hm.cell 0 rfl
  have z0 := hm.free 0
  have hm1 := hm.set 0 (.slice A n c)
  have c1 := (hq.other (a := ⟨m, 0, none⟩) (by show q ≠ m; exact hqm) (.slice A n c)).cell
  have c2 := (hb.other (a := ⟨m, 0, none⟩) (by show b ≠ m; exact hbm) (.slice A n c)).cell
  have k1 := hm1.cell 1 rfl
  have z1 := hm1.free 1
  clear ha hq hb hm hm1
  go_enter Tryd.func61, Tryd.ntmps61
  go_wp2
  go_end0
  exact ⟨rfl, rfl⟩
/-- Nothing but block m is turned. -/
def Kp (m : Nat) (w w' : World) : Prop := Below m w w' ∧ ∀ k, k < w.heap.size → k ≠ m → w'.heap[k]? = w.heap[k]?
set_option maxHeartbeats 2000000 in
theorem SetWithIdx_calls (m : Nat) (bv pv : Value) (i0 i mask width : Int) (A : Option Addr) (n c : Nat) (w : World) (hm : Rec w m (rbl bv i0 pv mask width) 89) :
    Calls Tryd.prog 37 #[PtS m, .int .i64 i, .slice A n c] w fun e w' => e = .returned (.tuple #[]) ∧ Rec w' m (rbl (.slice A n c) i pv mask width) 89 ∧ Kp m w w' := by
  have hml := hm.lt
  have o0 := ((One.new w (PtS m) 68).alloc (.cells #[.int .i64 i] 3)).alloc (.cells #[.slice A n c] 66)
  have o1 := (One.at_ (b := w.heap.size + 1) (w.alloc (.cells #[PtS m] 68)) (.int .i64 i) 3 (by simp)).alloc (.cells #[.slice A n c] 66)
  have o2 := One.at_ (b := w.heap.size + 2) ((w.alloc (.cells #[PtS m] 68)).alloc (.cells #[.int .i64 i] 3)) (.slice A n c) 66 (by simp)
  have h3 := ((hm.alloc (.cells #[PtS m] 68)).alloc (.cells #[.int .i64 i] 3)).alloc (.cells #[.slice A n c] 66)
  have b1 : Below w.heap.size w (((w.alloc (.cells #[PtS m] 68)).alloc (.cells #[.int .i64 i] 3)).alloc (.cells #[.slice A n c] 66)) := (((Below.refl _ _).alloc (Nat.le_refl _) _).alloc (by simp) _).alloc (by simp; omega) _
  have HC := Lib.hid (Refresh_calls 61 #[PtS (w.heap.size + 2), PtS w.heap.size, PtS (w.heap.size + 1)] (PtS m) _ _ enter61 (set_closure (w.heap.size + 2) w.heap.size (w.heap.size + 1) m bv pv i0 i mask width A n c _ o2 o0 o1 (by omega) (by omega) h3))
  have H3 := Lib.hid (And.intro h3 b1)
  have c0 := o0.cell
  have hmf := fun (fn : Fn) (first cap : Array Value) (w : World) => made_func (P := Tryd.prog) fn first cap w
  clear o0 o1 o2 hm h3 b1
  go_enter Tryd.func37, Tryd.ntmps37
  go_wp2_with (go_at_call 60; refine HC.out.mono ?_; rintro e w1 ⟨rfl, rfl⟩)
  go_end0
  refine ⟨rfl, (H3.out.1.set 0 (.slice A n c)).set 1 (.int .i64 i), ?_, fun k hk hkm => ?_⟩
  · exact below_put (below_put (H3.out.2.mono (Nat.le_of_lt hml)) (Nat.le_refl m) 0 _) (Nat.le_refl m) 1 _
  · rw [Below.heap_setCell _ ⟨m, 1, none⟩ _ k hkm, Below.heap_setCell _ ⟨m, 0, none⟩ _ k hkm]
    exact H3.out.2.block k hk
end Go.Proofs.YtdinikcfhpfojaaDoor.H
