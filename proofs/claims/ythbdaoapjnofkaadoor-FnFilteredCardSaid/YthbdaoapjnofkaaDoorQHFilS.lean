/- go-prompt's filterSuggestions over any function: what it tells; lists of at most 4398046511104 suggestions, texts of ASCII where the case doesn't count. -/
import Derived.Test.YthbdaoapjnofkaaDoorQPFnFilteredx0
import Derived.Test.YthbdaoapjnofkaaDoorQShelf
namespace Go.Proofs.YthbdaoapjnofkaaDoor.H
open Go.RowKit Go.Proofs.YthbdaoapjnofkaaDoorW.PrintWords Go.Proofs.YthbdaoapjnofkaaDoorW.PrintLast Go.Proofs.YthbdaoapjnofkaaDoorW.PrintMore Go.Proofs.YthbdaoapjnofkaaDoor.R Go.Proofs.YthbdaoapjnofkaaDoor.PFnFiltered
attribute [local go_sem] max2_int min2_int max_two min_two max_three min_three max_four min_four   -- for this text's walks alone
set_option linter.unusedVariables false
set_option linter.unusedSimpArgs false
def upA (s : ByteArray) : ByteArray := ⟨(Lib.toUpperA s.data.toList).toArray⟩
def strings_ToUpper.f (s : ByteArray) : Option ByteArray := if s.size ≤ 140737488355328 ∧ (∀ b ∈ s.data.toList, b.toNat < 128) then some (upA s) else none
theorem strings_ToUpper.calls (s r : ByteArray) (w : World) (h : strings_ToUpper.f s = some r) : Calls Tryd.prog 100 #[.string s] w fun e w' => e = .returned (.string r) ∧ Below w.heap.size w w' := by
  unfold strings_ToUpper.f at h
  split at h
  · rename_i hc
    obtain rfl := Option.some.inj h
    exact Tryd.strings_ToUpper_ascii s w hc.1 (fun j b hb => hc.2 b (List.mem_of_getElem? hb))
  · exact absurd h (by simp)
section
variable {P : Program} {ops : Array Oper} {Q : Exit → Act → World → Prop} {rest : List Oper} {a : Act}
/-- A call of a function value without anything captured. -/
theorem goesLV_ {oi : Oper} {w : World} (N : Option Tmp) (hd : oi.dst = N) (hg : oi.guard = none) {f : FuncId} {fn : Func} {x : Operand} {xas : Array Operand} {ts : Array TypeId} (hf : P.funcs[f]? = some fn) (hname : (fn.name == "runtime.NumGoroutine") = false) (hb : fn.body.isSome = true) (args : Array Value)
    (hop : oi.op = .call { callee := .value x, args := xas, argTypes := ts }) (hx : a.eval x = .func (.func f) #[] #[]) (hargs : xas.map a.eval = args)
    (h : Calls P f args w fun e w' => ∃ v, e = .returned v ∧ wpList P ops Q rest (a.put N v) w') : wpList P ops Q (oi :: rest) a w := by
  refine wpList_plain hg fun K hK => ?_
  have he := enters_ hf hname hb args w
  have hrun : (execOp a.eval oi).run P w = .ok (.enter f args) w := by
    unfold execOp
    simp [hop, resolve, Deferred.ofValue, invoke, hx, hargs, he]
  unfold Oper.wp
  rw [hrun, Oper.upon_enter]
  refine h.mono fun e w'' hh => ?_
  obtain ⟨v, rfl, hk⟩ := hh
  subst hd
  exact hK _ _ hk
/-- A row without elements, with room. -/
theorem R_make0 {α : Type} (d : Kd α) {w0 W : World} (base e : Nat) {o : Oper} (hgd : o.guard = none) {N : Tmp} (hd : o.dst = some N) (t : TypeId) (x y : Operand) (ho : o.op = .makeSlice t x y) (c : Nat) (hx : a.eval x = .int .i64 0) (hy : a.eval y = .int .i64 (c : Int))
    (ht : P.underlying t = some (.slice e)) (z : Value) (bytes : Nat) (hinfo : (P.info? e).map (fun i => (i.zero, i.size, i.bytes)) = some (some z, d.sz, bytes)) (hc : bytes * c ≤ 281474976710656 ∧ c ≤ maxLen) (HB : Below base w0 W) (hbase : base ≤ W.heap.size)
    (h : ∀ v1 w1, d.R e w1 base (fun _ => True) v1 [] → Below base w0 w1 → wpList P ops Q rest (a.put o.dst v1) w1) : wpList P ops Q (o :: rest) a W := by
  obtain ⟨i0, hi, hzz⟩ := Option.map_eq_some_iff.1 hinfo
  simp only [Prod.mk.injEq] at hzz
  obtain ⟨hz0, hz1, hz2⟩ := hzz
  obtain ⟨w1, hrun, hown, hgr⟩ := run_make_own (P := P) W base t e i0 z d.sz ht hi hz0 hz1 .i64 .i64 c (by rw [hz2]; exact hc.1) hc.2 hbase
  refine wpList_plain hgd fun K hK => ?_
  have hr : (execOp a.eval o).run P W = .ok (.value (.slice (some ⟨W.heap.size, 0, none⟩) 0 c)) w1 := by simp [execOp, ho, hx, hy, hrun]
  unfold Oper.wp
  rw [hr]
  exact hK _ _ (h _ _ ⟨fun _ _ => trivial, [], hown, Reps.none _ _⟩ (pw_below_grown HB none hbase hgr (fun k hk => by cases hk)))
end
/-! ### goprompt_filterSuggestions: function 86 -/
mutual
def goprompt_filterSuggestions.j0 (pass : ByteArray → ByteArray → Option Bool) : Nat → List (S96) → ByteArray → Bool → Option ((List (S96)))
  | 0, _, _, _ => none
  | k + 1, x0, x1, x2 => if x0.length ≤ 4398046511104 then goprompt_filterSuggestions.l0 pass k x0 x1 x2 ([] : List (S96)) (x0.length : Int) 0 else none
def goprompt_filterSuggestions.l0 (pass : ByteArray → ByteArray → Option Bool) : Nat → List (S96) → ByteArray → Bool → List (S96) → Int → Int → Option ((List (S96)))
  | 0, _, _, _, _, _, _ => none
  | k + 1, x0, x1, x2, x9, x22, x23 => if x23 < x22 then (if 0 ≤ x23 then (if x23 < (x0.length : Int) then (if x2 = true then ((strings_ToUpper.f ((rd_T96 x0 x23).f0)).bind fun t103 => ((pass t103 x1).bind fun t104 => (if t104 = true then (if x9.length < 4398046511104 then (goprompt_filterSuggestions.l0 pass k x0 x1 x2 (x9 ++ [(⟨(rd_T96 x0 x23).f0, (rd_T96 x0 x23).f1⟩ : S96)]) x22 (wrap64 (x23 + 1))) else (none)) else (goprompt_filterSuggestions.l0 pass k x0 x1 x2 x9 x22 (wrap64 (x23 + 1)))))) else ((pass ((rd_T96 x0 x23).f0) x1).bind fun t109 => (if t109 = true then (if x9.length < 4398046511104 then (goprompt_filterSuggestions.l0 pass k x0 x1 x2 (x9 ++ [(⟨(rd_T96 x0 x23).f0, (rd_T96 x0 x23).f1⟩ : S96)]) x22 (wrap64 (x23 + 1))) else (none)) else (goprompt_filterSuggestions.l0 pass k x0 x1 x2 x9 x22 (wrap64 (x23 + 1)))))) else (none)) else (none)) else (some x9)
end
def goprompt_filterSuggestions.f (pass : ByteArray → ByteArray → Option Bool) (k : Nat) (l0 : List (S96)) (a1 : ByteArray) (a2 : Bool) : Option ((List (S96))) := if a1.toList = ([] : List UInt8) then (some l0) else (if a2 = true then ((strings_ToUpper.f a1).bind fun t101 => (goprompt_filterSuggestions.j0 pass k l0 t101 a2)) else (goprompt_filterSuggestions.j0 pass k l0 a1 a2))
theorem goprompt_filterSuggestions.mono_l (pass : ByteArray → ByteArray → Option Bool) : ∀ k, (∀ y0 y1 y2, LeO (goprompt_filterSuggestions.j0 pass k y0 y1 y2) (goprompt_filterSuggestions.j0 pass (k + 1) y0 y1 y2)) ∧ (∀ y0 y1 y2 y3 y4 y5, LeO (goprompt_filterSuggestions.l0 pass k y0 y1 y2 y3 y4 y5) (goprompt_filterSuggestions.l0 pass (k + 1) y0 y1 y2 y3 y4 y5))
  | 0 => ⟨fun _ _ _ r h => by simp [goprompt_filterSuggestions.j0] at h, fun _ _ _ _ _ _ r h => by simp [goprompt_filterSuggestions.l0] at h⟩
  | k + 1 => by
    obtain ⟨ih0, ih1⟩ := goprompt_filterSuggestions.mono_l pass k
    refine ⟨?_, ?_⟩
    · intro y0 y1 y2
      unfold goprompt_filterSuggestions.j0
      repeat' first
      | (with_reducible exact ih0 _ _ _)
      | (with_reducible exact ih1 _ _ _ _ _ _)
      | (with_reducible exact LeO.refl _)
      | (with_reducible exact LeO.none _)
      | (with_reducible refine LeO.ite ?_ ?_)
      | (with_reducible refine LeO.bind ?_ (fun _ => ?_))
      | exact ih0 _ _ _
      | exact ih1 _ _ _ _ _ _
      | exact LeO.none _
      | refine LeO.ite ?_ ?_
      | refine LeO.bind ?_ (fun _ => ?_)
    · intro y0 y1 y2 y3 y4 y5
      unfold goprompt_filterSuggestions.l0
      repeat' first
      | (with_reducible exact ih0 _ _ _)
      | (with_reducible exact ih1 _ _ _ _ _ _)
      | (with_reducible exact LeO.refl _)
      | (with_reducible exact LeO.none _)
      | (with_reducible refine LeO.ite ?_ ?_)
      | (with_reducible refine LeO.bind ?_ (fun _ => ?_))
      | exact ih0 _ _ _
      | exact ih1 _ _ _ _ _ _
      | exact LeO.none _
      | refine LeO.ite ?_ ?_
      | refine LeO.bind ?_ (fun _ => ?_)
theorem goprompt_filterSuggestions.mono (pass : ByteArray → ByteArray → Option Bool) : ∀ a0 a1 a2 k, LeO (goprompt_filterSuggestions.f pass k a0 a1 a2) (goprompt_filterSuggestions.f pass (k + 1) a0 a1 a2) := by
  intro a0 a1 a2 k
  obtain ⟨ih0, ih1⟩ := goprompt_filterSuggestions.mono_l pass k
  unfold goprompt_filterSuggestions.f
  repeat' first
      | (with_reducible exact ih0 _ _ _)
      | (with_reducible exact ih1 _ _ _ _ _ _)
      | (with_reducible exact LeO.refl _)
      | (with_reducible exact LeO.none _)
      | (with_reducible refine LeO.ite ?_ ?_)
      | (with_reducible refine LeO.bind ?_ (fun _ => ?_))
      | exact ih0 _ _ _
      | exact ih1 _ _ _ _ _ _
      | exact LeO.none _
      | refine LeO.ite ?_ ?_
      | refine LeO.bind ?_ (fun _ => ?_)
set_option maxHeartbeats 8000000 in
set_option maxRecDepth 100000 in
theorem goprompt_filterSuggestions.calls (pass : ByteArray → ByteArray → Option Bool) (ig : Nat) {fnG : Func} (hfg : Tryd.prog.funcs[ig]? = some fnG) (hng : (fnG.name == "runtime.NumGoroutine") = false) (hbg : fnG.body.isSome = true) (HF : ∀ (s t : ByteArray) (r : Bool) (w : World), pass s t = some r → Calls Tryd.prog ig #[.string s, .string t] w fun e w' => e = .returned (.bool r) ∧ Below w.heap.size w w') (k : Nat) (A0 : Option Addr) (c0 : Nat) (l0 : List (S96)) (a1 : ByteArray) (a2 : Bool) (r : List (S96)) (w : World) (hr0 : Kd.C k96 w A0 l0.length l0) (hc0 : l0.length ≤ c0) (h : goprompt_filterSuggestions.f pass k l0 a1 a2 = some r) :
    Calls Tryd.prog 86 #[.slice A0 l0.length c0, .string a1, .bool a2, .func (.func ig) #[] #[]] w fun e w' => ∃ v0_ : Value, e = .returned (v0_) ∧ (Kd.R k96 96 w' w.heap.size (fun _ => True) v0_ r ∨ (v0_ = .slice A0 l0.length c0 ∧ r = l0)) ∧ Below w.heap.size w w' := by
  have hu96 := Tryd.underlying96
  have HR0 := Aside0.mk hr0
  have HC0 := Aside0.mk hc0
  clear hr0 hc0
  have HB := Aside0.mk (Below.refl w.heap.size w)
  have H : (if a1.toList = ([] : List UInt8) then (some l0) else (if a2 = true then ((strings_ToUpper.f a1).bind fun t101 => (goprompt_filterSuggestions.j0 pass k l0 t101 a2)) else (goprompt_filterSuggestions.j0 pass k l0 a1 a2))) = some r := h
  clear h
  by_cases c4 : a1.toList = ([] : List UInt8)
  · rw [if_pos c4] at H
    have c4b0 : (a1.toList == ([] : List UInt8)) = true := beq_iff_eq.mpr c4
    have c4b1 : (a1.toList != ([] : List UInt8)) = false := bne_eq_false_iff_eq.mpr c4
    clear c4
    obtain rfl := Option.some.inj H
    go_enter Tryd.func86, Tryd.ntmps86
    go_wp2
    go_ret
    exact ⟨_, by first | rfl | (simp [errW_none, errW_some] <;> rfl) | (simp [*, errW_none, errW_some] <;> rfl), Or.inr (by first | exact ⟨rfl, rfl⟩ | rfl), by repeat (first | (with_reducible first | exact HB.out | apply below_alloc | apply pw_below_drewN | apply below_drew1) | exact HB.out)⟩
  · rw [if_neg c4] at H
    have c4b0 : (a1.toList == ([] : List UInt8)) = false := beq_eq_false_iff_ne.mpr c4
    have c4b1 : (a1.toList != ([] : List UInt8)) = true := bne_iff_ne.mpr c4
    have HC5 := Aside0.mk H
    clear H
    go_enter Tryd.func86, Tryd.ntmps86
    go_upto_if 15 with (fail)
    go_cut [1] (fun v1 wc => ∃ (kq : Nat) (x1_4 : ByteArray), v1 = .string x1_4 ∧ Aside0 (goprompt_filterSuggestions.j0 pass kq l0 x1_4 a2 = some r) ∧ Aside0 (kq ≤ k) ∧ Aside0 (Below w.heap.size w wc))
    case first =>
      have H := HC5.out
      clear HC5
      by_cases c6 : a2 = true
      · subst c6
        have H1 : ((strings_ToUpper.f a1).bind fun t101 => (goprompt_filterSuggestions.j0 pass k l0 t101 true)) = some r := by rw [if_pos rfl] at H; exact H
        clear H
        have H := H1
        clear H1
        replace H := Option.bind_eq_some_iff.mp H
        obtain ⟨t101, A70, H⟩ := H
        replace H : (goprompt_filterSuggestions.j0 pass k l0 t101 true) = some r := H
        have A7 := Aside0.mk A70
        clear A70
        have H' := Aside0.mk H
        clear H
        go_wp2_with (first | ((with_reducible refine gate_callee (f := 100) rfl ?_); refine goesL_ (some 17) rfl rfl Tryd.func100 (by kernel_rfl) rfl #[.string a1] rfl (by (try simp only [List.map_toArray, List.map_cons, List.map_nil]); first | done | rfl | (simp only [List.length_drop, List.length_take]; rfl) | (simp only [Int.toNat_natCast, ByteArray.extract_zero_size]; rfl)) ?_; (with_reducible refine (strings_ToUpper.calls a1 t101 _ A7.out).mono ?_); rintro e w8 ⟨rfl, hb⟩; refine ⟨_, rfl, ?_⟩; have n0_ := Aside0.mk (below_step (by repeat (first | (with_reducible first | exact HB.out | apply below_alloc | apply pw_below_drewN | apply below_drew1) | exact HB.out)) hb); clear HB; have HB := n0_; clear n0_; (try clear hb); (try clear hb2); (try clear hk); (try clear hi)))
        go_meet
        case rel => exact ⟨_, (t101), (by first | rfl | (simp; done) | (simp [*]; done)), H', ⟨by first | omega | exact Nat.le_refl _⟩, ⟨by repeat (first | (with_reducible first | exact HB.out | apply below_alloc | apply pw_below_drewN | apply below_drew1) | exact HB.out)⟩⟩
      · replace c6 := Bool.eq_false_iff.mpr c6
        subst c6
        have H1 : (goprompt_filterSuggestions.j0 pass k l0 a1 false) = some r := by rw [if_neg (show ¬ (false = true) by decide)] at H; exact H
        clear H
        have H := H1
        clear H1
        have H' := Aside0.mk H
        clear H
        go_wp2
        go_meet
        case rel => exact ⟨_, (a1), (by first | rfl | (simp; done) | (simp [*]; done)), H', ⟨by first | omega | exact Nat.le_refl _⟩, ⟨by repeat (first | (with_reducible first | exact HB.out | apply below_alloc | apply pw_below_drewN | apply below_drew1) | exact HB.out)⟩⟩
    case rest =>
      clear HC5
      try clear c1
      try clear p2
      try clear c4
      try clear c4b0
      try clear c4b1
      try clear c6
      try clear c8
      obtain ⟨kq, x1_4, rfl, HA, HJ4, HB⟩ := hcut
      cases kq with
      | zero => exact absurd HA.out (by simp [goprompt_filterSuggestions.j0])
      | succ kj4 =>
        have H := HA.out
        clear HA
        simp only [goprompt_filterSuggestions.j0] at H
        by_cases cl : l0.length ≤ 4398046511104
        case neg => rw [if_neg cl] at H; exact absurd H (by simp)
        rw [if_pos cl] at H
        have LL := Aside0.mk cl
        clear cl
        have H' := Aside0.mk H
        clear H
        go_wp2_with (first | ((with_reducible refine gate_dst (N := 20) rfl ?_); refine R_make0 k96 (w0 := w) w.heap.size 96 rfl rfl 95 _ _ rfl l0.length ?hx ?hy Tryd.underlying95 (.agg #[.string ⟨#[]⟩, .string ⟨#[]⟩]) 32 info96 ⟨by have := LL.out; omega, by have := LL.out; unfold maxLen; omega⟩ (by repeat (first | (with_reducible first | exact HB.out | apply below_alloc | apply pw_below_drewN | apply below_drew1) | exact HB.out)) (by exact below_size (by repeat (first | (with_reducible first | exact HB.out | apply below_alloc | apply pw_below_drewN | apply below_drew1) | exact HB.out))) ?_; (case hx => first | rfl | (go_simp; done) | (go_simp; rfl)); (case hy => first | rfl | (go_simp; done) | (go_simp; rfl)); intro v20 w20 hR20 hB20; have HO_9 := Aside0.mk hR20; clear hR20; have n1_ := Aside0.mk hB20; clear hB20; clear HB; have HB := n1_; clear n1_))
        go_loopg [9, 23] kj4 (fun kq v9 v23 w' => ∃ (x9_2 : List (S96)) (x23_2 : Int), v23 = .int .i64 x23_2 ∧ Aside0 (goprompt_filterSuggestions.l0 pass kq l0 x1_4 a2 x9_2 (l0.length : Int) x23_2 = some r) ∧ Aside0 (kq ≤ kj4) ∧ Aside0 (Kd.R k96 96 w' w.heap.size (fun _ => True) v9 x9_2) ∧ Aside0 (Below w.heap.size w w'))
        case atStart => exact ⟨(([] : List (S96))), (0), (by first | rfl | (simp; done) | (simp [*]; done)), H', ⟨Nat.le_refl _⟩, ⟨HO_9.out⟩, ⟨by repeat (first | (with_reducible first | exact HB.out | apply below_alloc | apply pw_below_drewN | apply below_drew1) | exact HB.out)⟩⟩
        case round =>
          clear H'
          try clear c1
          try clear p2
          try clear c4
          try clear c4b0
          try clear c4b1
          try clear c6
          try clear c8
          try clear p2
          obtain ⟨x9_2, x23_2, rfl, HA, HK2, HO_9, HB⟩ := hrel
          cases gk with
          | zero => exact absurd HA.out (by simp [goprompt_filterSuggestions.l0])
          | succ k2 =>
            have H := HA.out
            clear HA
            simp only [goprompt_filterSuggestions.l0] at H
            by_cases c9 : x23_2 < (l0.length : Int)
            · rw [if_pos c9] at H
              have c9b0 : decide (x23_2 < (l0.length : Int)) = true := decide_eq_true c9
              clear c9
              by_cases c10 : 0 ≤ x23_2
              · rw [if_pos c10] at H
                have c10b0 : decide (0 ≤ x23_2) = true := decide_eq_true c10
                clear c10
                by_cases c11 : x23_2 < (l0.length : Int)
                · rw [if_pos c11] at H
                  have c11b0 : decide (x23_2 < (l0.length : Int)) = true := decide_eq_true c11
                  clear c11
                  by_cases c12 : a2 = true
                  · subst c12
                    have H1 : ((strings_ToUpper.f ((rd_T96 l0 x23_2).f0)).bind fun t103 => ((pass t103 x1_4).bind fun t104 => (if t104 = true then (if x9_2.length < 4398046511104 then (goprompt_filterSuggestions.l0 pass k2 l0 x1_4 true (x9_2 ++ [(⟨(rd_T96 l0 x23_2).f0, (rd_T96 l0 x23_2).f1⟩ : S96)]) (l0.length : Int) (wrap64 (x23_2 + 1))) else (none)) else (goprompt_filterSuggestions.l0 pass k2 l0 x1_4 true x9_2 (l0.length : Int) (wrap64 (x23_2 + 1)))))) = some r := by rw [if_pos rfl] at H; exact H
                    clear H
                    have H := H1
                    clear H1
                    replace H := Option.bind_eq_some_iff.mp H
                    obtain ⟨t103, A130, H⟩ := H
                    replace H : ((pass t103 x1_4).bind fun t104 => (if t104 = true then (if x9_2.length < 4398046511104 then (goprompt_filterSuggestions.l0 pass k2 l0 x1_4 true (x9_2 ++ [(⟨(rd_T96 l0 x23_2).f0, (rd_T96 l0 x23_2).f1⟩ : S96)]) (l0.length : Int) (wrap64 (x23_2 + 1))) else (none)) else (goprompt_filterSuggestions.l0 pass k2 l0 x1_4 true x9_2 (l0.length : Int) (wrap64 (x23_2 + 1))))) = some r := H
                    have A13 := Aside0.mk A130
                    clear A130
                    replace H := Option.bind_eq_some_iff.mp H
                    obtain ⟨t104, A140, H⟩ := H
                    replace H : (if t104 = true then (if x9_2.length < 4398046511104 then (goprompt_filterSuggestions.l0 pass k2 l0 x1_4 true (x9_2 ++ [(⟨(rd_T96 l0 x23_2).f0, (rd_T96 l0 x23_2).f1⟩ : S96)]) (l0.length : Int) (wrap64 (x23_2 + 1))) else (none)) else (goprompt_filterSuggestions.l0 pass k2 l0 x1_4 true x9_2 (l0.length : Int) (wrap64 (x23_2 + 1)))) = some r := H
                    have A14 := Aside0.mk A140
                    clear A140
                    by_cases c15 : t104 = true
                    · subst c15
                      have H1 : (if x9_2.length < 4398046511104 then (goprompt_filterSuggestions.l0 pass k2 l0 x1_4 true (x9_2 ++ [(⟨(rd_T96 l0 x23_2).f0, (rd_T96 l0 x23_2).f1⟩ : S96)]) (l0.length : Int) (wrap64 (x23_2 + 1))) else (none)) = some r := by rw [if_pos rfl] at H; exact H
                      clear H
                      have H := H1
                      clear H1
                      by_cases c16 : x9_2.length < 4398046511104
                      · rw [if_pos c16] at H
                        have LMc16 := Aside0.mk c16
                        clear c16
                        obtain ⟨y106, hy106⟩ : ∃ y_ : List (S96), y_ = (x9_2 ++ [(⟨(rd_T96 l0 x23_2).f0, (rd_T96 l0 x23_2).f1⟩ : S96)]) := ⟨_, rfl⟩
                        replace H : (goprompt_filterSuggestions.l0 pass k2 l0 x1_4 true y106 (l0.length : Int) (wrap64 (x23_2 + 1))) = some r := by first | (rw [hy106]; with_reducible exact H) | (have H2_ := (Option.bind_some _ _).symm.trans H; rw [hy106]; with_reducible exact H2_) | (have H2_ := (Option.bind_some _ _).symm.trans H; with_reducible exact H2_) | with_reducible exact H | (rw [hy106]; exact H) | exact H
                        have Ny106 := Aside0.mk hy106
                        clear hy106
                        have H' := Aside0.mk H
                        clear H
                        have p102 : 0 ≤ (x23_2 : Int) := of_decide_eq_true (by first | (with_reducible assumption) | assumption)
                        have q102 : x23_2 < (l0.length : Int) := of_decide_eq_true (by first | (with_reducible assumption) | assumption)
                        obtain ⟨ad102, e102, hx102_0, hx102_1⟩ := at_T96 HR0.out x23_2 p102 q102
                        cases e102
                        replace hx102_0 := (HB.out.cell (World.block_lt_of_cell? w _ hx102_0)).trans hx102_0
                        replace hx102_1 := (HB.out.cell (World.block_lt_of_cell? w _ hx102_1)).trans hx102_1
                        replace p102 := eq_true p102
                        replace q102 := eq_true q102
                        go_wp2_with (first | ((with_reducible refine gate_callee (f := 100) rfl ?_); refine goesL_ (some 33) rfl rfl Tryd.func100 (by kernel_rfl) rfl #[.string ((rd_T96 l0 x23_2).f0)] rfl (by (try simp only [List.map_toArray, List.map_cons, List.map_nil]); first | done | rfl | (simp only [List.length_drop, List.length_take]; rfl) | (simp only [Int.toNat_natCast, ByteArray.extract_zero_size]; rfl)) ?_; (with_reducible refine (strings_ToUpper.calls ((rd_T96 l0 x23_2).f0) t103 _ A13.out).mono ?_); rintro e w17 ⟨rfl, hb⟩; refine ⟨_, rfl, ?_⟩; have n0_ := Aside0.mk (Kd.R_below (by (with_reducible repeat (first | apply Kd.R_alloc | apply Kd.R_drewN | apply Kd.R_drew)); exact HO_9.out) hb); have n1_ := Aside0.mk (below_step (by repeat (first | (with_reducible first | exact HB.out | apply below_alloc | apply pw_below_drewN | apply below_drew1) | exact HB.out)) hb); clear HO_9; clear HB; have HO_9 := n0_; have HB := n1_; clear n0_ n1_; (try clear hb); (try clear hb2); (try clear hk); (try clear hi)) | ((with_reducible refine gate_dst (N := 37) rfl ?_); refine goesLV_ (some 37) rfl rfl hfg hng hbg #[.string t103, .string x1_4] rfl (by first | rfl | (go_simp; rfl)) (by (try simp only [List.map_toArray, List.map_cons, List.map_nil]); first | done | rfl | (simp only [List.length_drop, List.length_take]; rfl) | (simp only [Int.toNat_natCast, ByteArray.extract_zero_size]; rfl)) ?_; (with_reducible refine (HF t103 x1_4 true _ A14.out).mono ?_); rintro e w18 ⟨rfl, hb⟩; refine ⟨_, rfl, ?_⟩; have n0_ := Aside0.mk (Kd.R_below (by (with_reducible repeat (first | apply Kd.R_alloc | apply Kd.R_drewN | apply Kd.R_drew)); exact HO_9.out) hb); have n1_ := Aside0.mk (below_step (by repeat (first | (with_reducible first | exact HB.out | apply below_alloc | apply pw_below_drewN | apply below_drew1) | exact HB.out)) hb); clear HO_9; clear HB; have HO_9 := n0_; have HB := n1_; clear n0_ n1_; (try clear hb); (try clear hb2); (try clear hk); (try clear hi); have p105 : 0 ≤ (x23_2 : Int) := of_decide_eq_true (by first | (with_reducible assumption) | assumption); have q105 : x23_2 < (l0.length : Int) := of_decide_eq_true (by first | (with_reducible assumption) | assumption); obtain ⟨ad105, e105, hx105_0, hx105_1⟩ := at_T96 HR0.out x23_2 p105 q105; obtain rfl : ad102 = ad105 := (by injection e105); replace hx105_0 := (HB.out.cell (World.block_lt_of_cell? w _ hx105_0)).trans hx105_0; replace hx105_1 := (HB.out.cell (World.block_lt_of_cell? w _ hx105_1)).trans hx105_1; replace p105 := eq_true p105; replace q105 := eq_true q105) | ((with_reducible refine gate_builtin (b := .append) (xs := #[.tmp 38, .tmp 43]) rfl ?_); at_builtin; refine Kd.R_append k96 (w0 := w) w.heap.size rfl (.tmp 38) (.tmp 43) 95 96 (.agg #[(.string ⟨#[]⟩), (.string ⟨#[]⟩)]) 32 rfl Tryd.underlying95 info96 rfl (by decide) (by omega) u9 x9_2 (⟨(rd_T96 l0 x23_2).f0, (rd_T96 l0 x23_2).f1⟩ : S96) [.string ((rd_T96 l0 x23_2).f0), .string ((rd_T96 l0 x23_2).f1)] (fun _ => True) (fun _ => False) rfl rfl ?aP (fun _ hk => hk.elim) ?aF ?aO ?aB ?aS ?aL ?_; (case aP => exact k96_mkM _ _ _ (⟨(rd_T96 l0 x23_2).f0, (rd_T96 l0 x23_2).f1⟩ : S96)); (case aB => exact (by repeat (first | (with_reducible first | exact HB.out | apply below_alloc | apply pw_below_drewN | apply below_drew1) | exact HB.out))); (case aF => exact (fun _ _ => trivial)); (case aO => exact (by (with_reducible repeat (first | apply Kd.R_alloc | apply Kd.R_drewN | apply Kd.R_drew)); exact HO_9.out)); (case aS => exact (below_size (by repeat (first | (with_reducible first | exact HB.out | apply below_alloc | apply pw_below_drewN | apply below_drew1) | exact HB.out)))); (case aL => have := LMc16.out; omega); intro v107 w19 ho hb hg hat; rw [← Ny106.out] at ho; have n0_ := Aside0.mk (hb); have n1_ := Aside0.mk (ho); clear HB; clear HO_9; have HB := n0_; have HO108 := n1_; clear n0_ n1_; clear ho hb hg hat))
                        go_roundg k2
                        case measure => have := HJ4.out; have := HK2.out; omega
                        case rel => exact ⟨(y106), (wrap64 (x23_2 + 1)), (by first | rfl | (simp; done) | (simp [*]; done)), H', ⟨by have := HJ4.out; have := HK2.out; omega⟩, ⟨by (with_reducible repeat (first | apply Kd.R_alloc | apply Kd.R_drewN | apply Kd.R_drew)); exact HO108.out⟩, ⟨by repeat (first | (with_reducible first | exact HB.out | apply below_alloc | apply pw_below_drewN | apply below_drew1) | exact HB.out)⟩⟩
                      · rw [if_neg c16] at H
                        exact absurd H (by simp)
                    · replace c15 := Bool.eq_false_iff.mpr c15
                      subst c15
                      have H1 : (goprompt_filterSuggestions.l0 pass k2 l0 x1_4 true x9_2 (l0.length : Int) (wrap64 (x23_2 + 1))) = some r := by rw [if_neg (show ¬ (false = true) by decide)] at H; exact H
                      clear H
                      have H := H1
                      clear H1
                      have H' := Aside0.mk H
                      clear H
                      have p102 : 0 ≤ (x23_2 : Int) := of_decide_eq_true (by first | (with_reducible assumption) | assumption)
                      have q102 : x23_2 < (l0.length : Int) := of_decide_eq_true (by first | (with_reducible assumption) | assumption)
                      obtain ⟨ad102, e102, hx102_0, hx102_1⟩ := at_T96 HR0.out x23_2 p102 q102
                      cases e102
                      replace hx102_0 := (HB.out.cell (World.block_lt_of_cell? w _ hx102_0)).trans hx102_0
                      replace hx102_1 := (HB.out.cell (World.block_lt_of_cell? w _ hx102_1)).trans hx102_1
                      replace p102 := eq_true p102
                      replace q102 := eq_true q102
                      go_wp2_with (first | ((with_reducible refine gate_callee (f := 100) rfl ?_); refine goesL_ (some 33) rfl rfl Tryd.func100 (by kernel_rfl) rfl #[.string ((rd_T96 l0 x23_2).f0)] rfl (by (try simp only [List.map_toArray, List.map_cons, List.map_nil]); first | done | rfl | (simp only [List.length_drop, List.length_take]; rfl) | (simp only [Int.toNat_natCast, ByteArray.extract_zero_size]; rfl)) ?_; (with_reducible refine (strings_ToUpper.calls ((rd_T96 l0 x23_2).f0) t103 _ A13.out).mono ?_); rintro e w20 ⟨rfl, hb⟩; refine ⟨_, rfl, ?_⟩; have n0_ := Aside0.mk (Kd.R_below (by (with_reducible repeat (first | apply Kd.R_alloc | apply Kd.R_drewN | apply Kd.R_drew)); exact HO_9.out) hb); have n1_ := Aside0.mk (below_step (by repeat (first | (with_reducible first | exact HB.out | apply below_alloc | apply pw_below_drewN | apply below_drew1) | exact HB.out)) hb); clear HO_9; clear HB; have HO_9 := n0_; have HB := n1_; clear n0_ n1_; (try clear hb); (try clear hb2); (try clear hk); (try clear hi)) | ((with_reducible refine gate_dst (N := 37) rfl ?_); refine goesLV_ (some 37) rfl rfl hfg hng hbg #[.string t103, .string x1_4] rfl (by first | rfl | (go_simp; rfl)) (by (try simp only [List.map_toArray, List.map_cons, List.map_nil]); first | done | rfl | (simp only [List.length_drop, List.length_take]; rfl) | (simp only [Int.toNat_natCast, ByteArray.extract_zero_size]; rfl)) ?_; (with_reducible refine (HF t103 x1_4 false _ A14.out).mono ?_); rintro e w21 ⟨rfl, hb⟩; refine ⟨_, rfl, ?_⟩; have n0_ := Aside0.mk (Kd.R_below (by (with_reducible repeat (first | apply Kd.R_alloc | apply Kd.R_drewN | apply Kd.R_drew)); exact HO_9.out) hb); have n1_ := Aside0.mk (below_step (by repeat (first | (with_reducible first | exact HB.out | apply below_alloc | apply pw_below_drewN | apply below_drew1) | exact HB.out)) hb); clear HO_9; clear HB; have HO_9 := n0_; have HB := n1_; clear n0_ n1_; (try clear hb); (try clear hb2); (try clear hk); (try clear hi)))
                      go_roundg k2
                      case measure => have := HJ4.out; have := HK2.out; omega
                      case rel => exact ⟨(x9_2), (wrap64 (x23_2 + 1)), (by first | rfl | (simp; done) | (simp [*]; done)), H', ⟨by have := HJ4.out; have := HK2.out; omega⟩, ⟨by (with_reducible repeat (first | apply Kd.R_alloc | apply Kd.R_drewN | apply Kd.R_drew)); exact HO_9.out⟩, ⟨by repeat (first | (with_reducible first | exact HB.out | apply below_alloc | apply pw_below_drewN | apply below_drew1) | exact HB.out)⟩⟩
                  · replace c12 := Bool.eq_false_iff.mpr c12
                    subst c12
                    have H1 : ((pass ((rd_T96 l0 x23_2).f0) x1_4).bind fun t109 => (if t109 = true then (if x9_2.length < 4398046511104 then (goprompt_filterSuggestions.l0 pass k2 l0 x1_4 false (x9_2 ++ [(⟨(rd_T96 l0 x23_2).f0, (rd_T96 l0 x23_2).f1⟩ : S96)]) (l0.length : Int) (wrap64 (x23_2 + 1))) else (none)) else (goprompt_filterSuggestions.l0 pass k2 l0 x1_4 false x9_2 (l0.length : Int) (wrap64 (x23_2 + 1))))) = some r := by rw [if_neg (show ¬ (false = true) by decide)] at H; exact H
                    clear H
                    have H := H1
                    clear H1
                    replace H := Option.bind_eq_some_iff.mp H
                    obtain ⟨t109, A220, H⟩ := H
                    replace H : (if t109 = true then (if x9_2.length < 4398046511104 then (goprompt_filterSuggestions.l0 pass k2 l0 x1_4 false (x9_2 ++ [(⟨(rd_T96 l0 x23_2).f0, (rd_T96 l0 x23_2).f1⟩ : S96)]) (l0.length : Int) (wrap64 (x23_2 + 1))) else (none)) else (goprompt_filterSuggestions.l0 pass k2 l0 x1_4 false x9_2 (l0.length : Int) (wrap64 (x23_2 + 1)))) = some r := H
                    have A22 := Aside0.mk A220
                    clear A220
                    by_cases c23 : t109 = true
                    · subst c23
                      have H1 : (if x9_2.length < 4398046511104 then (goprompt_filterSuggestions.l0 pass k2 l0 x1_4 false (x9_2 ++ [(⟨(rd_T96 l0 x23_2).f0, (rd_T96 l0 x23_2).f1⟩ : S96)]) (l0.length : Int) (wrap64 (x23_2 + 1))) else (none)) = some r := by rw [if_pos rfl] at H; exact H
                      clear H
                      have H := H1
                      clear H1
                      by_cases c24 : x9_2.length < 4398046511104
                      · rw [if_pos c24] at H
                        have LMc24 := Aside0.mk c24
                        clear c24
                        obtain ⟨y111, hy111⟩ : ∃ y_ : List (S96), y_ = (x9_2 ++ [(⟨(rd_T96 l0 x23_2).f0, (rd_T96 l0 x23_2).f1⟩ : S96)]) := ⟨_, rfl⟩
                        replace H : (goprompt_filterSuggestions.l0 pass k2 l0 x1_4 false y111 (l0.length : Int) (wrap64 (x23_2 + 1))) = some r := by first | (rw [hy111]; with_reducible exact H) | (have H2_ := (Option.bind_some _ _).symm.trans H; rw [hy111]; with_reducible exact H2_) | (have H2_ := (Option.bind_some _ _).symm.trans H; with_reducible exact H2_) | with_reducible exact H | (rw [hy111]; exact H) | exact H
                        have Ny111 := Aside0.mk hy111
                        clear hy111
                        have H' := Aside0.mk H
                        clear H
                        have p102 : 0 ≤ (x23_2 : Int) := of_decide_eq_true (by first | (with_reducible assumption) | assumption)
                        have q102 : x23_2 < (l0.length : Int) := of_decide_eq_true (by first | (with_reducible assumption) | assumption)
                        obtain ⟨ad102, e102, hx102_0, hx102_1⟩ := at_T96 HR0.out x23_2 p102 q102
                        cases e102
                        replace hx102_0 := (HB.out.cell (World.block_lt_of_cell? w _ hx102_0)).trans hx102_0
                        replace hx102_1 := (HB.out.cell (World.block_lt_of_cell? w _ hx102_1)).trans hx102_1
                        replace p102 := eq_true p102
                        replace q102 := eq_true q102
                        go_wp2_with (first | ((with_reducible refine gate_dst (N := 37) rfl ?_); refine goesLV_ (some 37) rfl rfl hfg hng hbg #[.string ((rd_T96 l0 x23_2).f0), .string x1_4] rfl (by first | rfl | (go_simp; rfl)) (by (try simp only [List.map_toArray, List.map_cons, List.map_nil]); first | done | rfl | (simp only [List.length_drop, List.length_take]; rfl) | (simp only [Int.toNat_natCast, ByteArray.extract_zero_size]; rfl)) ?_; (with_reducible refine (HF ((rd_T96 l0 x23_2).f0) x1_4 true _ A22.out).mono ?_); rintro e w25 ⟨rfl, hb⟩; refine ⟨_, rfl, ?_⟩; have n0_ := Aside0.mk (Kd.R_below (by (with_reducible repeat (first | apply Kd.R_alloc | apply Kd.R_drewN | apply Kd.R_drew)); exact HO_9.out) hb); have n1_ := Aside0.mk (below_step (by repeat (first | (with_reducible first | exact HB.out | apply below_alloc | apply pw_below_drewN | apply below_drew1) | exact HB.out)) hb); clear HO_9; clear HB; have HO_9 := n0_; have HB := n1_; clear n0_ n1_; (try clear hb); (try clear hb2); (try clear hk); (try clear hi); have p110 : 0 ≤ (x23_2 : Int) := of_decide_eq_true (by first | (with_reducible assumption) | assumption); have q110 : x23_2 < (l0.length : Int) := of_decide_eq_true (by first | (with_reducible assumption) | assumption); obtain ⟨ad110, e110, hx110_0, hx110_1⟩ := at_T96 HR0.out x23_2 p110 q110; obtain rfl : ad102 = ad110 := (by injection e110); replace hx110_0 := (HB.out.cell (World.block_lt_of_cell? w _ hx110_0)).trans hx110_0; replace hx110_1 := (HB.out.cell (World.block_lt_of_cell? w _ hx110_1)).trans hx110_1; replace p110 := eq_true p110; replace q110 := eq_true q110) | ((with_reducible refine gate_builtin (b := .append) (xs := #[.tmp 38, .tmp 43]) rfl ?_); at_builtin; refine Kd.R_append k96 (w0 := w) w.heap.size rfl (.tmp 38) (.tmp 43) 95 96 (.agg #[(.string ⟨#[]⟩), (.string ⟨#[]⟩)]) 32 rfl Tryd.underlying95 info96 rfl (by decide) (by omega) u9 x9_2 (⟨(rd_T96 l0 x23_2).f0, (rd_T96 l0 x23_2).f1⟩ : S96) [.string ((rd_T96 l0 x23_2).f0), .string ((rd_T96 l0 x23_2).f1)] (fun _ => True) (fun _ => False) rfl rfl ?aP (fun _ hk => hk.elim) ?aF ?aO ?aB ?aS ?aL ?_; (case aP => exact k96_mkM _ _ _ (⟨(rd_T96 l0 x23_2).f0, (rd_T96 l0 x23_2).f1⟩ : S96)); (case aB => exact (by repeat (first | (with_reducible first | exact HB.out | apply below_alloc | apply pw_below_drewN | apply below_drew1) | exact HB.out))); (case aF => exact (fun _ _ => trivial)); (case aO => exact (by (with_reducible repeat (first | apply Kd.R_alloc | apply Kd.R_drewN | apply Kd.R_drew)); exact HO_9.out)); (case aS => exact (below_size (by repeat (first | (with_reducible first | exact HB.out | apply below_alloc | apply pw_below_drewN | apply below_drew1) | exact HB.out)))); (case aL => have := LMc24.out; omega); intro v112 w26 ho hb hg hat; rw [← Ny111.out] at ho; have n0_ := Aside0.mk (hb); have n1_ := Aside0.mk (ho); clear HB; clear HO_9; have HB := n0_; have HO113 := n1_; clear n0_ n1_; clear ho hb hg hat))
                        go_roundg k2
                        case measure => have := HJ4.out; have := HK2.out; omega
                        case rel => exact ⟨(y111), (wrap64 (x23_2 + 1)), (by first | rfl | (simp; done) | (simp [*]; done)), H', ⟨by have := HJ4.out; have := HK2.out; omega⟩, ⟨by (with_reducible repeat (first | apply Kd.R_alloc | apply Kd.R_drewN | apply Kd.R_drew)); exact HO113.out⟩, ⟨by repeat (first | (with_reducible first | exact HB.out | apply below_alloc | apply pw_below_drewN | apply below_drew1) | exact HB.out)⟩⟩
                      · rw [if_neg c24] at H
                        exact absurd H (by simp)
                    · replace c23 := Bool.eq_false_iff.mpr c23
                      subst c23
                      have H1 : (goprompt_filterSuggestions.l0 pass k2 l0 x1_4 false x9_2 (l0.length : Int) (wrap64 (x23_2 + 1))) = some r := by rw [if_neg (show ¬ (false = true) by decide)] at H; exact H
                      clear H
                      have H := H1
                      clear H1
                      have H' := Aside0.mk H
                      clear H
                      have p102 : 0 ≤ (x23_2 : Int) := of_decide_eq_true (by first | (with_reducible assumption) | assumption)
                      have q102 : x23_2 < (l0.length : Int) := of_decide_eq_true (by first | (with_reducible assumption) | assumption)
                      obtain ⟨ad102, e102, hx102_0, hx102_1⟩ := at_T96 HR0.out x23_2 p102 q102
                      cases e102
                      replace hx102_0 := (HB.out.cell (World.block_lt_of_cell? w _ hx102_0)).trans hx102_0
                      replace hx102_1 := (HB.out.cell (World.block_lt_of_cell? w _ hx102_1)).trans hx102_1
                      replace p102 := eq_true p102
                      replace q102 := eq_true q102
                      go_wp2_with (first | ((with_reducible refine gate_dst (N := 37) rfl ?_); refine goesLV_ (some 37) rfl rfl hfg hng hbg #[.string ((rd_T96 l0 x23_2).f0), .string x1_4] rfl (by first | rfl | (go_simp; rfl)) (by (try simp only [List.map_toArray, List.map_cons, List.map_nil]); first | done | rfl | (simp only [List.length_drop, List.length_take]; rfl) | (simp only [Int.toNat_natCast, ByteArray.extract_zero_size]; rfl)) ?_; (with_reducible refine (HF ((rd_T96 l0 x23_2).f0) x1_4 false _ A22.out).mono ?_); rintro e w27 ⟨rfl, hb⟩; refine ⟨_, rfl, ?_⟩; have n0_ := Aside0.mk (Kd.R_below (by (with_reducible repeat (first | apply Kd.R_alloc | apply Kd.R_drewN | apply Kd.R_drew)); exact HO_9.out) hb); have n1_ := Aside0.mk (below_step (by repeat (first | (with_reducible first | exact HB.out | apply below_alloc | apply pw_below_drewN | apply below_drew1) | exact HB.out)) hb); clear HO_9; clear HB; have HO_9 := n0_; have HB := n1_; clear n0_ n1_; (try clear hb); (try clear hb2); (try clear hk); (try clear hi)))
                      go_roundg k2
                      case measure => have := HJ4.out; have := HK2.out; omega
                      case rel => exact ⟨(x9_2), (wrap64 (x23_2 + 1)), (by first | rfl | (simp; done) | (simp [*]; done)), H', ⟨by have := HJ4.out; have := HK2.out; omega⟩, ⟨by (with_reducible repeat (first | apply Kd.R_alloc | apply Kd.R_drewN | apply Kd.R_drew)); exact HO_9.out⟩, ⟨by repeat (first | (with_reducible first | exact HB.out | apply below_alloc | apply pw_below_drewN | apply below_drew1) | exact HB.out)⟩⟩
                · rw [if_neg c11] at H
                  exact absurd H (by simp)
              · rw [if_neg c10] at H
                exact absurd H (by simp)
            · rw [if_neg c9] at H
              have c9b0 : decide (x23_2 < (l0.length : Int)) = false := decide_eq_false c9
              clear c9
              obtain rfl := Option.some.inj H
              go_wp2
              go_ret
              exact ⟨_, by first | rfl | (simp [errW_none, errW_some] <;> rfl) | (simp [*, errW_none, errW_some] <;> rfl), Or.inl (by (with_reducible repeat (first | apply Kd.R_alloc | apply Kd.R_drewN | apply Kd.R_drew)); exact HO_9.out), by repeat (first | (with_reducible first | exact HB.out | apply below_alloc | apply pw_below_drewN | apply below_drew1) | exact HB.out)⟩
end Go.Proofs.YthbdaoapjnofkaaDoor.H
