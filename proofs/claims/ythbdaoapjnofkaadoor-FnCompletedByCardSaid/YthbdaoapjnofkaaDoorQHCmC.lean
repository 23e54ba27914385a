/- What a completer of words offers of a line (readline's doInternal): the walk; for ASCII, trees of at most 1000000 words at a level. -/
import Derived.Test.YthbdaoapjnofkaaDoorQHCyN
namespace Go.Proofs.YthbdaoapjnofkaaDoor.H
open Go.RowKit Go.Proofs.YthbdaoapjnofkaaDoorW.PrintWords Go.Proofs.YthbdaoapjnofkaaDoorW.PrintLast Go.Proofs.YthbdaoapjnofkaaDoor.R Go.Proofs.YthbdaoapjnofkaaDoor.X
set_option linter.unusedVariables false
set_option linter.unusedSimpArgs false
attribute [local go_sem ↓] Go.wp_at_zero Go.wp_at_succ
theorem make_one (W : World) : (Instr.makeSlice 59 (.int .i64 1) (.int .i64 1)).run Tryd.prog W = .ok (.slice (some ⟨W.heap.size, 0, none⟩) 1 1) (W.alloc (.cells #[.slice none 0 0] 27)) := by
  have e : madeCells #[.slice none 0 0] 1 = #[Value.slice none 0 0] := by kernel_rfl
  rw [← e]
  exact print_make_of (P := Tryd.prog) 59 27 (.slice none 0 0) 24 Tryd.underlying59 infoW rfl (by omega) 1 (by omega) W
theorem assert_dyn (p : Nat) (w : World) : (Instr.typeAssert (.iface 80 (PtS p)) 127 130 true).run Tryd.prog w = .ok (.tuple #[.iface 80 (PtS p), .bool true]) w := by kernel_rfl
/-- What doInternal tells. -/
def DoPost (w : World) (r : List (List Int) × Nat) (e : Ending) (w' : World) : Prop := ∃ T c', e = .returned (.tuple #[.slice T r.1.length c', .int .i64 r.2]) ∧ r.1.length ≤ c' ∧ RW w' T r.1 ∧ Below w.heap.size w w'
theorem meth_kids (m : Nat) (w : World) : (method 312 80 (PtS m) "GetChildren").run Tryd.prog w = .ok (156, PtS m) w := by kernel_rfl
theorem meth_name (m : Nat) (w : World) : (method 312 80 (PtS m) "GetName").run Tryd.prog w = .ok (158, PtS m) w := by kernel_rfl
theorem meth_names (m : Nat) (w : World) : (method 312 80 (PtS m) "GetDynamicNames").run Tryd.prog w = .ok (157, PtS m) w := by kernel_rfl
theorem meth_dyn (m : Nat) (w : World) : (method 312 80 (PtS m) "IsDynamic").run Tryd.prog w = .ok (159, PtS m) w := by kernel_rfl
/-- What is told of a line without blanks ahead. -/
def compL (d : Nat) (t : Tr) (line : List Int) : List (List Int) × Nat :=
  let s := t.kids.foldl (oneKid line) ⟨[], 0, none, false⟩
  if s.nl.length ≠ 1 then (s.nl, s.off)
  else match s.cur with
    | none => (s.nl, s.off)
    | some c =>
      match (line.drop s.off).dropWhile (fun x => decide (x = 32)) with
      | x :: r => comp d c (x :: r)
      | [] => if s.gn then comp d c [] else (s.nl, s.off)
theorem TrAt.opened {d : Nat} {w : World} {m : Nat} {t : Tr} (h : TrAt d w m t) : ∃ nv cb kA kc, Rec w m [nv, .bool t.dyn, cb, .slice kA t.kids.length kc] 109 ∧ NamesAt w t.dyn t.names nv cb := by
  cases d with
  | zero => exact h.elim
  | succ d =>
    obtain ⟨nv, cb, kA, kc, h0, h2, h3, h4, h9⟩ := h
    exact ⟨nv, cb, kA, kc, h0, h4⟩
theorem TrAt.below' {d : Nat} {w w1 : World} {m : Nat} {t : Tr} (h : TrAt d w m t) (hb : Below w.heap.size w w1) : TrAt d w1 m t := h.below hb
/-- The completer of the last word that fits. -/
def CurAt (d : Nat) (w : World) (v : Value) : Option Tr → Prop
  | none => v = .nilIface
  | some c => ∃ p, v = .iface 80 (PtS p) ∧ TrAt d w p c
def DoI (d : Nat) : Prop := ∀ (m : Nat) (t : Tr) (l : List Int) (A : Option Addr) (c n : Nat) (Ao : Option Addr) (lo : List Int) (co : Nat) (w : World), TrAt d w m t → Kd.C (Kd.int .i32) w Ao lo.length lo → lo.length ≤ co → Kd.C (Kd.int .i32) w A l.length l → l.length ≤ c → l.length ≤ 1000000000 → (∀ x ∈ l, 0 ≤ x ∧ x < 128) → n ≤ l.length →
    Calls Tryd.prog 83 #[.iface 80 (PtS m), .slice A l.length c, .int .i64 n, .slice Ao lo.length co] w (DoPost w (comp d t (l.take n)))
def isBl (x : Int) : Bool := decide (x = 32)
theorem compL_many {d : Nat} {t : Tr} {line : List Int} {s : Cs} (hs : s = t.kids.foldl (oneKid line) ⟨[], 0, none, false⟩) (h1 : s.nl.length ≠ 1) : compL d t line = (s.nl, s.off) := by
  unfold compL
  simp only [← hs]
  rw [if_pos h1]
theorem compL_go {d : Nat} {t c : Tr} {line : List Int} {s : Cs} {x : Int} {r : List Int} (hs : s = t.kids.foldl (oneKid line) ⟨[], 0, none, false⟩) (h1 : s.nl.length = 1) (hc : s.cur = some c) (hd : (line.drop s.off).dropWhile isBl = x :: r) : compL d t line = comp d c (x :: r) := by
  unfold compL
  simp only [← hs]
  rw [if_neg (by omega), hc]
  show (match (line.drop s.off).dropWhile isBl with | x :: r => comp d c (x :: r) | [] => if s.gn then comp d c [] else (s.nl, s.off)) = _
  rw [hd]
theorem compL_end {d : Nat} {t c : Tr} {line : List Int} {s : Cs} (hs : s = t.kids.foldl (oneKid line) ⟨[], 0, none, false⟩) (h1 : s.nl.length = 1) (hc : s.cur = some c) (hd : (line.drop s.off).dropWhile isBl = []) : compL d t line = if s.gn then comp d c [] else (s.nl, s.off) := by
  unfold compL
  simp only [← hs]
  rw [if_neg (by omega), hc]
  show (match (line.drop s.off).dropWhile isBl with | x :: r => comp d c (x :: r) | [] => if s.gn then comp d c [] else (s.nl, s.off)) = _
  rw [hd]
set_option maxRecDepth 100000 in
set_option maxHeartbeats 16000000 in
theorem doI_step (d : Nat) (IH0 : DoI d) (m : Nat) (t : Tr) (l : List Int) (A : Option Addr) (c n : Nat) (Ao : Option Addr) (lo : List Int) (co : Nat) (w : World) (ht : TrAt (d + 1) w m t) (hro : Kd.C (Kd.int .i32) w Ao lo.length lo) (hco : lo.length ≤ co) (hr : Kd.C (Kd.int .i32) w A l.length l) (hc : l.length ≤ c) (hl : l.length ≤ 1000000000) (ha : ∀ x ∈ l, 0 ≤ x ∧ x < 128) (hn : n ≤ l.length) :
    Calls Tryd.prog 83 #[.iface 80 (PtS m), .slice A l.length c, .int .i64 n, .slice Ao lo.length co] w (DoPost w (comp (d + 1) t (l.take n))) := by
    have IH := Lib.hid IH0
    have HOR := Lib.hid (And.intro hro hco)
    clear IH0 hro hco
    obtain ⟨i011, hi011, _, hsz11, _⟩ := info_parts info21
    obtain ⟨hcut11, hA11, hC11⟩ := print_take_of (P := Tryd.prog) (Value.int .i32) (0 : Int) 27 21 .i64 Tryd.underlying27 hi011 hsz11 A c l (n : Int) (by omega) (by omega) hc
    have hR1 := Kd.C_of_reads (h1 := fun _ => rfl) (hA11 _ (Kd.reads_of_C hr))
    rw [Int.toNat_natCast] at hcut11 hC11 hR1
    have HR := Lib.hid (And.intro ht (And.intro hR1 (And.intro hC11 (fun x (hx : x ∈ l.take n) => ha x (List.mem_of_mem_take hx)))))
    have hl1 : (l.take n).length ≤ 1000000000 := by rw [List.length_take]; omega
    obtain ⟨q, hq⟩ : ∃ q, q = l.take n := ⟨_, rfl⟩
    rw [← hq] at hcut11 HR hl1 ⊢
    clear ht hr hc ha hA11 hC11 hR1 hq
    go_enter Tryd.func83, Tryd.ntmps83
    go_wp2_with fail
    refine wp_region_noPanic ?_
    refine wp_region_held_drew (S := fun w' => True) (by kernel_rfl) trivial (fun hHeld => ?_)
    refine wpAnyH_take (i := 0) (v := ?v0) (by simp only [List.getElem?_toArray, List.getElem?_cons_succ, List.getElem?_cons_zero]; rfl) (by kernel_rfl) (by kernel_rfl) (by kernel_rfl) (fun _ _ _ h => h) (Or.inl ⟨by rfl, ?h0⟩) (by assumption) ?_
    case h0 => (intro w hSw; go_simp; try with_reducible rfl)
    try simp only [Act.put, List.setIfInBounds_toArray, List.set_cons_zero, List.set_cons_succ]
    refine wpAnyH_take (i := 1) (v := ?v1) (by simp only [List.getElem?_toArray, List.getElem?_cons_succ, List.getElem?_cons_zero]; rfl) (by kernel_rfl) (by kernel_rfl) (by kernel_rfl) (fun _ _ _ h => h) (Or.inl ⟨by rfl, ?h1⟩) (by assumption) ?_
    case h1 => (intro w hSw; go_simp; try with_reducible rfl)
    try simp only [Act.put, List.setIfInBounds_toArray, List.set_cons_zero, List.set_cons_succ]
    refine wpAnyH_take (i := 2) (v := ?v2) (by simp only [List.getElem?_toArray, List.getElem?_cons_succ, List.getElem?_cons_zero]; rfl) (by kernel_rfl) (by kernel_rfl) (by kernel_rfl) (fun _ _ _ h => h) (Or.inl ⟨by rfl, ?h2⟩) (by assumption) ?_
    case h2 => (intro w hSw; go_simp; try with_reducible rfl)
    try simp only [Act.put, List.setIfInBounds_toArray, List.set_cons_zero, List.set_cons_succ]
    refine wpAnyH_take (i := 3) (v := ?v3) (by simp only [List.getElem?_toArray, List.getElem?_cons_succ, List.getElem?_cons_zero]; rfl) (by kernel_rfl) (by kernel_rfl) (by kernel_rfl) (fun _ _ _ h => h) (Or.inl ⟨by rfl, ?h3⟩) (by assumption) ?_
    case h3 => (intro w hSw; go_simp; try with_reducible rfl)
    try simp only [Act.put, List.setIfInBounds_toArray, List.set_cons_zero, List.set_cons_succ]
    refine wpAnyH_ready (rs := [4]) (by kernel_rfl) (by simp) ?_
    refine AllReadyH.cons (o := _) rfl (fun K hK => ?_) AllReadyH.nil
    go_simp
    refine (Trim_calls q A c w.drew (Kd.C_drew HR.out.2.1) HR.out.2.2.1 hl1 HR.out.2.2.2).mono ?_
    rintro e w1 ⟨A1, c1, rfl, hc1, hC1, hb1⟩
    refine hK.out _ _ trivial (fun hHeld2 => ?_)
    clear hK K hHeld
    try simp only [Act.put, List.setIfInBounds_toArray, List.set_cons_zero, List.set_cons_succ]
    refine wpAnyH_take (i := 5) (v := ?v5) (by simp only [List.getElem?_toArray, List.getElem?_cons_succ, List.getElem?_cons_zero]; rfl) (by kernel_rfl) (by kernel_rfl) (by kernel_rfl) (fun _ _ _ h => h) (Or.inl ⟨by rfl, ?h5⟩) (by assumption) ?_
    case h5 => (intro w hSw; go_simp; try with_reducible rfl)
    try simp only [Act.put, List.setIfInBounds_toArray, List.set_cons_zero, List.set_cons_succ]
    refine wpAnyH_done (by kernel_rfl) ?_ _
    refine NoPanic.normal ?_
    have hcomp : comp (d + 1) t q = compL d t (q.dropWhile isSp) := rfl
    rw [hcomp]
    have hln : (q.dropWhile isSp).length ≤ 1000000000 := by have := (List.dropWhile_suffix (p := isSp) (l := q)).length_le; omega
    have hlx : ∀ x ∈ q.dropWhile isSp, 0 ≤ x ∧ x < 128 := fun x hx => HR.out.2.2.2 x ((List.dropWhile_suffix (p := isSp) (l := q)).subset hx)
    obtain ⟨line, hline⟩ : ∃ line, line = q.dropWhile isSp := ⟨_, rfl⟩
    rw [← hline] at hc1 hC1 hln hlx ⊢
    have HCOMP := Lib.hid (show comp (d + 1) t q = compL d t line from by rw [hline]; rfl)
    have hbw : Below w.heap.size w w1 := ⟨hb1.os, hb1.tape, hb1.output, hb1.size, hb1.block⟩
    have HT := Lib.hid (HR.out.1)
    have HLN := Lib.hid (And.intro hC1 (And.intro hc1 (And.intro hln (And.intro hlx hbw))))
    clear hC1 hlx hline hb1 HR hcomp hcut11 hbw
    obtain ⟨nv, cb, kA, kc, hrec, hkc, hkl, _, hkids⟩ := HT.out
    have HK := Lib.hid (And.intro hrec hkids)
    have hmk := meth_kids m
    clear hrec hkids
    have he156 : ∀ args w, (callFunc 156 args).run Tryd.prog w = .ok (.enter 156 args) w := fun args w => enters_ Tryd.func156 (by kernel_rfl) rfl args w
    go_wp2_with fail
    refine (GetChildren_calls m _ _ _ kA t.kids.length kc w1 (HK.out.1.below HLN.out.2.2.2.2 HK.out.1.lt)).mono ?_
    rintro e w2 ⟨rfl, rfl⟩
    go_wp2_with fail
    have he157 : ∀ args w, (callFunc 157 args).run Tryd.prog w = .ok (.enter 157 args) w := fun args w => enters_ Tryd.func157 (by kernel_rfl) rfl args w
    have he159 : ∀ args w, (callFunc 159 args).run Tryd.prog w = .ok (.enter 159 args) w := fun args w => enters_ Tryd.func159 (by kernel_rfl) rfl args w
    have he158 : ∀ args w, (callFunc 158 args).run Tryd.prog w = .ok (.enter 158 args) w := fun args w => enters_ Tryd.func158 (by kernel_rfl) rfl args w
    have HN0 := Lib.hid (NL.start HLN.out.2.2.2.2)
    go_loopw [8, 9, 10, 11, 29] (fun v8 v9 v10 v11 v29 wr => ∃ (i : Nat) (s : Cs) (T : Option Addr) (c' : Nat) (L : List Value), i ≤ t.kids.length ∧ v29 = .int .i64 i ∧ s = (t.kids.take i).foldl (oneKid line) ⟨[], 0, none, false⟩ ∧ v8 = .slice T s.nl.length c' ∧ v9 = .int .i64 s.off ∧ v10 = .bool s.gn ∧ CurAt d w v11 s.cur ∧ NL w wr T c' s.nl L ∧ s.nl.length ≤ 1000000 * i) (fun _ _ _ _ v29 _ => t.kids.length - (intOf v29).toNat)
    case atStart => exact ⟨0, ⟨[], 0, none, false⟩, none, 0, [], Nat.zero_le _, rfl, by simp, rfl, rfl, rfl, rfl, HN0.out, Nat.zero_le _⟩
    case round =>
      obtain ⟨i, s, T, c', L, hi, rfl, hs, rfl, rfl, rfl, hcur, hNL, hsl⟩ := hrel
      have HNL := Lib.hid hNL
      have HCU := Lib.hid hcur
      have HS := Lib.hid hs
      clear hNL hcur hs
      by_cases hlt : i < t.kids.length
      · obtain ⟨g, p, hkA, hcell, htr⟩ := HK.out.2 i t.kids[i] (List.getElem?_eq_getElem hlt)
        subst hkA
        have x0 : wr.cell? ⟨g, i, none⟩ = some (.iface 80 (PtS p)) := (HNL.out.below.cell (p := ⟨g, i, none⟩) (by have := cell_lt hcell; exact this)).trans hcell
        clear hcell
        have HTR := Lib.hid htr
        obtain ⟨nv, cb2, kA2, kc2, hrk, hNA⟩ := htr.opened
        have hbw := HNL.out.below
        have hrk' := hrk.below hbw hrk.lt
        have HRK := Lib.hid hrk'
        have hNA' := hNA.below hbw
        have hNLen := hNA.len
        have hmd := meth_dyn p
        have hmn := meth_name p
        have hmy := meth_names p
        clear htr hrk hrk' hbw hNA
        have hmake := make_one
        have hass := assert_dyn p
        have hbA : Below wr.heap.size wr (wr.alloc (.cells #[.slice none 0 0] 27)) := (Below.refl _ _).alloc (Nat.le_refl _) _
        have hRA := Rec.new wr [.slice none 0 0] 27
        have k0 := hRA.cell 0 rfl
        have f0 := hRA.free 0
        have HRA := Lib.hid (And.intro hRA hbA)
        clear hRA hbA
        rcases hNA' with ⟨hdyn, nA, nc, nm, rfl, hnc, hnm, hCn, hnl, hna⟩ | ⟨hdyn, q, Q, qc, strs, rfl, hq, hQ, hqc, hpos, hlenS, hstr, hnm⟩
        · have HCN := Lib.hid (And.intro hCn hna)
          clear hCn hna
          go_wp2_with fail
          refine (IsDynamic_calls p _ _ _ _ _ (HRK.out.stays HRA.out.2)).mono ?_
          rintro e w3 ⟨rfl, rfl⟩
          go_wp2_with fail
          refine (GetName_calls p _ _ _ nA nm.length nc _ (HRK.out.stays HRA.out.2)).mono ?_
          rintro e w3 ⟨rfl, rfl⟩
          go_wp2_with fail
          have HbS := Lib.hid (show Below wr.heap.size wr (wr.alloc (.cells #[.slice nA nm.length nc] 27)) from (Below.refl _ _).alloc (Nat.le_refl _) _)
          have HNLS := Lib.hid (HNL.out.stays HbS.out)
          have HNM0 := Lib.hid (show NM w _ wr.heap.size [.slice nA nm.length nc] [nm] from ⟨Rec.new wr [.slice nA nm.length nc] 27, fun j l' hj => by
            obtain rfl : j = 0 := by have := (List.getElem?_eq_some_iff.1 hj).1; simp at this; omega
            obtain rfl : nm = l' := by simpa using hj
            exact ⟨_, rfl, HCN.out.1.below HbS.out⟩⟩)
          obtain ⟨hb, hhb⟩ : ∃ hb, hb = wr.heap.size := ⟨_, rfl⟩
          have hneS : (Value.slice T s.nl.length c').ownBlock ≠ some hb := fun e => by
            have := (World.ownsRow.lt HNL.out.own _ e).2
            omega
          obtain ⟨wS, hwS⟩ : ∃ wS, wS = wr.alloc (.cells #[.slice nA nm.length nc] 27) := ⟨_, rfl⟩
          rw [← hwS, ← hhb] at HNM0
          rw [← hwS] at HNLS ⊢
          rw [← hhb]
          clear hhb hwS HbS HRA k0 f0
          obtain ⟨k, hk⟩ : ∃ k, k = t.kids[i] := ⟨_, rfl⟩
          rw [← hk] at HTR hnm
          have hnlA : ∀ y ∈ [nm], y.length ≤ 1000000 := by simpa using hnl
          obtain ⟨i0, hi_, hz0_, hz1_, hz2_⟩ := infoR0_parts infoW
          have HI := Lib.hid (And.intro hi_ (And.intro hz0_ (And.intro hz1_ hz2_)))
          clear hi_ hz0_ hz1_ hz2_
          go_loopw [8, 9, 10, 11, 53] (fun v8 v9 v10 v11 v53 wq => ∃ (j : Nat) (s2 : Cs) (T2 : Option Addr) (c2 : Nat) (L2 : List Value), j ≤ 1 ∧ v53 = .int .i64 j ∧ s2 = ([nm].take j).foldl (oneName line k) s ∧ v8 = .slice T2 s2.nl.length c2 ∧ v9 = .int .i64 s2.off ∧ v10 = .bool s2.gn ∧ CurAt d w v11 s2.cur ∧ NL w wq T2 c2 s2.nl L2 ∧ s2.nl.length ≤ 1000000 * i + j ∧ NM w wq hb [.slice nA nm.length nc] [nm] ∧ (Value.slice T2 s2.nl.length c2).ownBlock ≠ some hb) (fun _ _ _ _ v53 _ => 1 - (intOf v53).toNat)
          case atStart => exact ⟨0, s, T, c', L, Nat.zero_le _, rfl, by simp, rfl, rfl, rfl, HCU.out, HNLS.out, by omega, HNM0.out, hneS⟩
          case round =>
            obtain ⟨j, s2, T2, c2, L2, hj, rfl, hs2, rfl, rfl, rfl, hcur2, hNL2, hsl2, hNM2, hne2⟩ := hrel
            have HNL2 := Lib.hid hNL2
            have HCU2 := Lib.hid hcur2
            have HS2 := Lib.hid hs2
            have HNM2 := Lib.hid hNM2
            clear hNL2 hcur2 hs2 hNM2
            by_cases hjl : j < 1
            · have hjl' : j < [nm].length := by simpa using hjl
              obtain ⟨v, hv, hrv⟩ := HNM2.out.2 j [nm][j] (List.getElem?_eq_getElem hjl')
              have y0 := HNM2.out.1.cell j hv
              have HFOLD := Lib.hid (show ([nm].take (j + 1)).foldl (oneName line k) s = oneName line k s2 [nm][j] by rw [List.take_succ_eq_append_getElem hjl', List.foldl_append, ← HS2.out]; rfl)
              have hnb : [nm][j].length ≤ 1000000 := hnlA _ (List.getElem_mem hjl')
              obtain ⟨x, hx⟩ : ∃ x, x = [nm][j] := ⟨_, rfl⟩
              rw [← hx] at hrv HFOLD hnb
              clear hx hv
              obtain ⟨Av, cv, rfl, hcv, hCv, hbv⟩ := id hrv
              have HRV := Lib.hid (And.intro hrv hCv)
              clear hrv hCv hbv
              have hbq := HNL2.out.below
              have HLQ := Lib.hid (Kd.C_below HLN.out.1 (show Below w.drew.heap.size w.drew _ from ⟨hbq.os, hbq.tape, hbq.output, hbq.size, hbq.block⟩))
              clear hbq
              clear hmd hmn hmy hmake hass hmk he156 he158 he159 he157
              by_cases hle : x.length ≤ line.length
              · have q1 : decide ((x.length : Int) ≤ (line.length : Int)) = true := decide_eq_true (by omega)
                have q2 : decide (x.length ≤ line.length) = true := decide_eq_true hle
                go_wp2_with fail
                refine (HasPrefix_calls A1 Av c1 cv line x _ HLQ.out hc1 HRV.out.2 hcv hln (by omega) hle).mono ?_
                rintro e w5 ⟨rfl, hb5⟩
                have HL5 := Lib.hid (HNL2.out.stays hb5)
                have HM5 := Lib.hid (HNM2.out.below hb5)
                have HRK5 := Lib.hid (HRV.out.1.below hb5)
                clear hb5
                by_cases hpre : line.take x.length = x
                · rw [decide_eq_true hpre]
                  by_cases heq : line.length = x.length
                  · have q3 : ((line.length : Int) == (x.length : Int)) = true := beq_iff_eq.2 (by omega)
                    have q4 : (line.length == x.length) = true := beq_iff_eq.2 heq
                    have HEQ := Lib.hid heq
                    clear heq
                    have hb6 : Below w5.heap.size w5 (w5.alloc (.cells #[.int .i32 32] 21)) := (Below.refl _ _).alloc (Nat.le_refl _) _
                    have hb7 : Below w5.heap.size w5 ((w5.alloc (.cells #[.int .i32 32] 21)).alloc (.cells #[.slice (some ⟨w5.heap.size, 0, none⟩) 1 1] 27)) := hb6.alloc hb6.size _
                    have HROW := Lib.hid (row_at (w := w5.alloc (.cells #[.int .i32 32] 21)) (H := w5.heap.size + 1) (by simp) (.slice (some ⟨w5.heap.size, 0, none⟩) 1 1) 27)
                    have HLW := Lib.hid (HL5.out.stays hb7)
                    have HMW := Lib.hid (HM5.out.below hb7)
                    have HRW := Lib.hid ((RowK.new w w5 32 HL5.out.below.size).below (show Below (w5.alloc (.cells #[.int .i32 32] 21)).heap.size _ ((w5.alloc (.cells #[.int .i32 32] 21)).alloc (.cells #[.slice (some ⟨w5.heap.size, 0, none⟩) 1 1] 27)) from (Below.refl _ _).alloc (Nat.le_refl _) _))
                    clear hb6 hb7
                    go_wp2_with (at_builtin; go_loud (refine wpList_append_any _ rfl (.tmp 71) (.tmp 73) _ rfl w.heap.size 27 i0 (.slice none 0 0) 1 24 Tryd.underlying59 HI.out.1 HI.out.2.1 HI.out.2.2.1 HI.out.2.2.2 rfl (by omega) (.slice T2 s2.nl.length c2) s2.nl.length L2 rfl HLW.out.own ⟨w5.heap.size + 1, 0, none⟩ 1 1 [.slice (some ⟨w5.heap.size, 0, none⟩) 1 1] (by simp [go_sem]) (by simp) HROW.out (by intro z hz; rw [List.mem_singleton] at hz; subst hz; rfl) (by unfold maxLen; omega) (by omega) HLW.out.below.size ?_; intro v4 w4 ho4 hg4 hat4; obtain ⟨T4, c4, rfl⟩ := slice_of ho4; have HX4 := Lib.hid (And.intro ho4 (And.intro hg4 hat4)); clear ho4 hg4 hat4))
                    have HL4 := Lib.hid (NL.push HLW.out HRW.out HX4.out.2.1 HX4.out.1)
                    have HM4 := Lib.hid (NM.grown HMW.out HLW.out HX4.out.2.1 hne2)
                    have hne4 : (Value.slice T4 (s2.nl ++ [[32]]).length c4).ownBlock ≠ some hb := fun e => by
                      have hbl := HMW.out.1.lt
                      have e' : (Value.slice T4 (s2.nl.length + 1) c4).ownBlock = some hb := by rw [← e]; simp
                      rcases HX4.out.2.2 with h | h
                      · rw [h] at e'; exact hne2 e'
                      · rw [h] at e'; injection e' with e'; omega
                    go_wp2_with fail
                    go_roundw
                    case rel =>
                      refine ⟨j + 1, ⟨s2.nl ++ [[32]], x.length, some k, true⟩, T4, c4, L2 ++ [.slice (some ⟨w5.heap.size, 0, none⟩) 1 1], by omega, by go_num, ?_, by simp, by first | rfl | trivial, by first | rfl | trivial, ⟨p, rfl, HTR.out⟩, HL4.out, by simp; omega, HM4.out, hne4⟩
                      rw [HFOLD.out]
                      unfold oneName
                      rw [if_pos hle, if_pos hpre, if_pos HEQ.out]
                    case measure => simp only [intOf]; omega
                  · have q3 : ((line.length : Int) == (x.length : Int)) = false := beq_eq_false_iff_ne.2 (by omega)
                    have q4 : (line.length == x.length) = false := beq_eq_false_iff_ne.2 heq
                    have hb7 : Below w5.heap.size w5 (w5.alloc (.cells #[.slice Av x.length cv] 27)) := (Below.refl _ _).alloc (Nat.le_refl _) _
                    have HROW := Lib.hid (row_at (w := w5) (H := w5.heap.size) rfl (.slice Av x.length cv) 27)
                    have HLW := Lib.hid (HL5.out.stays hb7)
                    have HMW := Lib.hid (HM5.out.below hb7)
                    have HRW := Lib.hid (HRK5.out.below hb7)
                    clear hb7
                    go_wp2_with (at_builtin; go_loud (refine wpList_append_any _ rfl (.tmp 75) (.tmp 77) _ rfl w.heap.size 27 i0 (.slice none 0 0) 1 24 Tryd.underlying59 HI.out.1 HI.out.2.1 HI.out.2.2.1 HI.out.2.2.2 rfl (by omega) (.slice T2 s2.nl.length c2) s2.nl.length L2 rfl HLW.out.own ⟨w5.heap.size, 0, none⟩ 1 1 [.slice Av x.length cv] (by simp [go_sem]) (by simp) HROW.out (by intro z hz; rw [List.mem_singleton] at hz; subst hz; rfl) (by unfold maxLen; omega) (by omega) HLW.out.below.size ?_; intro v4 w4 ho4 hg4 hat4; obtain ⟨T4, c4, rfl⟩ := slice_of ho4; have HX4 := Lib.hid (And.intro ho4 (And.intro hg4 hat4)); clear ho4 hg4 hat4))
                    have HL4 := Lib.hid (NL.push HLW.out HRW.out HX4.out.2.1 HX4.out.1)
                    have HM4 := Lib.hid (NM.grown HMW.out HLW.out HX4.out.2.1 hne2)
                    have hne4 : (Value.slice T4 (s2.nl ++ [x]).length c4).ownBlock ≠ some hb := fun e => by
                      have hbl := HMW.out.1.lt
                      have e' : (Value.slice T4 (s2.nl.length + 1) c4).ownBlock = some hb := by rw [← e]; simp
                      rcases HX4.out.2.2 with h | h
                      · rw [h] at e'; exact hne2 e'
                      · rw [h] at e'; injection e' with e'; omega
                    go_wp2_with fail
                    go_roundw
                    case rel =>
                      refine ⟨j + 1, ⟨s2.nl ++ [x], x.length, some k, true⟩, T4, c4, L2 ++ [.slice Av x.length cv], by omega, by go_num, ?_, by simp, by first | rfl | trivial, by first | rfl | trivial, ⟨p, rfl, HTR.out⟩, HL4.out, by simp; omega, HM4.out, hne4⟩
                      rw [HFOLD.out]
                      unfold oneName
                      rw [if_pos hle, if_pos hpre, if_neg heq]
                    case measure => simp only [intOf]; omega
                · rw [decide_eq_false hpre]
                  go_wp2_with fail
                  go_roundw
                  case rel =>
                    refine ⟨j + 1, s2, T2, c2, L2, by omega, by go_num, ?_, by first | rfl | trivial, by first | rfl | trivial, by first | rfl | trivial, HCU2.out, HL5.out, by omega, HM5.out, hne2⟩
                    rw [HFOLD.out]
                    unfold oneName
                    rw [if_pos hle, if_neg hpre]
                  case measure => simp only [intOf]; omega
              · have q1 : decide ((x.length : Int) ≤ (line.length : Int)) = false := decide_eq_false (by omega)
                have q2 : decide (x.length ≤ line.length) = false := decide_eq_false hle
                go_wp2_with fail
                refine (HasPrefix_calls Av A1 cv c1 x line _ HRV.out.2 hcv HLQ.out hc1 (by omega) hln (by omega)).mono ?_
                rintro e w5 ⟨rfl, hb5⟩
                have HL5 := Lib.hid (HNL2.out.stays hb5)
                have HM5 := Lib.hid (HNM2.out.below hb5)
                have HRK5 := Lib.hid (HRV.out.1.below hb5)
                clear hb5
                by_cases hpre : x.take line.length = line
                · rw [decide_eq_true hpre]
                  obtain ⟨A6, hcut6, hC6, hc6, hk6⟩ := RowK.cut HRK5.out (m := line.length) (by omega)
                  have hb7 : Below w5.heap.size w5 (w5.alloc (.cells #[.slice A6 (x.length - line.length) (cv - line.length)] 27)) := (Below.refl _ _).alloc (Nat.le_refl _) _
                  have HROW := Lib.hid (row_at (w := w5) (H := w5.heap.size) rfl (.slice A6 (x.length - line.length) (cv - line.length)) 27)
                  have HLW := Lib.hid (HL5.out.stays hb7)
                  have HMW := Lib.hid (HM5.out.below hb7)
                  have HRW := Lib.hid (hk6.below hb7)
                  clear hb7 hC6 hk6
                  go_wp2_with (at_builtin; go_loud (refine wpList_append_any _ rfl (.tmp 86) (.tmp 91) _ rfl w.heap.size 27 i0 (.slice none 0 0) 1 24 Tryd.underlying59 HI.out.1 HI.out.2.1 HI.out.2.2.1 HI.out.2.2.2 rfl (by omega) (.slice T2 s2.nl.length c2) s2.nl.length L2 rfl HLW.out.own ⟨w5.heap.size, 0, none⟩ 1 1 [.slice A6 (x.length - line.length) (cv - line.length)] (by simp [go_sem]) (by simp) HROW.out (by intro z hz; rw [List.mem_singleton] at hz; subst hz; rfl) (by unfold maxLen; omega) (by omega) HLW.out.below.size ?_; intro v4 w4 ho4 hg4 hat4; obtain ⟨T4, c4, rfl⟩ := slice_of ho4; have HX4 := Lib.hid (And.intro ho4 (And.intro hg4 hat4)); clear ho4 hg4 hat4))
                  have HL4 := Lib.hid (NL.push HLW.out HRW.out HX4.out.2.1 HX4.out.1)
                  have HM4 := Lib.hid (NM.grown HMW.out HLW.out HX4.out.2.1 hne2)
                  have hne4 : (Value.slice T4 (s2.nl ++ [x.drop line.length]).length c4).ownBlock ≠ some hb := fun e => by
                    have hbl := HMW.out.1.lt
                    have e' : (Value.slice T4 (s2.nl.length + 1) c4).ownBlock = some hb := by rw [← e]; simp
                    rcases HX4.out.2.2 with h | h
                    · rw [h] at e'; exact hne2 e'
                    · rw [h] at e'; injection e' with e'; omega
                  go_wp2_with fail
                  go_roundw
                  case rel =>
                    refine ⟨j + 1, ⟨s2.nl ++ [x.drop line.length], line.length, some k, s2.gn⟩, T4, c4, L2 ++ [.slice A6 (x.length - line.length) (cv - line.length)], by omega, by go_num, ?_, by simp, by first | rfl | trivial, by first | rfl | trivial, ⟨p, rfl, HTR.out⟩, HL4.out, by simp; omega, HM4.out, hne4⟩
                    rw [HFOLD.out]
                    unfold oneName
                    rw [if_neg hle, if_pos hpre]
                  case measure => simp only [intOf]; omega
                · rw [decide_eq_false hpre]
                  go_wp2_with fail
                  go_roundw
                  case rel =>
                    refine ⟨j + 1, s2, T2, c2, L2, by omega, by go_num, ?_, by first | rfl | trivial, by first | rfl | trivial, by first | rfl | trivial, HCU2.out, HL5.out, by omega, HM5.out, hne2⟩
                    rw [HFOLD.out]
                    unfold oneName
                    rw [if_neg hle, if_neg hpre]
                  case measure => simp only [intOf]; omega
            · obtain rfl : j = 1 := by omega
              go_wp2_with fail
              go_roundw
              case rel =>
                refine ⟨i + 1, s2, T2, c2, L2, by omega, by go_num, ?_, rfl, rfl, rfl, HCU2.out, HNL2.out, by omega⟩
                rw [List.take_succ_eq_append_getElem hlt, List.foldl_append, ← HS.out, ← hk]
                show s2 = k.names.foldl (oneName line k) s
                rw [hnm, HS2.out]
                rfl
              case measure => simp only [intOf]; omega
        · have HQ := Lib.hid (And.intro hq (And.intro hQ (And.intro hqc (And.intro hpos (And.intro hlenS hstr)))))
          clear hq hQ hqc hpos hstr
          go_wp2_with fail
          refine (IsDynamic_calls p _ _ _ _ _ (HRK.out.stays HRA.out.2)).mono ?_
          rintro e w3 ⟨rfl, rfl⟩
          go_wp2_with fail
          refine (GetDyn_calls p _ _ _ q Q qc strs Ao lo co _ (HRK.out.stays HRA.out.2) (HQ.out.1.stays HRA.out.2) (Kd.C_below HQ.out.2.1 HRA.out.2) HQ.out.2.2.1 HQ.out.2.2.2.1 HQ.out.2.2.2.2.1 HQ.out.2.2.2.2.2 (Kd.C_below (Kd.C_below HOR.out.1 HNL.out.below) HRA.out.2) HOR.out.2).mono ?_
          rintro e wS ⟨hb, cN, CN, rfl, hNMd, hhb, hbS⟩
          have HbS := Lib.hid (show Below wr.heap.size wr wS from HRA.out.2.trans (hbS.mono HRA.out.2.size))
          have HNLS := Lib.hid (HNL.out.stays HbS.out)
          have HNM0 := Lib.hid (show NM w wS hb CN (strs.map nmOf) from hNMd)
          have hneS : (Value.slice T s.nl.length c').ownBlock ≠ some hb := fun e => by
            have h1 := (World.ownsRow.lt HNL.out.own _ e).2
            have h2 := HRA.out.2.size
            omega
          clear hhb HbS HRA k0 f0 hNMd hbS
          obtain ⟨k, hk⟩ : ∃ k, k = t.kids[i] := ⟨_, rfl⟩
          rw [← hk] at HTR hnm
          have hnl : ∀ y ∈ strs.map nmOf, y.length ≤ 1000000 := fun y hy => by
            obtain ⟨s, hs, rfl⟩ := List.mem_map.1 hy
            have := (HQ.out.2.2.2.2.2 s hs).2
            rw [nmOf_length]; omega
          have hlenN : (strs.map nmOf).length = strs.length := List.length_map ..
          rw [← hlenN] at hlenS
          clear HQ hlenN
          obtain ⟨nms, hnms⟩ : ∃ nms, nms = strs.map nmOf := ⟨_, rfl⟩
          rw [← hnms] at HNM0 hnl hlenS hnm ⊢
          clear hnms
          go_wp2_with fail
          have hnlA : ∀ y ∈ nms, y.length ≤ 1000000 := by simpa using hnl
          obtain ⟨i0, hi_, hz0_, hz1_, hz2_⟩ := infoR0_parts infoW
          have HI := Lib.hid (And.intro hi_ (And.intro hz0_ (And.intro hz1_ hz2_)))
          clear hi_ hz0_ hz1_ hz2_
          go_loopw [8, 9, 10, 11, 53] (fun v8 v9 v10 v11 v53 wq => ∃ (j : Nat) (s2 : Cs) (T2 : Option Addr) (c2 : Nat) (L2 : List Value), j ≤ nms.length ∧ v53 = .int .i64 j ∧ s2 = (nms.take j).foldl (oneName line k) s ∧ v8 = .slice T2 s2.nl.length c2 ∧ v9 = .int .i64 s2.off ∧ v10 = .bool s2.gn ∧ CurAt d w v11 s2.cur ∧ NL w wq T2 c2 s2.nl L2 ∧ s2.nl.length ≤ 1000000 * i + j ∧ NM w wq hb CN nms ∧ (Value.slice T2 s2.nl.length c2).ownBlock ≠ some hb) (fun _ _ _ _ v53 _ => nms.length - (intOf v53).toNat)
          case atStart => exact ⟨0, s, T, c', L, Nat.zero_le _, rfl, by simp, rfl, rfl, rfl, HCU.out, HNLS.out, by omega, HNM0.out, hneS⟩
          case round =>
            obtain ⟨j, s2, T2, c2, L2, hj, rfl, hs2, rfl, rfl, rfl, hcur2, hNL2, hsl2, hNM2, hne2⟩ := hrel
            have HNL2 := Lib.hid hNL2
            have HCU2 := Lib.hid hcur2
            have HS2 := Lib.hid hs2
            have HNM2 := Lib.hid hNM2
            clear hNL2 hcur2 hs2 hNM2
            by_cases hjl : j < nms.length
            · have hjl' : j < nms.length := by simpa using hjl
              obtain ⟨v, hv, hrv⟩ := HNM2.out.2 j nms[j] (List.getElem?_eq_getElem hjl')
              have y0 := HNM2.out.1.cell j hv
              have HFOLD := Lib.hid (show (nms.take (j + 1)).foldl (oneName line k) s = oneName line k s2 nms[j] by rw [List.take_succ_eq_append_getElem hjl', List.foldl_append, ← HS2.out]; rfl)
              have hnb : nms[j].length ≤ 1000000 := hnlA _ (List.getElem_mem hjl')
              obtain ⟨x, hx⟩ : ∃ x, x = nms[j] := ⟨_, rfl⟩
              rw [← hx] at hrv HFOLD hnb
              clear hx hv
              obtain ⟨Av, cv, rfl, hcv, hCv, hbv⟩ := id hrv
              have HRV := Lib.hid (And.intro hrv hCv)
              clear hrv hCv hbv
              have hbq := HNL2.out.below
              have HLQ := Lib.hid (Kd.C_below HLN.out.1 (show Below w.drew.heap.size w.drew _ from ⟨hbq.os, hbq.tape, hbq.output, hbq.size, hbq.block⟩))
              clear hbq
              clear hmd hmn hmy hmake hass hmk he156 he158 he159 he157
              by_cases hle : x.length ≤ line.length
              · have q1 : decide ((x.length : Int) ≤ (line.length : Int)) = true := decide_eq_true (by omega)
                have q2 : decide (x.length ≤ line.length) = true := decide_eq_true hle
                go_wp2_with fail
                refine (HasPrefix_calls A1 Av c1 cv line x _ HLQ.out hc1 HRV.out.2 hcv hln (by omega) hle).mono ?_
                rintro e w5 ⟨rfl, hb5⟩
                have HL5 := Lib.hid (HNL2.out.stays hb5)
                have HM5 := Lib.hid (HNM2.out.below hb5)
                have HRK5 := Lib.hid (HRV.out.1.below hb5)
                clear hb5
                by_cases hpre : line.take x.length = x
                · rw [decide_eq_true hpre]
                  by_cases heq : line.length = x.length
                  · have q3 : ((line.length : Int) == (x.length : Int)) = true := beq_iff_eq.2 (by omega)
                    have q4 : (line.length == x.length) = true := beq_iff_eq.2 heq
                    have HEQ := Lib.hid heq
                    clear heq
                    have hb6 : Below w5.heap.size w5 (w5.alloc (.cells #[.int .i32 32] 21)) := (Below.refl _ _).alloc (Nat.le_refl _) _
                    have hb7 : Below w5.heap.size w5 ((w5.alloc (.cells #[.int .i32 32] 21)).alloc (.cells #[.slice (some ⟨w5.heap.size, 0, none⟩) 1 1] 27)) := hb6.alloc hb6.size _
                    have HROW := Lib.hid (row_at (w := w5.alloc (.cells #[.int .i32 32] 21)) (H := w5.heap.size + 1) (by simp) (.slice (some ⟨w5.heap.size, 0, none⟩) 1 1) 27)
                    have HLW := Lib.hid (HL5.out.stays hb7)
                    have HMW := Lib.hid (HM5.out.below hb7)
                    have HRW := Lib.hid ((RowK.new w w5 32 HL5.out.below.size).below (show Below (w5.alloc (.cells #[.int .i32 32] 21)).heap.size _ ((w5.alloc (.cells #[.int .i32 32] 21)).alloc (.cells #[.slice (some ⟨w5.heap.size, 0, none⟩) 1 1] 27)) from (Below.refl _ _).alloc (Nat.le_refl _) _))
                    clear hb6 hb7
                    go_wp2_with (at_builtin; go_loud (refine wpList_append_any _ rfl (.tmp 71) (.tmp 73) _ rfl w.heap.size 27 i0 (.slice none 0 0) 1 24 Tryd.underlying59 HI.out.1 HI.out.2.1 HI.out.2.2.1 HI.out.2.2.2 rfl (by omega) (.slice T2 s2.nl.length c2) s2.nl.length L2 rfl HLW.out.own ⟨w5.heap.size + 1, 0, none⟩ 1 1 [.slice (some ⟨w5.heap.size, 0, none⟩) 1 1] (by simp [go_sem]) (by simp) HROW.out (by intro z hz; rw [List.mem_singleton] at hz; subst hz; rfl) (by unfold maxLen; omega) (by omega) HLW.out.below.size ?_; intro v4 w4 ho4 hg4 hat4; obtain ⟨T4, c4, rfl⟩ := slice_of ho4; have HX4 := Lib.hid (And.intro ho4 (And.intro hg4 hat4)); clear ho4 hg4 hat4))
                    have HL4 := Lib.hid (NL.push HLW.out HRW.out HX4.out.2.1 HX4.out.1)
                    have HM4 := Lib.hid (NM.grown HMW.out HLW.out HX4.out.2.1 hne2)
                    have hne4 : (Value.slice T4 (s2.nl ++ [[32]]).length c4).ownBlock ≠ some hb := fun e => by
                      have hbl := HMW.out.1.lt
                      have e' : (Value.slice T4 (s2.nl.length + 1) c4).ownBlock = some hb := by rw [← e]; simp
                      rcases HX4.out.2.2 with h | h
                      · rw [h] at e'; exact hne2 e'
                      · rw [h] at e'; injection e' with e'; omega
                    go_wp2_with fail
                    go_roundw
                    case rel =>
                      refine ⟨j + 1, ⟨s2.nl ++ [[32]], x.length, some k, true⟩, T4, c4, L2 ++ [.slice (some ⟨w5.heap.size, 0, none⟩) 1 1], by omega, by go_num, ?_, by simp, by first | rfl | trivial, by first | rfl | trivial, ⟨p, rfl, HTR.out⟩, HL4.out, by simp; omega, HM4.out, hne4⟩
                      rw [HFOLD.out]
                      unfold oneName
                      rw [if_pos hle, if_pos hpre, if_pos HEQ.out]
                    case measure => simp only [intOf]; omega
                  · have q3 : ((line.length : Int) == (x.length : Int)) = false := beq_eq_false_iff_ne.2 (by omega)
                    have q4 : (line.length == x.length) = false := beq_eq_false_iff_ne.2 heq
                    have hb7 : Below w5.heap.size w5 (w5.alloc (.cells #[.slice Av x.length cv] 27)) := (Below.refl _ _).alloc (Nat.le_refl _) _
                    have HROW := Lib.hid (row_at (w := w5) (H := w5.heap.size) rfl (.slice Av x.length cv) 27)
                    have HLW := Lib.hid (HL5.out.stays hb7)
                    have HMW := Lib.hid (HM5.out.below hb7)
                    have HRW := Lib.hid (HRK5.out.below hb7)
                    clear hb7
                    go_wp2_with (at_builtin; go_loud (refine wpList_append_any _ rfl (.tmp 75) (.tmp 77) _ rfl w.heap.size 27 i0 (.slice none 0 0) 1 24 Tryd.underlying59 HI.out.1 HI.out.2.1 HI.out.2.2.1 HI.out.2.2.2 rfl (by omega) (.slice T2 s2.nl.length c2) s2.nl.length L2 rfl HLW.out.own ⟨w5.heap.size, 0, none⟩ 1 1 [.slice Av x.length cv] (by simp [go_sem]) (by simp) HROW.out (by intro z hz; rw [List.mem_singleton] at hz; subst hz; rfl) (by unfold maxLen; omega) (by omega) HLW.out.below.size ?_; intro v4 w4 ho4 hg4 hat4; obtain ⟨T4, c4, rfl⟩ := slice_of ho4; have HX4 := Lib.hid (And.intro ho4 (And.intro hg4 hat4)); clear ho4 hg4 hat4))
                    have HL4 := Lib.hid (NL.push HLW.out HRW.out HX4.out.2.1 HX4.out.1)
                    have HM4 := Lib.hid (NM.grown HMW.out HLW.out HX4.out.2.1 hne2)
                    have hne4 : (Value.slice T4 (s2.nl ++ [x]).length c4).ownBlock ≠ some hb := fun e => by
                      have hbl := HMW.out.1.lt
                      have e' : (Value.slice T4 (s2.nl.length + 1) c4).ownBlock = some hb := by rw [← e]; simp
                      rcases HX4.out.2.2 with h | h
                      · rw [h] at e'; exact hne2 e'
                      · rw [h] at e'; injection e' with e'; omega
                    go_wp2_with fail
                    go_roundw
                    case rel =>
                      refine ⟨j + 1, ⟨s2.nl ++ [x], x.length, some k, true⟩, T4, c4, L2 ++ [.slice Av x.length cv], by omega, by go_num, ?_, by simp, by first | rfl | trivial, by first | rfl | trivial, ⟨p, rfl, HTR.out⟩, HL4.out, by simp; omega, HM4.out, hne4⟩
                      rw [HFOLD.out]
                      unfold oneName
                      rw [if_pos hle, if_pos hpre, if_neg heq]
                    case measure => simp only [intOf]; omega
                · rw [decide_eq_false hpre]
                  go_wp2_with fail
                  go_roundw
                  case rel =>
                    refine ⟨j + 1, s2, T2, c2, L2, by omega, by go_num, ?_, by first | rfl | trivial, by first | rfl | trivial, by first | rfl | trivial, HCU2.out, HL5.out, by omega, HM5.out, hne2⟩
                    rw [HFOLD.out]
                    unfold oneName
                    rw [if_pos hle, if_neg hpre]
                  case measure => simp only [intOf]; omega
              · have q1 : decide ((x.length : Int) ≤ (line.length : Int)) = false := decide_eq_false (by omega)
                have q2 : decide (x.length ≤ line.length) = false := decide_eq_false hle
                go_wp2_with fail
                refine (HasPrefix_calls Av A1 cv c1 x line _ HRV.out.2 hcv HLQ.out hc1 (by omega) hln (by omega)).mono ?_
                rintro e w5 ⟨rfl, hb5⟩
                have HL5 := Lib.hid (HNL2.out.stays hb5)
                have HM5 := Lib.hid (HNM2.out.below hb5)
                have HRK5 := Lib.hid (HRV.out.1.below hb5)
                clear hb5
                by_cases hpre : x.take line.length = line
                · rw [decide_eq_true hpre]
                  obtain ⟨A6, hcut6, hC6, hc6, hk6⟩ := RowK.cut HRK5.out (m := line.length) (by omega)
                  have hb7 : Below w5.heap.size w5 (w5.alloc (.cells #[.slice A6 (x.length - line.length) (cv - line.length)] 27)) := (Below.refl _ _).alloc (Nat.le_refl _) _
                  have HROW := Lib.hid (row_at (w := w5) (H := w5.heap.size) rfl (.slice A6 (x.length - line.length) (cv - line.length)) 27)
                  have HLW := Lib.hid (HL5.out.stays hb7)
                  have HMW := Lib.hid (HM5.out.below hb7)
                  have HRW := Lib.hid (hk6.below hb7)
                  clear hb7 hC6 hk6
                  go_wp2_with (at_builtin; go_loud (refine wpList_append_any _ rfl (.tmp 86) (.tmp 91) _ rfl w.heap.size 27 i0 (.slice none 0 0) 1 24 Tryd.underlying59 HI.out.1 HI.out.2.1 HI.out.2.2.1 HI.out.2.2.2 rfl (by omega) (.slice T2 s2.nl.length c2) s2.nl.length L2 rfl HLW.out.own ⟨w5.heap.size, 0, none⟩ 1 1 [.slice A6 (x.length - line.length) (cv - line.length)] (by simp [go_sem]) (by simp) HROW.out (by intro z hz; rw [List.mem_singleton] at hz; subst hz; rfl) (by unfold maxLen; omega) (by omega) HLW.out.below.size ?_; intro v4 w4 ho4 hg4 hat4; obtain ⟨T4, c4, rfl⟩ := slice_of ho4; have HX4 := Lib.hid (And.intro ho4 (And.intro hg4 hat4)); clear ho4 hg4 hat4))
                  have HL4 := Lib.hid (NL.push HLW.out HRW.out HX4.out.2.1 HX4.out.1)
                  have HM4 := Lib.hid (NM.grown HMW.out HLW.out HX4.out.2.1 hne2)
                  have hne4 : (Value.slice T4 (s2.nl ++ [x.drop line.length]).length c4).ownBlock ≠ some hb := fun e => by
                    have hbl := HMW.out.1.lt
                    have e' : (Value.slice T4 (s2.nl.length + 1) c4).ownBlock = some hb := by rw [← e]; simp
                    rcases HX4.out.2.2 with h | h
                    · rw [h] at e'; exact hne2 e'
                    · rw [h] at e'; injection e' with e'; omega
                  go_wp2_with fail
                  go_roundw
                  case rel =>
                    refine ⟨j + 1, ⟨s2.nl ++ [x.drop line.length], line.length, some k, s2.gn⟩, T4, c4, L2 ++ [.slice A6 (x.length - line.length) (cv - line.length)], by omega, by go_num, ?_, by simp, by first | rfl | trivial, by first | rfl | trivial, ⟨p, rfl, HTR.out⟩, HL4.out, by simp; omega, HM4.out, hne4⟩
                    rw [HFOLD.out]
                    unfold oneName
                    rw [if_neg hle, if_pos hpre]
                  case measure => simp only [intOf]; omega
                · rw [decide_eq_false hpre]
                  go_wp2_with fail
                  go_roundw
                  case rel =>
                    refine ⟨j + 1, s2, T2, c2, L2, by omega, by go_num, ?_, by first | rfl | trivial, by first | rfl | trivial, by first | rfl | trivial, HCU2.out, HL5.out, by omega, HM5.out, hne2⟩
                    rw [HFOLD.out]
                    unfold oneName
                    rw [if_neg hle, if_neg hpre]
                  case measure => simp only [intOf]; omega
            · obtain rfl : j = nms.length := by omega
              go_wp2_with fail
              go_roundw
              case rel =>
                refine ⟨i + 1, s2, T2, c2, L2, by omega, by go_num, ?_, rfl, rfl, rfl, HCU2.out, HNL2.out, by omega⟩
                rw [List.take_succ_eq_append_getElem hlt, List.foldl_append, ← HS.out, ← hk]
                show s2 = k.names.foldl (oneName line k) s
                rw [hnm, HS2.out]
                rw [List.take_length]
              case measure => simp only [intOf]; omega
      · obtain rfl : i = t.kids.length := by omega
        have hs1 := HS.out
        rw [List.take_length] at hs1
        have HOK := Lib.hid (show Csok line t.kids s from hs1 ▸ Csok.kids t.kids (fun _ h => h) (Csok.start line t.kids))
        have HS1 := Lib.hid hs1
        clear hs1 HS hmk he156 he158 he159
        by_cases h1 : s.nl.length = 1
        · obtain ⟨cT, hcT⟩ := HOK.out.one (by omega)
          have hcu := HCU.out
          rw [hcT] at hcu
          obtain ⟨p, rfl, htr⟩ := hcu
          have HTR := Lib.hid htr
          have HCT := Lib.hid hcT
          clear htr hcT HCU
          have q1 : ((s.nl.length : Int) != 1) = false := by simp; omega
          have q2 : (s.nl.length != 1) = false := by simp; omega
          obtain ⟨i0, hi_, hz0_, hz1_, hz2_⟩ := infoR0_parts infoI
          obtain ⟨wM, hmake, hown, hgr⟩ := run_make_own (P := Tryd.prog) wr w.heap.size 27 21 i0 (.int .i32 0) 1 Tryd.underlying27 hi_ hz0_ hz1_ .i64 .i64 line.length (by rw [hz2_]; omega) (by unfold maxLen; omega) HNL.out.below.size
          have hbM : Below w.heap.size w wM := HNL.out.below.grown hgr HNL.out.below.size (fun k hk => by cases hk)
          have HNLM := Lib.hid (HNL.out.stays (show Below wr.heap.size wr wM from ⟨hgr.os, hgr.tape, hgr.output, hgr.size, fun k hk => hgr.block k hk (by simp)⟩))
          have HRL := Lib.hid (Kd.C_below HLN.out.1 (show Below w.drew.heap.size w.drew wM from ⟨hbM.os, hbM.tape, hbM.output, hbM.size, hbM.block⟩))
          have HI := Lib.hid (And.intro hi_ (And.intro hz0_ (And.intro hz1_ hz2_)))
          have HOWN := Lib.hid hown
          have hoff := HOK.out.off
          clear hi_ hz0_ hz1_ hz2_ hown hgr hbM HNL
          obtain ⟨hm, hhm⟩ : ∃ hm, hm = wr.heap.size := ⟨_, rfl⟩
          rw [← hhm] at hmake HOWN
          clear hhm
          go_wp2_with fail
          go_loopw [8, 9, 19, 20] (fun v8 v9 v19 v20 wq => ∃ i' : Nat, s.off ≤ i' ∧ i' ≤ line.length ∧ v8 = .slice T s.nl.length c' ∧ v9 = .int .i64 s.off ∧ v19 = .slice (some ⟨hm, 0, none⟩) 0 line.length ∧ v20 = .int .i64 i' ∧ wM = wq ∧ (line.drop s.off).dropWhile isBl = (line.drop i').dropWhile isBl) (fun _ _ _ v20 _ => line.length - (intOf v20).toNat)
          case atStart => exact ⟨s.off, Nat.le_refl _, hoff, rfl, rfl, rfl, rfl, rfl, rfl⟩
          case round =>
            obtain ⟨i', hi0, hi1, rfl, rfl, rfl, rfl, rfl, hdw⟩ := hrel
            have HDW := Lib.hid hdw
            clear hdw
            by_cases hlt2 : i' < line.length
            · obtain ⟨ad1, hA1, q0⟩ := Kd.at_int HRL.out (i' : Int) (by omega) (by omega)
              subst hA1
              have hrd : rd line (i' : Int) = line[i'] := rd_nat line i' hlt2
              rw [hrd, Int.toNat_natCast] at q0
              have hD2 := List.drop_eq_getElem_cons hlt2
              obtain ⟨x, hxx⟩ : ∃ x, x = line[i'] := ⟨_, rfl⟩
              rw [← hxx] at q0 hD2
              clear hxx hrd
              have HD2 := Lib.hid hD2
              clear hD2
              by_cases hsp : x = 32
              · have q3 : (x == 32) = true := beq_iff_eq.2 hsp
                have HSP := Lib.hid hsp
                clear hsp
                go_wp2_with fail
                go_roundw
                case rel =>
                  refine ⟨i' + 1, by omega, by omega, by first | rfl | trivial, by first | rfl | trivial, by first | rfl | trivial, by go_num, by first | rfl | trivial, ?_⟩
                  rw [HDW.out, HD2.out, List.dropWhile_cons_of_pos (p := isBl) (by rw [HSP.out]; rfl)]
                case measure => simp only [intOf]; omega
              · have q3 : (x == 32) = false := beq_eq_false_iff_ne.2 hsp
                have hnb : ¬ isBl x = true := by simpa [isBl] using hsp
                have HSP := Lib.hid hnb
                clear hsp hnb
                obtain ⟨A6, hcut6, hC6⟩ : ∃ A6, (∀ W : World, (Instr.slice 27 (.slice (some ad1) line.length c1) (some (.int .i64 (i' : Int))) none none).run Tryd.prog W = .ok (.slice A6 (line.length - i') (c1 - i')) W) ∧ Kd.C (Kd.int .i32) wM A6 (line.length - i') (line.drop i') := ⟨_, (cut_C (A := some ad1) (c := c1) (l := line) (m := i') hi1 hc1).1, (cut_C (A := some ad1) (c := c1) (l := line) (m := i') hi1 hc1).2 _ HRL.out⟩
                have hlen6 : (line.drop i').length = line.length - i' := List.length_drop
                obtain ⟨hz6, _, hcell6⟩ := Kd.reads_of_C (enc := Value.int .i32) (d := (0 : Int)) (h1 := fun _ => rfl) hC6
                obtain ⟨ad6, hA6, hcl6⟩ := hcell6 (by omega)
                subst hA6
                have HROW := Lib.hid (show ∀ j u, ((line.drop i').map (Value.int .i32))[j]? = some u → wM.cell? (ad6.add j) = some u from fun j u hu => by
                  have hjl : j < (line.drop i').length := by have := (List.getElem?_eq_some_iff.1 hu).1; simpa using this
                  rw [hcl6 j (by omega), List.getD_eq_getElem?_getD, List.getElem?_eq_getElem hjl]
                  rw [List.getElem?_map, List.getElem?_eq_getElem hjl] at hu
                  simpa using hu)
                have hlc : ((line.drop i').map (Value.int .i32)).length = (line.length - i') * 1 := by rw [List.length_map, hlen6, Nat.mul_one]
                have HLC := Lib.hid (And.intro hlc hlen6)
                clear hlc hlen6 hz6 hcell6 hcl6 hC6
                go_wp2_with (at_builtin; go_loud (refine wpList_append_any _ rfl (.tmp 116) (.tmp 119) _ rfl w.heap.size 21 i0 (.int .i32 0) 1 4 Tryd.underlying27 HI.out.1 HI.out.2.1 HI.out.2.2.1 HI.out.2.2.2 rfl (by omega) (.slice (some ⟨hm, 0, none⟩) 0 line.length) 0 [] rfl HOWN.out ad6 (line.length - i') (c1 - i') ((line.drop i').map (Value.int .i32)) (by simp [go_sem]) HLC.out.1 HROW.out (by intro z hz; obtain ⟨y, _, rfl⟩ := List.mem_map.1 hz; rfl) (by unfold maxLen; omega) (by omega) HNLM.out.below.size ?_; intro v4 w4 ho4 hg4 hat4; obtain ⟨T4, c4, rfl⟩ := slice_of ho4; have HX4 := Lib.hid (And.intro ho4 (And.intro hg4 hat4)); clear ho4 hg4 hat4))
                have HB4 := Lib.hid (show Below w.heap.size w w4 from HNLM.out.below.grown HX4.out.2.1 HNLM.out.below.size (fun k hk => (World.ownsRow.lt HOWN.out k hk).1))
                have ho5 : w4.ownsRow w.heap.size 21 1 (.slice T4 (0 + (line.length - i')) c4) (line.drop i').length (encs (Value.int .i32) (line.drop i')) := by
                  have := HX4.out.1
                  rw [HLC.out.2, encs]
                  rw [Nat.zero_add] at this ⊢
                  exact this
                have hR5 := Kd.R_reads' (Kd.R_of_own (h1 := fun _ => rfl) ho5 (ok := fun _ => True) (fun _ _ => trivial))
                have hlx5 : ∀ y ∈ line.drop i', 0 ≤ y ∧ y < 128 := fun y hy => HLN.out.2.2.2.1 y (List.mem_of_mem_drop hy)
                have h := IH.out p cT (line.drop i') T4 c4 (line.length - i') Ao lo co w4 (HTR.out.below' HB4.out) (Kd.C_below HOR.out.1 HB4.out) HOR.out.2 hR5.2.2 (by have := hR5.2.1; have := hR5.1; omega) (by have := HLC.out.2; omega) hlx5 (by have := HLC.out.2; omega)
                rw [List.take_of_length_le (by have := HLC.out.2; omega), HLC.out.2] at h
                refine h.mono ?_
                clear h hR5 ho5 hlx5
                rintro e w5 ⟨T5, c5, rfl, h5, hRW5, hb5⟩
                have HFIN := Lib.hid (And.intro h5 (And.intro hRW5 (below_step HB4.out hb5)))
                clear h5 hRW5 hb5
                go_wp2_with fail
                refine bodyPost_ret (results_tmp2 rfl _ _ _) rfl ?_
                rw [HCOMP.out, compL_go (x := x) (r := line.drop (i' + 1)) HS1.out h1 HCT.out (by rw [HDW.out, HD2.out, List.dropWhile_cons_of_neg (p := isBl) HSP.out]), ← HD2.out]
                exact ⟨T5, c5, rfl, HFIN.out.1, HFIN.out.2.1, HFIN.out.2.2⟩
            · obtain rfl : i' = line.length := by omega
              have HDE := Lib.hid (show (line.drop s.off).dropWhile isBl = [] by rw [HDW.out]; simp)
              obtain ⟨gv, hgv⟩ : ∃ gv, gv = s.gn := ⟨_, rfl⟩
              rw [← hgv]
              have HGV := Lib.hid hgv
              clear hgv
              cases gv with
              | true =>
                go_wp2_with fail
                have h := IH.out p cT [] none 0 0 Ao lo co wM (HTR.out.below' HNLM.out.below) (Kd.C_below HOR.out.1 HNLM.out.below) HOR.out.2 (Kd.C_of_reads (enc := Value.int .i32) (d := (0 : Int)) ⟨rfl, by simp, fun h => absurd h (by simp)⟩) (Nat.le_refl _) (by simp) (by simp) (Nat.le_refl _)
                refine h.mono ?_
                clear h
                rintro e w5 ⟨T5, c5, rfl, h5, hRW5, hb5⟩
                have HFIN := Lib.hid (And.intro h5 (And.intro hRW5 (below_step HNLM.out.below hb5)))
                clear h5 hRW5 hb5
                go_wp2_with fail
                refine bodyPost_ret (results_tmp2 rfl _ _ _) rfl ?_
                rw [HCOMP.out, compL_end HS1.out h1 HCT.out HDE.out, if_pos HGV.out.symm]
                exact ⟨T5, c5, rfl, HFIN.out.1, HFIN.out.2.1, HFIN.out.2.2⟩
              | false =>
                go_wp2_with fail
                refine bodyPost_ret (results_tmp2 rfl _ _ _) rfl ?_
                obtain ⟨hRW, hle⟩ := HNLM.out.out
                rw [HCOMP.out, compL_end HS1.out h1 HCT.out HDE.out, if_neg (by rw [← HGV.out]; simp)]
                exact ⟨T, c', by rw [h1]; rfl, hle, hRW, HNLM.out.below⟩
        · have q1 : ((s.nl.length : Int) != 1) = true := by simp; omega
          have q2 : (s.nl.length != 1) = true := by simp; omega
          go_wp2_with fail
          refine bodyPost_ret (results_tmp2 rfl _ _ _) rfl ?_
          obtain ⟨hRW, hle⟩ := HNL.out.out
          rw [HCOMP.out, compL_many HS1.out h1]
          exact ⟨T, c', rfl, hle, hRW, HNL.out.below⟩
theorem doI_calls (d : Nat) : DoI d := by
  induction d with
  | zero => exact fun m t l A c n Ao lo co w h => h.elim
  | succ d ih => exact fun m t l A c n Ao lo co w => doI_step d ih m t l A c n Ao lo co w
end Go.Proofs.YthbdaoapjnofkaaDoor.H
