/- What a completer whose first words a function tells offers (impl.CompletedBy): its contract; for ASCII words of at most 100000 bytes each, at most 1000000, one first word at least, ASCII lines of at most 1000000 bytes, places in the line. -/
import Derived.Test.YthbdaoapjnofkaaDoorQHCyF
namespace Go.Proofs.YthbdaoapjnofkaaDoor.H
open Go.RowKit Go.Proofs.YthbdaoapjnofkaaDoorW.PrintWords Go.Proofs.YthbdaoapjnofkaaDoorW.PrintLast Go.Proofs.YthbdaoapjnofkaaDoor.R Go.Proofs.YthbdaoapjnofkaaDoor.X
set_option linter.unusedVariables false
set_option linter.unusedSimpArgs false
attribute [local go_sem ↓] Go.wp_at_zero Go.wp_at_succ
/-- Behind some words: the completers so far, in a row of their own from block B on. -/
structure OutB (B : Nat) (w : World) (K : Nat) (T : Option Addr) (c : Nat) (F : List Tr) (L : List Value) : Prop where
  own : w.ownsRow B 127 1 (.slice T F.length c) F.length L
  row : ∀ (j : Nat) (t : Tr), F[j]? = some t → ∃ p, L[j]? = some (.iface 80 (PtS p)) ∧ TrIn (fun k => B ≤ k ∧ (Value.slice T F.length c).ownBlock ≠ some k) K w p t
theorem OutB.start (B : Nat) (w : World) (K : Nat) : OutB B w K none 0 [] [] := ⟨World.ownsRow_nil _ _ _ _, fun _ _ h => by simp at h⟩
theorem OutB.stays {B K : Nat} {w w1 : World} {T : Option Addr} {c : Nat} {F : List Tr} {L : List Value} (h : OutB B w K T c F L) (hb : Below w.heap.size w w1) : OutB B w1 K T c F L :=
  ⟨own_move h.own (fun k hk => hb.block k (World.ownsRow.lt h.own k hk).2), fun j t hj => by
    obtain ⟨p, hp, ht⟩ := h.row j t hj
    exact ⟨p, hp, ht.below hb⟩⟩
theorem OutB.set {B K q i : Nat} {w : World} {T : Option Addr} {c : Nat} {F : List Tr} {L : List Value} (h : OutB B w K T c F L) (hq : q < B) (u : Value) : OutB B (w.setCell ⟨q, i, none⟩ u) K T c F L :=
  ⟨own_move h.own (fun k hk => Below.heap_setCell w ⟨q, i, none⟩ u k (by have := (World.ownsRow.lt h.own k hk).1; show k ≠ q; omega)), fun j t hj => by
    obtain ⟨p, hp, ht⟩ := h.row j t hj
    exact ⟨p, hp, ht.move fun k hk hS => ⟨Below.heap_setCell w ⟨q, i, none⟩ u k (by have := hS.1; show k ≠ q; omega), hS⟩⟩⟩
theorem OutB.push {w w4 : World} {B K B1 d p : Nat} {T T1 : Option Addr} {c c1 : Nat} {F : List Tr} {L : List Value} {t : Tr} (h : OutB B w K T c F L) (ht : TrIn (fun k => B1 ≤ k) d w p t) (hd : d ≤ K) (hB : B ≤ B1) (hlt : ∀ k, (Value.slice T F.length c).ownBlock = some k → k < B1)
    (ho : w4.ownsRow B 127 1 (.slice T1 (F.length + 1) c1) (F.length + 1) (L ++ [.iface 80 (PtS p)])) (hg : w.grownBy w4 (Value.slice T F.length c).ownBlock) (hat : (Value.slice T1 (F.length + 1) c1).ownBlock = (Value.slice T F.length c).ownBlock ∨ (Value.slice T1 (F.length + 1) c1).ownBlock = some w.heap.size) : OutB B w4 K T1 c1 (F ++ [t]) (L ++ [.iface 80 (PtS p)]) := by
  have hLl : L.length = F.length := by have := h.own.1; omega
  have hnew : ∀ k, k < w.heap.size → (Value.slice T F.length c).ownBlock ≠ some k → (Value.slice T1 (F ++ [t]).length c1).ownBlock ≠ some k := fun k hk hne e => by
    have e' : (Value.slice T1 (F.length + 1) c1).ownBlock = some k := by rw [← e]; simp
    rcases hat with h1 | h1
    · rw [h1] at e'; exact hne e'
    · rw [h1] at e'; injection e' with e'; omega
  have hmv : ∀ {q : Nat} {u : Tr}, TrIn (fun k => B ≤ k ∧ (Value.slice T F.length c).ownBlock ≠ some k) K w q u → TrIn (fun k => B ≤ k ∧ (Value.slice T1 (F ++ [t]).length c1).ownBlock ≠ some k) K w4 q u :=
    fun hu => hu.move fun k hk hS => ⟨hg.block k hk (fun e => hS.2 e.symm), hS.1, hnew k hk hS.2⟩
  refine ⟨by simpa using ho, fun j u hj => ?_⟩
  rcases Nat.lt_or_ge j F.length with hjl | hge
  · rw [List.getElem?_append_left hjl] at hj
    obtain ⟨q, hq, hr⟩ := h.row j u hj
    exact ⟨q, by rw [List.getElem?_append_left (by omega)]; exact hq, hmv hr⟩
  · obtain rfl : j = F.length := by
      have : j < (F ++ [t]).length := (List.getElem?_eq_some_iff.1 hj).1
      simp at this; omega
    rw [List.getElem?_append_right (Nat.le_refl _), Nat.sub_self] at hj
    obtain rfl : t = u := by simpa using hj
    exact ⟨p, by rw [← hLl, List.getElem?_append_right (Nat.le_refl _), Nat.sub_self]; rfl, hmv ((ht.upto hd).move fun k hk hS => ⟨rfl, by have : B1 ≤ k := hS; omega, fun e => by have := hlt k e; have : B1 ≤ k := hS; omega⟩)⟩
theorem OutB.out {B K : Nat} {w : World} {T : Option Addr} {c : Nat} {F : List Tr} {L : List Value} (h : OutB B w K T c F L) : KidsIn (fun k => B ≤ k) K w T F ∧ F.length ≤ c := by
  obtain ⟨hl, h1 | ⟨g, cap, cur, e, hg, hh, hn, hm, hs, ht⟩⟩ := h.own
  · obtain ⟨e, h0⟩ := h1
    refine ⟨fun j t hj => ?_, by omega⟩
    have : j < F.length := (List.getElem?_eq_some_iff.1 hj).1
    omega
  · injection e with e1 e2 e3
    subst e1 e3
    refine ⟨fun j t hj => ?_, hn⟩
    have hjl : j < F.length := (List.getElem?_eq_some_iff.1 hj).1
    obtain ⟨p, hp, hr⟩ := h.row j t hj
    have hR : Rec w g cur.toList 127 := by unfold Rec; simpa using hh
    exact ⟨g, p, rfl, hg, hR.cell j (by rw [← hp, ← ht, List.getElem?_take_of_lt (by omega)]), hr.move fun k hk hS => ⟨rfl, hS.1⟩⟩
theorem info127b : (Tryd.prog.info? 127).map (fun i => (i.zero, i.size, i.bytes)) = some (some .nilIface, 1, 16) := by kernel_rfl
theorem op_append {P : Program} {w : World} {o : Oper} {a : Act} {K : Act → World → Prop} {Q : Exit → Act → World → Prop} (d : Nat) (hd : o.dst = some d) (s x : Operand) (t : TypeId)
    (ho : o.op = .call { callee := .builtin .append, args := #[s, x], argTypes := #[t, t] }) (v X v' : Value) (w' : World) (hs : a.eval s = v) (hx : a.eval x = X)
    (hrun : (Builtin.append_ #[t, t] o.type #[v, X]).run P w = .ok v' w') (h : K (a.put (some d) v') w') : Oper.wp P o a w K Q := by
  unfold Oper.wp
  simp [execOp, ho, resolve, invoke, builtin, hs, hx, hrun, Result.andThen]
  unfold Oper.upon
  rw [hd]
  exact h
theorem enter53 : ∀ args w, (callFunc 53 args).run Tryd.prog w = .ok (.enter 53 args) w := fun args w => enters_ Tryd.func53 (by kernel_rfl) rfl args w
def leaf (s : ByteArray) : Tr := .node false [nmOf s] []
set_option maxRecDepth 100000 in
set_option maxHeartbeats 32000000 in
theorem CompletedBy_calls (Q : Option Addr) (qc : Nat) (strs : List ByteArray) (Z : Option Addr) (zc : Nat) (thens : List ByteArray) (n : Nat) (s : ByteArray) (w : World) (hQ : Kd.C Kd.string w Q strs.length strs) (hqc : strs.length ≤ qc) (hpos : 0 < strs.length) (hlen : strs.length ≤ 1000000) (hstr : ∀ s ∈ strs, Asc s ∧ s.size ≤ 100000) (hZ : Kd.C Kd.string w Z thens.length thens) (hzc : thens.length ≤ zc) (hzl : thens.length ≤ 1000000) (hzs : ∀ s ∈ thens, Asc s ∧ s.size ≤ 100000) (hs : Asc s) (hsz : s.size ≤ 1000000) (hn : n ≤ s.size) :
    Calls Tryd.prog 27 #[.slice Q strs.length qc, .slice Z thens.length zc, .string s, .int .i64 n] w fun e w' => ∃ T c', e = .returned (.tuple #[.slice T (comp 3 (.node false [[32]] [.node true (strs.map nmOf) (thens.map leaf)]) ((ints s).take n)).1.length c', .int .i64 (comp 3 (.node false [[32]] [.node true (strs.map nmOf) (thens.map leaf)]) ((ints s).take n)).2, .bool true]) ∧ w'.ownsRow w.heap.size 9 1 (.slice T (comp 3 (.node false [[32]] [.node true (strs.map nmOf) (thens.map leaf)]) ((ints s).take n)).1.length c') (comp 3 (.node false [[32]] [.node true (strs.map nmOf) (thens.map leaf)]) ((ints s).take n)).1.length (((comp 3 (.node false [[32]] [.node true (strs.map nmOf) (thens.map leaf)]) ((ints s).take n)).1.map runesBytes).map Value.string) ∧ Below w.heap.size w w' := by
  obtain ⟨r, hrr⟩ : ∃ r, r = comp 3 (.node false [[32]] [.node true (strs.map nmOf) (thens.map leaf)]) ((ints s).take n) := ⟨_, rfl⟩
  have HRR := Lib.hid hrr
  rw [← hrr]
  have HSS := Lib.hid hs
  obtain ⟨wA, hwA⟩ : ∃ wA, wA = ((((w.alloc (.cells #[.slice Q strs.length qc] 22)).alloc (.cells #[.string s] 9)).alloc (.cells #[.int .i64 n] 3)).alloc (.cells #[.int .i64 0] 3)).alloc (.cells #[.slice none 0 0] 79) := ⟨_, rfl⟩
  have hbA : Below w.heap.size w wA := hwA ▸ (((((Below.refl _ _).alloc (Nat.le_refl _) _).alloc (by simp) _).alloc (by simp; omega) _).alloc (by simp; omega) _).alloc (by simp; omega) _
  have hzA : wA.heap.size = w.heap.size + 5 := by rw [hwA]; simp
  have o0 : One wA w.heap.size (.slice Q strs.length qc) 22 := hwA ▸ ((((One.new w (.slice Q strs.length qc) 22).alloc _).alloc _).alloc _).alloc _
  have o1 : One wA (w.heap.size + 1) (.string s) 9 := hwA ▸ (((One.at_ (b := w.heap.size + 1) (w.alloc (.cells #[.slice Q strs.length qc] 22)) (.string s) 9 (by simp)).alloc _).alloc _).alloc _
  have o2 : One wA (w.heap.size + 2) (.int .i64 n) 3 := hwA ▸ ((One.at_ (b := w.heap.size + 2) ((w.alloc (.cells #[.slice Q strs.length qc] 22)).alloc (.cells #[.string s] 9)) (.int .i64 n) 3 (by simp)).alloc _).alloc _
  have o3 : One wA (w.heap.size + 3) (.int .i64 0) 3 := hwA ▸ (One.at_ (b := w.heap.size + 3) (((w.alloc (.cells #[.slice Q strs.length qc] 22)).alloc (.cells #[.string s] 9)).alloc (.cells #[.int .i64 n] 3)) (.int .i64 0) 3 (by simp)).alloc _
  have o4 : One wA (w.heap.size + 4) (.slice none 0 0) 79 := hwA ▸ One.at_ (b := w.heap.size + 4) ((((w.alloc (.cells #[.slice Q strs.length qc] 22)).alloc (.cells #[.string s] 9)).alloc (.cells #[.int .i64 n] 3)).alloc (.cells #[.int .i64 0] 3)) (.slice none 0 0) 79 (by simp)
  have HA := Lib.hid (And.intro hbA (And.intro o0 (And.intro o1 (And.intro o2 (And.intro o3 o4)))))
  have HQ := Lib.hid (And.intro hqc (And.intro hpos (And.intro hlen hstr)))
  have HQ0 := Lib.hid hQ
  have HZC := Lib.hid hZ
  have HZS := Lib.hid hzs
  clear hQ hqc hpos hlen hstr hZ hzs hrr hs hbA o0 o1 o2 o3 o4
  go_enter Tryd.func27, Tryd.ntmps27
  go_wp2_with fail
  try rw [← hwA]
  rw [show w.heap.size + 1 + 1 + 1 + 1 = w.heap.size + 4 from rfl, show w.heap.size + 1 + 1 + 1 = w.heap.size + 3 from rfl, show w.heap.size + 1 + 1 = w.heap.size + 2 from rfl]
  have HzA := Lib.hid hzA
  have HwA := Lib.hid hwA
  clear hwA hzA
  obtain ⟨i0, hi_, hz0_, hz1_, hz2_⟩ := infoR0_parts info127b
  have HI := Lib.hid (And.intro hi_ (And.intro hz0_ (And.intro hz1_ hz2_)))
  clear hi_ hz0_ hz1_ hz2_
  go_loopw [19] (fun v19 wr => ∃ (F : List Tr) (T : Option Addr) (c' : Nat) (L : List Value), F.length ≤ thens.length ∧ v19 = .int .i64 F.length ∧ F = (thens.take F.length).map leaf ∧ One wr (w.heap.size + 4) (.slice T F.length c') 79 ∧ OutB (w.heap.size + 5) wr 1 T c' F L ∧ Below (w.heap.size + 4) wA wr) (fun v19 _ => thens.length - (intOf v19).toNat)
  case atStart => exact ⟨[], none, 0, [], Nat.zero_le _, rfl, rfl, HA.out.2.2.2.2.2, OutB.start _ _ _, Below.refl _ _⟩
  case round =>
    obtain ⟨F, T, c', L, hFl, rfl, hF, hO4, hOB, hbl⟩ := hrel
    have HF := Lib.hid hF
    have HO4 := Lib.hid hO4
    have HOB := Lib.hid hOB
    have HBL := Lib.hid hbl
    clear hF hO4 hOB hbl
    by_cases hlt : F.length < thens.length
    · have HBw := Lib.hid (show Below w.heap.size w wr from HA.out.1.trans (HBL.out.mono (by omega)))
      obtain ⟨ad, hA, q0⟩ := Kd.at_string (Kd.C_below HZC.out HBw.out) (F.length : Int) (by omega) (by omega)
      subst hA
      have hrd : rdOf ByteArray.empty thens (F.length : Int) = thens[F.length] := by unfold rdOf; rw [Int.toNat_natCast, List.getD_eq_getElem?_getD, List.getElem?_eq_getElem hlt]; rfl
      rw [hrd, Int.toNat_natCast] at q0
      have hx := HZS.out thens[F.length] (List.getElem_mem hlt)
      have hT2 := List.take_succ_eq_append_getElem hlt
      obtain ⟨x, hxe⟩ : ∃ x, x = thens[F.length] := ⟨_, rfl⟩
      rw [← hxe] at q0 hx hT2
      have HT2 := Lib.hid hT2
      have HX := Lib.hid hx
      clear hxe hrd hT2 hx
      have k0 := HO4.out.cell
      have z0 := HO4.out.free
      go_wp2_with fail
      refine wp_region_noPanic ?_
      refine wp_region_held_drew (S := fun w' => True) (by kernel_rfl) trivial (fun hH0 => ?_)
      have HB0 := Lib.hid (show Below wr.heap.size wr wr.drew from (Below.refl _ _).drew)
      obtain ⟨V0, hV0⟩ : ∃ V0, V0 = wr.drew := ⟨_, rfl⟩
      have HBV0 := Lib.hid (show Below wr.heap.size wr V0 from hV0 ▸ HB0.out)
      have k9 : V0.cell? ⟨w.heap.size + 4, 0, none⟩ = some (.slice T F.length c') := hV0 ▸ k0
      rw [← hV0]
      clear hV0 HB0
      refine wpAnyH_take (i := 1) (v := ?vz1_1) (by simp only [List.getElem?_toArray, List.getElem?_cons_succ, List.getElem?_cons_zero]; rfl) (by kernel_rfl) (by kernel_rfl) (by kernel_rfl) (fun _ _ _ h => h) (Or.inl ⟨by rfl, ?hz1_1⟩) trivial ?_
      case hz1_1 => (intro w hSw; go_simp; try with_reducible rfl)
      try simp only [Act.put, List.setIfInBounds_toArray, List.set_cons_zero, List.set_cons_succ]
      refine wpAnyH_ready (rs := [0, 2]) (by kernel_rfl) (by simp) ?_
      refine AllReadyH.cons (o := _) rfl (fun K hK => ?_) (AllReadyH.cons (o := _) rfl (fun K hK => ?_) AllReadyH.nil)
      · go_simp
        refine hK.out _ _ trivial (fun hH1 => ?_)
        clear hK K hH0
        try simp only [Act.put, List.setIfInBounds_toArray, List.set_cons_zero, List.set_cons_succ]
        refine wpAnyH_ready (rs := [2]) (by kernel_rfl) (by simp) ?_
        refine AllReadyH.cons (o := _) rfl (fun K hK => ?_) AllReadyH.nil
        go_simp
        refine (PcItem_tree (fun k => wr.heap.size ≤ k) 0 x none 0 [] V0 HX.out.1 HX.out.2 (fun j k hj => by simp at hj) (by simp) (by simp) (fun k hk => Nat.le_trans HBV0.out.size hk)).mono ?_
        rintro e V1 ⟨p, rfl, htr, hb1⟩
        have HTV1 := Lib.hid (show TrIn (fun k => wr.heap.size ≤ k) 1 V1 p (leaf x) from htr)
        have HBV1 := Lib.hid (HBV0.out.trans (hb1.mono HBV0.out.size))
        clear htr hb1
        refine hK.out _ _ trivial (fun hH2 => ?_)
        clear hK K hH1
        try simp only [Act.put, List.setIfInBounds_toArray, List.set_cons_zero, List.set_cons_succ]
        refine wpAnyH_take (i := 3) (v := ?vz2_3) (by simp only [List.getElem?_toArray, List.getElem?_cons_succ, List.getElem?_cons_zero]; rfl) (by kernel_rfl) (by kernel_rfl) (by kernel_rfl) (fun _ _ _ h => h) (Or.inl ⟨by rfl, ?hz2_3⟩) trivial ?_
        case hz2_3 => (intro w hSw; go_simp; try with_reducible rfl)
        try simp only [Act.put, List.setIfInBounds_toArray, List.set_cons_zero, List.set_cons_succ]
        refine wpAnyH_ready (rs := [4]) (by kernel_rfl) (by simp) ?_
        refine AllReadyH.cons (o := _) rfl (fun K hK => ?_) AllReadyH.nil
        go_simp
        obtain ⟨g, hg⟩ : ∃ g, g = V1.heap.size := ⟨_, rfl⟩
        obtain ⟨V2, hW⟩ : ∃ V2, V2 = V1.alloc (.cells #[.iface 80 (PtS p)] 127) := ⟨_, rfl⟩
        have hbW : Below V1.heap.size V1 V2 := hW ▸ (Below.refl _ _).alloc (Nat.le_refl _) _
        have HTV2 := Lib.hid (HTV1.out.below hbW)
        have HBV2 := Lib.hid (HBV1.out.trans (hbW.mono HBV1.out.size))
        have HGV2 := Lib.hid (show ∀ j u, [Value.iface 80 (PtS p)][j]? = some u → V2.cell? ((⟨g, 0, none⟩ : Addr).add j) = some u from fun j u hu => by rw [hW, hg]; exact row_at (w := V1) (H := V1.heap.size) rfl (.iface 80 (PtS p)) 127 j u hu)
        rw [← hW, ← hg]
        clear hW hbW hg
        refine hK.out _ _ trivial (fun hH3 => ?_)
        clear hK K hH2
        try simp only [Act.put, List.setIfInBounds_toArray, List.set_cons_zero, List.set_cons_succ]
        have HOV2 := Lib.hid (HOB.out.stays HBV2.out)
        obtain ⟨v4, w4, hrun, ho4, hg4, _, hat4⟩ := run_append_own_at (P := Tryd.prog) V2 (w.heap.size + 5) 79 79 127 i0 .nilIface 1 16 Tryd.underlying79 HI.out.1 HI.out.2.1 HI.out.2.2.1 HI.out.2.2.2 rfl (by omega) (.slice T F.length c') F.length L HOV2.out.own ⟨g, 0, none⟩ 1 1 [.iface 80 (PtS p)] (by simp) HGV2.out (by intro z hz; rw [List.mem_singleton] at hz; subst hz; rfl) (by unfold maxLen; omega) (by omega) (by have := HBV2.out.size; have := HBL.out.size; have := HzA.out; omega)
        obtain ⟨T4, c4, rfl⟩ := slice_of ho4
        have HX4 := Lib.hid (And.intro ho4 (And.intro hg4 hat4))
        clear ho4 hg4 hat4
        refine wpAnyH_ready (rs := [5]) (by kernel_rfl) (by simp) ?_
        refine AllReadyH.cons (o := _) rfl (fun K hK => ?_) AllReadyH.nil
        refine op_append 28 rfl (.tmp 23) (.tmp 27) 79 rfl (.slice T F.length c') (.slice (some ⟨g, 0, none⟩) 1 1) _ _ (by simp [go_sem]) (by simp [go_sem]) hrun ?_
        refine hK.out _ _ trivial (fun hHA => ?_)
        clear hK K hH3
        try simp only [Act.put, List.setIfInBounds_toArray, List.set_cons_zero, List.set_cons_succ]
        have HP4 := Lib.hid (OutB.push HOV2.out HTV2.out (Nat.le_refl 1) (by have := HBL.out.size; have := HzA.out; omega) (fun k hk => (World.ownsRow.lt HOB.out.own k hk).2) HX4.out.1 HX4.out.2.1 HX4.out.2.2)
        have HBG := Lib.hid (Below.grown (HBL.out.trans (HBV2.out.mono (by have := HBL.out.size; have := HzA.out; omega))) HX4.out.2.1 (by have := HBV2.out.size; have := HBL.out.size; have := HzA.out; omega) (fun k hk => by have := (World.ownsRow.lt HOV2.out.own k hk).1; omega))
        have hO4b : One w4 (w.heap.size + 4) (.slice T F.length c') 79 := (HX4.out.2.1.block _ (by have := HBV2.out.size; have := lt_of_block HO4.out; omega) (fun e => by have := (World.ownsRow.lt HOV2.out.own _ e.symm).1; omega)).trans (HO4.out.stays HBV2.out)
        have k5 := hO4b.cell
        have z5 := hO4b.free
        refine wpAnyH_ready (rs := [6]) (by kernel_rfl) (by simp) ?_
        refine AllReadyH.cons (o := _) rfl (fun K hK => ?_) AllReadyH.nil
        go_simp
        refine hK.out _ _ trivial (fun hHB => ?_)
        clear hK K hHA
        try simp only [Act.put, List.setIfInBounds_toArray, List.set_cons_zero, List.set_cons_succ]
        refine wpAnyH_done (by kernel_rfl) ?_ _
        refine NoPanic.normal ?_
        have HSET := Lib.hid (One.set hO4b (.slice T4 (F.length + 1) c4))
        clear hO4b
        go_wp2_with fail
        go_roundw
        case rel =>
          refine ⟨F ++ [leaf x], T4, c4, L ++ [.iface 80 (PtS p)], by simp; omega, by simp, ?_, by simpa using HSET.out, HP4.out.set (by omega) _, below_put HBG.out (Nat.le_refl _) 0 _⟩
          have e1 : (F ++ [leaf x]).length = F.length + 1 := by simp
          rw [e1, HT2.out, List.map_append, ← HF.out, List.map_cons, List.map_nil]
        case measure => simp only [intOf, List.length_append, List.length_cons, List.length_nil]; omega
      · go_simp
        refine (PcItem_tree (fun k => wr.heap.size ≤ k) 0 x none 0 [] V0 HX.out.1 HX.out.2 (fun j k hj => by simp at hj) (by simp) (by simp) (fun k hk => Nat.le_trans HBV0.out.size hk)).mono ?_
        rintro e V1 ⟨p, rfl, htr, hb1⟩
        have HTV1 := Lib.hid (show TrIn (fun k => wr.heap.size ≤ k) 1 V1 p (leaf x) from htr)
        have HBV1 := Lib.hid (HBV0.out.trans (hb1.mono HBV0.out.size))
        clear htr hb1
        refine hK.out _ _ trivial (fun hH1 => ?_)
        clear hK K hH0
        try simp only [Act.put, List.setIfInBounds_toArray, List.set_cons_zero, List.set_cons_succ]
        refine wpAnyH_take (i := 3) (v := ?vz3_3) (by simp only [List.getElem?_toArray, List.getElem?_cons_succ, List.getElem?_cons_zero]; rfl) (by kernel_rfl) (by kernel_rfl) (by kernel_rfl) (fun _ _ _ h => h) (Or.inl ⟨by rfl, ?hz3_3⟩) trivial ?_
        case hz3_3 => (intro w hSw; go_simp; try with_reducible rfl)
        try simp only [Act.put, List.setIfInBounds_toArray, List.set_cons_zero, List.set_cons_succ]
        have k11 := (HO4.out.stays HBV1.out).cell
        have z11 := (HO4.out.stays HBV1.out).free
        refine wpAnyH_ready (rs := [0, 4]) (by kernel_rfl) (by simp) ?_
        refine AllReadyH.cons (o := _) rfl (fun K hK => ?_) (AllReadyH.cons (o := _) rfl (fun K hK => ?_) AllReadyH.nil)
        · go_simp
          refine hK.out _ _ trivial (fun hH2 => ?_)
          clear hK K hH1
          try simp only [Act.put, List.setIfInBounds_toArray, List.set_cons_zero, List.set_cons_succ]
          refine wpAnyH_ready (rs := [4]) (by kernel_rfl) (by simp) ?_
          refine AllReadyH.cons (o := _) rfl (fun K hK => ?_) AllReadyH.nil
          go_simp
          obtain ⟨g, hg⟩ : ∃ g, g = V1.heap.size := ⟨_, rfl⟩
          obtain ⟨V2, hW⟩ : ∃ V2, V2 = V1.alloc (.cells #[.iface 80 (PtS p)] 127) := ⟨_, rfl⟩
          have hbW : Below V1.heap.size V1 V2 := hW ▸ (Below.refl _ _).alloc (Nat.le_refl _) _
          have HTV2 := Lib.hid (HTV1.out.below hbW)
          have HBV2 := Lib.hid (HBV1.out.trans (hbW.mono HBV1.out.size))
          have HGV2 := Lib.hid (show ∀ j u, [Value.iface 80 (PtS p)][j]? = some u → V2.cell? ((⟨g, 0, none⟩ : Addr).add j) = some u from fun j u hu => by rw [hW, hg]; exact row_at (w := V1) (H := V1.heap.size) rfl (.iface 80 (PtS p)) 127 j u hu)
          rw [← hW, ← hg]
          clear hW hbW hg
          refine hK.out _ _ trivial (fun hH3 => ?_)
          clear hK K hH2
          try simp only [Act.put, List.setIfInBounds_toArray, List.set_cons_zero, List.set_cons_succ]
          have HOV2 := Lib.hid (HOB.out.stays HBV2.out)
          obtain ⟨v4, w4, hrun, ho4, hg4, _, hat4⟩ := run_append_own_at (P := Tryd.prog) V2 (w.heap.size + 5) 79 79 127 i0 .nilIface 1 16 Tryd.underlying79 HI.out.1 HI.out.2.1 HI.out.2.2.1 HI.out.2.2.2 rfl (by omega) (.slice T F.length c') F.length L HOV2.out.own ⟨g, 0, none⟩ 1 1 [.iface 80 (PtS p)] (by simp) HGV2.out (by intro z hz; rw [List.mem_singleton] at hz; subst hz; rfl) (by unfold maxLen; omega) (by omega) (by have := HBV2.out.size; have := HBL.out.size; have := HzA.out; omega)
          obtain ⟨T4, c4, rfl⟩ := slice_of ho4
          have HX4 := Lib.hid (And.intro ho4 (And.intro hg4 hat4))
          clear ho4 hg4 hat4
          refine wpAnyH_ready (rs := [5]) (by kernel_rfl) (by simp) ?_
          refine AllReadyH.cons (o := _) rfl (fun K hK => ?_) AllReadyH.nil
          refine op_append 28 rfl (.tmp 23) (.tmp 27) 79 rfl (.slice T F.length c') (.slice (some ⟨g, 0, none⟩) 1 1) _ _ (by simp [go_sem]) (by simp [go_sem]) hrun ?_
          refine hK.out _ _ trivial (fun hHA => ?_)
          clear hK K hH3
          try simp only [Act.put, List.setIfInBounds_toArray, List.set_cons_zero, List.set_cons_succ]
          have HP4 := Lib.hid (OutB.push HOV2.out HTV2.out (Nat.le_refl 1) (by have := HBL.out.size; have := HzA.out; omega) (fun k hk => (World.ownsRow.lt HOB.out.own k hk).2) HX4.out.1 HX4.out.2.1 HX4.out.2.2)
          have HBG := Lib.hid (Below.grown (HBL.out.trans (HBV2.out.mono (by have := HBL.out.size; have := HzA.out; omega))) HX4.out.2.1 (by have := HBV2.out.size; have := HBL.out.size; have := HzA.out; omega) (fun k hk => by have := (World.ownsRow.lt HOV2.out.own k hk).1; omega))
          have hO4b : One w4 (w.heap.size + 4) (.slice T F.length c') 79 := (HX4.out.2.1.block _ (by have := HBV2.out.size; have := lt_of_block HO4.out; omega) (fun e => by have := (World.ownsRow.lt HOV2.out.own _ e.symm).1; omega)).trans (HO4.out.stays HBV2.out)
          have k5 := hO4b.cell
          have z5 := hO4b.free
          refine wpAnyH_ready (rs := [6]) (by kernel_rfl) (by simp) ?_
          refine AllReadyH.cons (o := _) rfl (fun K hK => ?_) AllReadyH.nil
          go_simp
          refine hK.out _ _ trivial (fun hHB => ?_)
          clear hK K hHA
          try simp only [Act.put, List.setIfInBounds_toArray, List.set_cons_zero, List.set_cons_succ]
          refine wpAnyH_done (by kernel_rfl) ?_ _
          refine NoPanic.normal ?_
          have HSET := Lib.hid (One.set hO4b (.slice T4 (F.length + 1) c4))
          clear hO4b
          go_wp2_with fail
          go_roundw
          case rel =>
            refine ⟨F ++ [leaf x], T4, c4, L ++ [.iface 80 (PtS p)], by simp; omega, by simp, ?_, by simpa using HSET.out, HP4.out.set (by omega) _, below_put HBG.out (Nat.le_refl _) 0 _⟩
            have e1 : (F ++ [leaf x]).length = F.length + 1 := by simp
            rw [e1, HT2.out, List.map_append, ← HF.out, List.map_cons, List.map_nil]
          case measure => simp only [intOf, List.length_append, List.length_cons, List.length_nil]; omega
        · go_simp
          obtain ⟨g, hg⟩ : ∃ g, g = V1.heap.size := ⟨_, rfl⟩
          obtain ⟨V2, hW⟩ : ∃ V2, V2 = V1.alloc (.cells #[.iface 80 (PtS p)] 127) := ⟨_, rfl⟩
          have hbW : Below V1.heap.size V1 V2 := hW ▸ (Below.refl _ _).alloc (Nat.le_refl _) _
          have HTV2 := Lib.hid (HTV1.out.below hbW)
          have HBV2 := Lib.hid (HBV1.out.trans (hbW.mono HBV1.out.size))
          have HGV2 := Lib.hid (show ∀ j u, [Value.iface 80 (PtS p)][j]? = some u → V2.cell? ((⟨g, 0, none⟩ : Addr).add j) = some u from fun j u hu => by rw [hW, hg]; exact row_at (w := V1) (H := V1.heap.size) rfl (.iface 80 (PtS p)) 127 j u hu)
          rw [← hW, ← hg]
          clear hW hbW hg
          refine hK.out _ _ trivial (fun hH2 => ?_)
          clear hK K hH1
          try simp only [Act.put, List.setIfInBounds_toArray, List.set_cons_zero, List.set_cons_succ]
          have k12 := (HO4.out.stays HBV2.out).cell
          have z12 := (HO4.out.stays HBV2.out).free
          refine wpAnyH_ready (rs := [0]) (by kernel_rfl) (by simp) ?_
          refine AllReadyH.cons (o := _) rfl (fun K hK => ?_) AllReadyH.nil
          go_simp
          refine hK.out _ _ trivial (fun hH3 => ?_)
          clear hK K hH2
          try simp only [Act.put, List.setIfInBounds_toArray, List.set_cons_zero, List.set_cons_succ]
          have HOV2 := Lib.hid (HOB.out.stays HBV2.out)
          obtain ⟨v4, w4, hrun, ho4, hg4, _, hat4⟩ := run_append_own_at (P := Tryd.prog) V2 (w.heap.size + 5) 79 79 127 i0 .nilIface 1 16 Tryd.underlying79 HI.out.1 HI.out.2.1 HI.out.2.2.1 HI.out.2.2.2 rfl (by omega) (.slice T F.length c') F.length L HOV2.out.own ⟨g, 0, none⟩ 1 1 [.iface 80 (PtS p)] (by simp) HGV2.out (by intro z hz; rw [List.mem_singleton] at hz; subst hz; rfl) (by unfold maxLen; omega) (by omega) (by have := HBV2.out.size; have := HBL.out.size; have := HzA.out; omega)
          obtain ⟨T4, c4, rfl⟩ := slice_of ho4
          have HX4 := Lib.hid (And.intro ho4 (And.intro hg4 hat4))
          clear ho4 hg4 hat4
          refine wpAnyH_ready (rs := [5]) (by kernel_rfl) (by simp) ?_
          refine AllReadyH.cons (o := _) rfl (fun K hK => ?_) AllReadyH.nil
          refine op_append 28 rfl (.tmp 23) (.tmp 27) 79 rfl (.slice T F.length c') (.slice (some ⟨g, 0, none⟩) 1 1) _ _ (by simp [go_sem]) (by simp [go_sem]) hrun ?_
          refine hK.out _ _ trivial (fun hHA => ?_)
          clear hK K hH3
          try simp only [Act.put, List.setIfInBounds_toArray, List.set_cons_zero, List.set_cons_succ]
          have HP4 := Lib.hid (OutB.push HOV2.out HTV2.out (Nat.le_refl 1) (by have := HBL.out.size; have := HzA.out; omega) (fun k hk => (World.ownsRow.lt HOB.out.own k hk).2) HX4.out.1 HX4.out.2.1 HX4.out.2.2)
          have HBG := Lib.hid (Below.grown (HBL.out.trans (HBV2.out.mono (by have := HBL.out.size; have := HzA.out; omega))) HX4.out.2.1 (by have := HBV2.out.size; have := HBL.out.size; have := HzA.out; omega) (fun k hk => by have := (World.ownsRow.lt HOV2.out.own k hk).1; omega))
          have hO4b : One w4 (w.heap.size + 4) (.slice T F.length c') 79 := (HX4.out.2.1.block _ (by have := HBV2.out.size; have := lt_of_block HO4.out; omega) (fun e => by have := (World.ownsRow.lt HOV2.out.own _ e.symm).1; omega)).trans (HO4.out.stays HBV2.out)
          have k5 := hO4b.cell
          have z5 := hO4b.free
          refine wpAnyH_ready (rs := [6]) (by kernel_rfl) (by simp) ?_
          refine AllReadyH.cons (o := _) rfl (fun K hK => ?_) AllReadyH.nil
          go_simp
          refine hK.out _ _ trivial (fun hHB => ?_)
          clear hK K hHA
          try simp only [Act.put, List.setIfInBounds_toArray, List.set_cons_zero, List.set_cons_succ]
          refine wpAnyH_done (by kernel_rfl) ?_ _
          refine NoPanic.normal ?_
          have HSET := Lib.hid (One.set hO4b (.slice T4 (F.length + 1) c4))
          clear hO4b
          go_wp2_with fail
          go_roundw
          case rel =>
            refine ⟨F ++ [leaf x], T4, c4, L ++ [.iface 80 (PtS p)], by simp; omega, by simp, ?_, by simpa using HSET.out, HP4.out.set (by omega) _, below_put HBG.out (Nat.le_refl _) 0 _⟩
            have e1 : (F ++ [leaf x]).length = F.length + 1 := by simp
            rw [e1, HT2.out, List.map_append, ← HF.out, List.map_cons, List.map_nil]
          case measure => simp only [intOf, List.length_append, List.length_cons, List.length_nil]; omega
    · have hFe : F.length = thens.length := by omega
      have hFF := HF.out
      rw [hFe, List.take_length] at hFF
      obtain ⟨hki, hkc⟩ := HOB.out.out
      have HBw := Lib.hid (show Below w.heap.size w wr from HA.out.1.trans (HBL.out.mono (by omega)))
      have hsz0 : w.heap.size + 5 ≤ wr.heap.size := by have := HBL.out.size; have := HzA.out; omega
      have hlim : r.1.length ≤ 1000000 := by
        rw [HRR.out]
        refine comp_lim 3 _ _ ⟨?_, fun k hk => ?_⟩
        · show ([Tr.node true (strs.map nmOf) (thens.map leaf)].map (fun k => k.names.length)).sum ≤ 1000000
          simp only [List.map_cons, List.map_nil, List.sum_cons, List.sum_nil]
          show (strs.map nmOf).length + 0 ≤ 1000000
          rw [List.length_map]
          have := HQ.out.2.2.1
          omega
        · obtain rfl := List.mem_singleton.1 hk
          rw [← hFF]
          exact hki.sm (by omega) true _
      have HO := Lib.hid (And.intro (HA.out.2.1.below HBL.out (by omega)) (And.intro (HA.out.2.2.1.below HBL.out (by omega)) (And.intro (HA.out.2.2.2.1.below HBL.out (by omega)) (And.intro (HA.out.2.2.2.2.1.below HBL.out (by omega)) hki.at_))))
      have HRR2 := Lib.hid (show r = comp 3 (.node false [[32]] [.node true (strs.map nmOf) F]) ((ints s).take n) by rw [hFF]; exact HRR.out)
      clear hki hFF
      have hb2 : Below wr.heap.size wr ((wr.alloc (.cells #[.slice none 0 0] 59)).alloc (.cells #[.bool false] 4)) := ((Below.refl _ _).alloc (Nat.le_refl _) _).alloc (by simp) _
      have hz2 : (wr.alloc (.cells #[.slice none 0 0] 59)).heap.size = wr.heap.size + 1 := by simp
      have p3 : One ((wr.alloc (.cells #[.slice none 0 0] 59)).alloc (.cells #[.bool false] 4)) wr.heap.size (.slice none 0 0) 59 := (One.new wr (.slice none 0 0) 59).alloc _
      have p5 : One ((wr.alloc (.cells #[.slice none 0 0] 59)).alloc (.cells #[.bool false] 4)) (wr.heap.size + 1) (.bool false) 4 := One.at_ (b := wr.heap.size + 1) (wr.alloc (.cells #[.slice none 0 0] 59)) (.bool false) 4 hz2.symm
      have hz3 : ((wr.alloc (.cells #[.slice none 0 0] 59)).alloc (.cells #[.bool false] 4)).heap.size = wr.heap.size + 2 := by simp
      have HCL := Lib.hid (closure53_calls w.heap.size (w.heap.size + 4) (w.heap.size + 1) (w.heap.size + 2) wr.heap.size (w.heap.size + 3) Q qc strs T c' n F s _ (HO.out.1.stays hb2) (Kd.C_below (Kd.C_below HQ0.out HBw.out) hb2) HQ.out.1 HQ.out.2.1 HQ.out.2.2.1 HQ.out.2.2.2 (HO4.out.stays hb2) (HO.out.2.1.stays hb2) (HO.out.2.2.1.stays hb2) p3 (HO.out.2.2.2.1.stays hb2) (by omega) (by omega) (by omega) (by omega) (by omega) (HO.out.2.2.2.2.below hb2) hkc (by omega) HSS.out hsz hn)
      have HB2 := Lib.hid (below_step HBw.out hb2)
      have HP5 := Lib.hid p5
      clear p3 p5 hb2
      go_wp2_with fail
      refine (caught_calls 53 _ _ (fun w' => ∃ T5 c5, r.1.length ≤ c5 ∧ One w' (wr.heap.size) (.slice T5 r.1.length c5) 59 ∧ One w' (w.heap.size + 3) (.int .i64 r.2) 3 ∧ RW w' T5 r.1 ∧ Below w.heap.size w w') enter53 ?_).mono ?_
      · refine HCL.out.mono ?_
        rintro e w5 ⟨rfl, T5, c5, h1, h2, h3, h4, h5, h6, h7⟩
        have er : comp 3 (.node false [[32]] [.node true (strs.map nmOf) F]) ((ints s).take n) = r := HRR2.out.symm
        rw [er] at h1 h2 h3 h4
        rw [hz2]
        exact ⟨rfl, (h6 (wr.heap.size + 1) (by omega) (by omega) (by omega)).trans HP5.out, T5, c5, h1, h2, h3, h4, HB2.out.trans (h7 w.heap.size (by omega) (by omega) (by omega))⟩
      rintro e w6 ⟨rfl, w5, ⟨T5, c5, h1, h2, h3, h4, h5⟩, h6, rfl⟩
      rw [hz2] at h6 ⊢
      have HW6 := Lib.hid (And.intro h1 (And.intro (h2.other (a := ⟨wr.heap.size + 1, 0, none⟩) (by show wr.heap.size ≠ wr.heap.size + 1; omega) (.bool true)) (And.intro (h3.other (a := ⟨wr.heap.size + 1, 0, none⟩) (by show w.heap.size + 3 ≠ wr.heap.size + 1; omega) (.bool true)) (And.intro (h4.set (v := .bool true) h6 (by decide)) (below_put h5 (by omega : w.heap.size ≤ wr.heap.size + 1) 0 (.bool true))))))
      clear h1 h2 h3 h4 h5 h6
      obtain ⟨wC, hwC⟩ : ∃ wC, wC = w5.setCell ⟨wr.heap.size + 1, 0, none⟩ (.bool true) := ⟨_, rfl⟩
      rw [← hwC] at HW6 ⊢
      clear hwC
      have cg := HW6.out.2.1.cell
      obtain ⟨i0, hi_, hz0_, hz1_, hz2_⟩ := infoR0_parts infoS
      have HI := Lib.hid (And.intro hi_ (And.intro hz0_ (And.intro hz1_ hz2_)))
      clear hi_ hz0_ hz1_ hz2_
      go_wp2_with fail
      go_loopw [8, 36] (fun v8 v36 wq => ∃ (i : Nat) (T2 : Option Addr) (c2 : Nat), i ≤ r.1.length ∧ v36 = .int .i64 i ∧ v8 = .slice T2 i c2 ∧ wq.ownsRow wC.heap.size 9 1 (.slice T2 i c2) i (((r.1.take i).map runesBytes).map Value.string) ∧ Below wC.heap.size wC wq) (fun _ v36 _ => r.1.length - (intOf v36).toNat)
      case atStart => exact ⟨0, none, 0, Nat.zero_le _, rfl, rfl, by simpa using World.ownsRow_nil _ _ _ _, Below.refl _ _⟩
      case round =>
        obtain ⟨i, T2, c2, hi, rfl, rfl, ho, hbq⟩ := hrel
        have HO2 := Lib.hid (And.intro ho hbq)
        clear ho hbq
        by_cases hlt : i < r.1.length
        · obtain ⟨g, v, cs, fz, hT5, hgh, hgc, hgv⟩ := HW6.out.2.2.2.1 i r.1[i] (List.getElem?_eq_getElem hlt)
          subst hT5
          have x0 : wr.cell? ⟨g, i, none⟩ = some v := (HO2.out.2.cell (p := ⟨g, i, none⟩) (lt_of_block hgh)).trans hgc
          have HTK := Lib.hid (List.take_succ_eq_append_getElem hlt)
          obtain ⟨Av, cv, rfl, hcv, hCv, _⟩ := hgv.below HO2.out.2
          have hconv := runes_C wr Av cv _ hCv
          obtain ⟨u, hu⟩ : ∃ u, u = r.1[i] := ⟨_, rfl⟩
          rw [← hu] at x0 hconv HTK
          have hlu : r.1[i].length = u.length := by rw [hu]
          obtain ⟨S, hS⟩ : ∃ S, S = runesBytes u := ⟨_, rfl⟩
          rw [← hS] at hconv
          have HSU := Lib.hid hS
          clear hu hcv hCv hgh hgc hgv hS hlu
          have hbA2 : Below wr.heap.size wr (wr.alloc (.cells #[.string S] 9)) := (Below.refl _ _).alloc (Nat.le_refl _) _
          have HOW := Lib.hid (And.intro (own_move HO2.out.1 (fun k hk => hbA2.block k (World.ownsRow.lt HO2.out.1 k hk).2)) (HO2.out.2.trans (hbA2.mono HO2.out.2.size)))
          have HROW := Lib.hid (row_at (w := wr) (H := wr.heap.size) rfl (.string S) 9)
          clear hbA2
          go_wp2_with (at_builtin; go_loud (refine wpList_append_any _ rfl (.tmp 40) (.tmp 43) _ rfl wC.heap.size 9 i0 (.string ⟨#[]⟩) 1 16 Tryd.underlying22 HI.out.1 HI.out.2.1 HI.out.2.2.1 HI.out.2.2.2 rfl (by omega) (.slice T2 i c2) i _ rfl HOW.out.1 ⟨wr.heap.size, 0, none⟩ 1 1 [.string S] (by simp [go_sem]) (by simp) HROW.out (by intro z hz; rw [List.mem_singleton] at hz; subst hz; rfl) (by unfold maxLen; omega) (by omega) HOW.out.2.size ?_; intro v4 w4 ho4 hg4 hat4; obtain ⟨T4, c4, rfl⟩ := slice_of ho4; have HX4 := Lib.hid (And.intro ho4 hg4); clear ho4 hg4 hat4))
          go_wp2_with fail
          go_roundw
          case rel =>
            refine ⟨i + 1, T4, c4, by omega, by go_num, by first | rfl | trivial, ?_, HOW.out.2.grown HX4.out.2 HOW.out.2.size (fun k hk => (World.ownsRow.lt HOW.out.1 k hk).1)⟩
            have h := HX4.out.1
            rw [HTK.out, List.map_append, List.map_append, List.map_cons, List.map_nil, List.map_cons, List.map_nil, ← HSU.out]
            exact h
          case measure => simp only [intOf]; omega
        · obtain rfl : i = r.1.length := by omega
          go_wp2_with fail
          have q4 := HW6.out.2.2.1.below HO2.out.2 (lt_of_block HW6.out.2.2.1)
          have c7 := q4.cell
          have f7 := q4.free
          have HQ4 := Lib.hid q4
          clear q4
          refine wp_region_noPanic ?_
          refine wp_region_held_drew (S := fun w' => w'.cell? ⟨w.heap.size + 3, 0, none⟩ = some (.int .i64 r.2)) (by kernel_rfl) c7 (fun hHeld => ?_)
          refine wpAnyH_take (i := 0) (v := ?v0) (by simp only [List.getElem?_toArray, List.getElem?_cons_succ, List.getElem?_cons_zero]; rfl) (by kernel_rfl) (by kernel_rfl) (by kernel_rfl) (fun _ _ _ h => h) (Or.inl ⟨by rfl, ?h0⟩) (by assumption) ?_
          case h0 => (intro w hSw; go_simp; try with_reducible rfl)
          try simp only [Act.put, List.setIfInBounds_toArray, List.set_cons_zero, List.set_cons_succ]
          refine wpAnyH_take (i := 1) (v := ?v1) (by simp only [List.getElem?_toArray, List.getElem?_cons_succ, List.getElem?_cons_zero]; rfl) (by kernel_rfl) (by kernel_rfl) (by kernel_rfl) (fun _ _ _ h => h) (Or.inl ⟨by rfl, ?h1⟩) (by assumption) ?_
          case h1 => (intro w hSw; go_simp; try with_reducible rfl)
          try simp only [Act.put, List.setIfInBounds_toArray, List.set_cons_zero, List.set_cons_succ]
          refine wpAnyH_take (i := 2) (v := ?v2) (by simp only [List.getElem?_toArray, List.getElem?_cons_succ, List.getElem?_cons_zero]; rfl) (by kernel_rfl) (by kernel_rfl) (by kernel_rfl) (fun _ _ _ h => h) (Or.inl ⟨by rfl, ?h2⟩) (by assumption) ?_
          case h2 => (intro w hSw; go_simp; try with_reducible rfl)
          try simp only [Act.put, List.setIfInBounds_toArray, List.set_cons_zero, List.set_cons_succ]
          refine wpAnyH_ready (rs := [3]) (by kernel_rfl) (by simp) ?_
          refine AllReadyH.cons (o := _) rfl (fun K hK => ?_) AllReadyH.nil
          go_simp
          have q7 := (One.set HQ4.out (.int .i64 r.2)).cell
          refine hK.out _ _ q7 (fun hHeld2 => ?_)
          clear hK K hHeld
          try simp only [Act.put, List.setIfInBounds_toArray, List.set_cons_zero, List.set_cons_succ]
          refine wpAnyH_take (i := 4) (v := ?v4) (by simp only [List.getElem?_toArray, List.getElem?_cons_succ, List.getElem?_cons_zero]; rfl) (by kernel_rfl) (by kernel_rfl) (by kernel_rfl) (fun _ _ _ h => h) (Or.inl ⟨by rfl, ?h4⟩) (by assumption) ?_
          case h4 => (intro w hSw; go_simp; try with_reducible rfl)
          try simp only [Act.put, List.setIfInBounds_toArray, List.set_cons_zero, List.set_cons_succ]
          refine wpAnyH_done (by kernel_rfl) ?_ _
          refine NoPanic.normal ?_
          go_wp2
          refine bodyPost_ret (v := .tuple #[.slice T2 r.1.length c2, .int .i64 r.2, .bool true]) (by simp [results, Tryd.results27, go_sem, q7]) rfl ?_
          have ho := HO2.out.1
          rw [List.take_length] at ho
          have hbase := HW6.out.2.2.2.2.size
          refine ⟨T2, c2, rfl, own_base (own_move ho (fun k hk => ?_)) hbase, (below_put (b := w.heap.size + 3) (HW6.out.2.2.2.2.trans (HO2.out.2.mono hbase)) (by omega) 0 (.int .i64 r.2)).drew⟩
          refine Below.heap_setCell wr ⟨w.heap.size + 3, 0, none⟩ (.int .i64 r.2) k ?_
          have h1 := (World.ownsRow.lt ho k hk).1
          have h2 := lt_of_block HW6.out.2.2.1
          show k ≠ w.heap.size + 3
          omega
/-- What impl.CompletedBy tells. -/
def compB (names thens : List ByteArray) (q : List Int) : List (List Int) × Nat := comp 3 (.node false [[32]] [.node true (names.map nmOf) (thens.map leaf)]) q
/-- For ASCII words of at most 100000 bytes, one first word at least, ASCII lines of at most 1000000 bytes, places in the line. -/
def impl_CompletedBy.f (names thens : List ByteArray) (s : ByteArray) (at_ : Int) : Option (List ByteArray × Int × Bool) :=
  if 0 ≤ at_ ∧ at_ ≤ s.size ∧ s.size ≤ 1000000 ∧ (∀ b ∈ s.data.toList, b.toNat < 128) ∧ 0 < names.length ∧ names.length ≤ 1000000 ∧ (∀ x ∈ names, (∀ b ∈ x.data.toList, b.toNat < 128) ∧ x.size ≤ 100000) ∧ thens.length ≤ 1000000 ∧ (∀ x ∈ thens, (∀ b ∈ x.data.toList, b.toNat < 128) ∧ x.size ≤ 100000) then
    some ((compB names thens ((ints s).take at_.toNat)).1.map runesBytes, ((compB names thens ((ints s).take at_.toNat)).2 : Int), true)
  else none
theorem impl_CompletedBy.calls (A : Option Addr) (c : Nat) (l : List ByteArray) (A1 : Option Addr) (c1 : Nat) (l1 : List ByteArray) (s : ByteArray) (at_ : Int) (r1 : List ByteArray) (r2 : Int) (r3 : Bool) (w : World) (hr : Kd.C Kd.string w A l.length l) (hc : l.length ≤ c) (hr1 : Kd.C Kd.string w A1 l1.length l1) (hc1 : l1.length ≤ c1) (h : impl_CompletedBy.f l l1 s at_ = some (r1, r2, r3)) :
    Calls Tryd.prog 27 #[.slice A l.length c, .slice A1 l1.length c1, .string s, .int .i64 at_] w fun e w' => ∃ v, e = .returned (.tuple #[v, .int .i64 r2, .bool r3]) ∧ Kd.R Kd.string 9 w' w.heap.size (fun _ => True) v r1 ∧ Below w.heap.size w w' := by
  unfold impl_CompletedBy.f at h
  by_cases hg : 0 ≤ at_ ∧ at_ ≤ s.size ∧ s.size ≤ 1000000 ∧ (∀ b ∈ s.data.toList, b.toNat < 128) ∧ 0 < l.length ∧ l.length ≤ 1000000 ∧ (∀ x ∈ l, (∀ b ∈ x.data.toList, b.toNat < 128) ∧ x.size ≤ 100000) ∧ l1.length ≤ 1000000 ∧ (∀ x ∈ l1, (∀ b ∈ x.data.toList, b.toNat < 128) ∧ x.size ≤ 100000)
  · rw [if_pos hg] at h
    obtain ⟨g0, g1, g2, g3, g4, g5, g6, g7, g8⟩ := hg
    have h := Option.some.inj h
    simp only [Prod.mk.injEq] at h
    obtain ⟨rfl, rfl, rfl⟩ := h
    obtain ⟨n, rfl⟩ := Int.eq_ofNat_of_zero_le g0
    rw [Int.toNat_natCast]
    refine (CompletedBy_calls A c l A1 c1 l1 n s w hr hc g4 g5 g6 hr1 hc1 g7 g8 g3 g2 (by omega)).mono ?_
    rintro e w' ⟨T, c', rfl, ho, hb⟩
    refine ⟨_, rfl, Kd.R_of_own (enc := Value.string) (h1 := fun _ => rfl) ?_ (fun _ _ => trivial), hb⟩
    rw [List.length_map]
    exact ho
  · rw [if_neg hg] at h; cases h
end Go.Proofs.YthbdaoapjnofkaaDoor.H
