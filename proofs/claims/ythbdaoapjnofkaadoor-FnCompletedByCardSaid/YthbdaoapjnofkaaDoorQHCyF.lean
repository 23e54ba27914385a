/- What a completer whose first words a function tells offers (impl.CompletedBy): the closure that asks it; for ASCII. -/
import Derived.Test.YthbdaoapjnofkaaDoorQHCmG
namespace Go.Proofs.YthbdaoapjnofkaaDoor.H
open Go.RowKit Go.Proofs.YthbdaoapjnofkaaDoorW.PrintWords Go.Proofs.YthbdaoapjnofkaaDoorW.PrintLast Go.Proofs.YthbdaoapjnofkaaDoor.R Go.Proofs.YthbdaoapjnofkaaDoor.X
set_option linter.unusedVariables false
set_option linter.unusedSimpArgs false
attribute [local go_sem ↓] Go.wp_at_zero Go.wp_at_succ
/-- The completers beneath one, wherever they lie. -/
def KidsAt (D : Nat) (w : World) (kA : Option Addr) (kids : List Tr) : Prop := ∀ (j : Nat) (k : Tr), kids[j]? = some k → ∃ g p, kA = some ⟨g, 0, none⟩ ∧ w.cell? ⟨g, j, none⟩ = some (.iface 80 (PtS p)) ∧ TrAt D w p k
theorem KidsAt.below {D : Nat} {w w1 : World} {kA : Option Addr} {kids : List Tr} (h : KidsAt D w kA kids) (hb : Below w.heap.size w w1) : KidsAt D w1 kA kids := fun j k hj => by
  obtain ⟨g, p, e, hc, ht⟩ := h j k hj
  exact ⟨g, p, e, (hb.cell (p := ⟨g, j, none⟩) (by have := cell_lt hc; exact this)).trans hc, ht.below hb⟩
theorem KidsIn.at_ {S : Nat → Prop} {D : Nat} {w : World} {kA : Option Addr} {kids : List Tr} (h : KidsIn S D w kA kids) : KidsAt D w kA kids := fun j k hj => by
  obtain ⟨g, p, e, _, hc, ht⟩ := h j k hj
  exact ⟨g, p, e, hc, ht.at_⟩
theorem nm_empty : nmOf ⟨#[]⟩ = [32] := by decide
theorem NewPC_at (D : Nat) (kA : Option Addr) (kc : Nat) (kids : List Tr) (w : World) (hk : KidsAt D w kA kids) (hkc : kids.length ≤ kc) (hkl : kids.length ≤ 1000000) :
    Calls Tryd.prog 56 #[.slice kA kids.length kc] w fun e w' => ∃ m, e = .returned (PtS m) ∧ TrAt (D + 1) w' m (.node false [[32]] kids) ∧ Below w.heap.size w w' := by
  have HK := Lib.hid hk
  have H := Lib.hid (PcItem_calls ⟨#[]⟩ kA kids.length kc w (by intro b hb; simp at hb) (by decide))
  clear hk
  go_enter Tryd.func56, Tryd.ntmps56
  go_wp2_with (go_at_call 51; refine H.out.mono ?_; rintro e w1 ⟨m, b, nc, cb, rfl, hr, ht, hle, hm, hb, hbw⟩; have HT := Lib.hid (And.intro hr (And.intro ht (And.intro hle hbw))); clear hr ht hle hbw hm hb)
  go_ret
  have hr := HT.out.1
  obtain ⟨⟨cs, fz, hty⟩, hcl⟩ := HT.out.2.1
  have hle := HT.out.2.2.1
  rw [nm_empty] at hr hcl hle
  refine ⟨m, rfl, ⟨_, cb, kA, kc, hr, hkc, hkl, .inl ⟨rfl, some ⟨b, 0, none⟩, nc, [32], rfl, hle, rfl, ⟨_, _, rfl, hle, ?_, fun _ => ⟨_, cs, fz, rfl, hty⟩⟩, by simp, by simp⟩, (HK.out.below HT.out.2.2.2)⟩, HT.out.2.2.2⟩
  refine Kd.C_of_reads (enc := Value.int .i32) (d := (0 : Int)) ⟨rfl, by simp, fun _ => ⟨_, rfl, fun j hj => ?_⟩⟩
  have e : (⟨b, 0, none⟩ : Addr).add j = ⟨b, j, none⟩ := by
    cases j with
    | zero => rfl
    | succ j => simp [Addr.add]
  rw [e]
  exact hcl j hj
/-- A completer whose words a function tells. -/
theorem PcDyn_calls (q : Nat) (A : Option Addr) (n c : Nat) (w : World) : Calls Tryd.prog 54 #[CBV q, .slice A n c] w fun e w' => e = .returned (PtS w.heap.size) ∧ w' = w.alloc (.cells #[.slice none 0 0, .bool true, CBV q, .slice A n c] 109) := by
  go_enter Tryd.func54, Tryd.ntmps54
  go_wp2_with fail
  go_ret
  exact ⟨rfl, rfl⟩
theorem kids_one {V : World} {md : Nat} {t : Tr} (h : TrAt 2 V md t) : KidsAt 2 (V.alloc (.cells #[.iface 80 (PtS md)] 127)).drew (some ⟨V.heap.size, 0, none⟩) [t] := fun j k hj => by
  obtain rfl : j = 0 := by have := (List.getElem?_eq_some_iff.1 hj).1; simp at this; omega
  obtain rfl : t = k := by simpa using hj
  exact ⟨_, md, rfl, (Rec.new V [.iface 80 (PtS md)] 127).cell 0 rfl, h.below (((Below.refl _ _).alloc (Nat.le_refl _) _).drew)⟩
theorem S_below {w w1 : World} {q0 q1 : Nat} {x y : Value} (h0 : w.cell? ⟨q0, 0, none⟩ = some x) (h1 : w.cell? ⟨q1, 0, none⟩ = some y) (hb : Below w.heap.size w w1) : w1.cell? ⟨q0, 0, none⟩ = some x ∧ w1.cell? ⟨q1, 0, none⟩ = some y := ⟨(hb.cell (p := ⟨q0, 0, none⟩) (by have := cell_lt h0; exact this)).trans h0, (hb.cell (p := ⟨q1, 0, none⟩) (by have := cell_lt h1; exact this)).trans h1⟩
set_option maxRecDepth 100000 in
set_option maxHeartbeats 16000000 in
theorem closure53_calls (qn qk ql qa qg qo : Nat) (Q : Option Addr) (qc : Nat) (strs : List ByteArray) (kA : Option Addr) (kc n : Nat) (kids : List Tr) (s : ByteArray) (w : World) (hq : One w qn (.slice Q strs.length qc) 22) (hQ : Kd.C Kd.string w Q strs.length strs) (hqc : strs.length ≤ qc) (hpos : 0 < strs.length) (hlen : strs.length ≤ 1000000) (hstr : ∀ s ∈ strs, Asc s ∧ s.size ≤ 100000)
    (h1 : One w qk (.slice kA kids.length kc) 79) (h2 : One w ql (.string s) 9) (h3 : One w qa (.int .i64 n) 3) (h4 : One w qg (.slice none 0 0) 59) (h5 : One w qo (.int .i64 0) 3) (hd : qg ≠ qo) (n1g : ql ≠ qg) (n2g : qa ≠ qg) (n1o : ql ≠ qo) (n2o : qa ≠ qo) (hk : KidsAt 1 w kA kids) (hkc : kids.length ≤ kc) (hkl : kids.length ≤ 1000000) (ha : Asc s) (hs : s.size ≤ 1000000) (hn : n ≤ s.size) :
    Calls Tryd.prog 53 #[PtS qn, PtS qk, PtS ql, PtS qa, PtS qg, PtS qo] w fun e w' => e = .returned (.tuple #[]) ∧ ∃ T c', (comp 3 (.node false [[32]] [.node true (strs.map nmOf) kids]) ((ints s).take n)).1.length ≤ c' ∧ One w' qg (.slice T (comp 3 (.node false [[32]] [.node true (strs.map nmOf) kids]) ((ints s).take n)).1.length c') 59 ∧ One w' qo (.int .i64 (comp 3 (.node false [[32]] [.node true (strs.map nmOf) kids]) ((ints s).take n)).2) 3 ∧ RW w' T (comp 3 (.node false [[32]] [.node true (strs.map nmOf) kids]) ((ints s).take n)).1 ∧ w.heap.size ≤ w'.heap.size ∧ (∀ k, k < w.heap.size → k ≠ qg → k ≠ qo → w'.heap[k]? = w.heap[k]?) ∧ ∀ B, B ≤ qg → B ≤ qo → B ≤ w.heap.size → Below B w w' := by
  have hcv := fun W : World => runes_run (P := Tryd.prog) W 9 27 21 s (by kernel_rfl) (by kernel_rfl) (by kernel_rfl) (by omega)
  rw [runesOf_asc ha] at hcv
  have hli := ints_length s
  rw [hli] at hcv
  obtain ⟨t, ht⟩ : ∃ t, t = Tr.node true (strs.map nmOf) kids := ⟨_, rfl⟩
  rw [← ht]
  obtain ⟨r, hr⟩ : ∃ r, r = comp 3 (.node false [[32]] [t]) ((ints s).take n) := ⟨_, rfl⟩
  have HRR := Lib.hid hr
  rw [← hr]
  clear hr
  have c1 := h1.cell
  have HH := Lib.hid (And.intro h4 (And.intro h5 ha))
  have HS0 := Lib.hid (fun W (hW : Below w.heap.size w W) => S_below h2.cell h3.cell hW)
  have hbD : Below w.heap.size w (w.alloc (.cells #[.slice none 0 0, .bool true, CBV qn, .slice kA kids.length kc] 109)) := (Below.refl _ _).alloc (Nat.le_refl _) _
  have hTD : TrAt 2 (w.alloc (.cells #[.slice none 0 0, .bool true, CBV qn, .slice kA kids.length kc] 109)) w.heap.size t := by
    subst ht
    exact ⟨.slice none 0 0, CBV qn, kA, kc, Rec.new w [.slice none 0 0, .bool true, CBV qn, .slice kA kids.length kc] 109, hkc, hkl, .inr ⟨rfl, qn, Q, qc, strs, rfl, (hbD.block qn (lt_of_block hq)).trans hq, Kd.C_below hQ hbD, hqc, hpos, hlen, hstr, rfl⟩, hk.below hbD⟩
  have HTD := Lib.hid (And.intro hTD hbD)
  clear hq hQ hqc hpos hlen hstr h1 h2 h3 h4 h5 hk hkc hkl ha ht hbD hTD
  go_enter Tryd.func53, Tryd.ntmps53
  go_wp2_with (go_at_call 54; refine (PcDyn_calls qn kA kids.length kc w).mono ?_; rintro e w1 ⟨rfl, rfl⟩)
  obtain ⟨md, hmd⟩ : ∃ md, md = w.heap.size := ⟨_, rfl⟩
  obtain ⟨wd, hwd⟩ : ∃ wd, wd = w.alloc (.cells #[.slice none 0 0, .bool true, CBV qn, .slice kA kids.length kc] 109) := ⟨_, rfl⟩
  have HTD2 := Lib.hid (show TrAt 2 wd md t ∧ Below w.heap.size w wd from by rw [hmd, hwd]; exact HTD.out)
  rw [← hwd]
  try rw [← hmd]
  clear hmd hwd HTD c1
  obtain ⟨s0, s1⟩ := HS0.out wd HTD2.out.2
  have HS := Lib.hid (fun W (hW : Below wd.heap.size wd W) => S_below s0 s1 hW)
  refine wp_region_noPanic ?_
  refine wp_region_held_drew (S := fun w' => w'.cell? ⟨ql, 0, none⟩ = some (.string s) ∧ w'.cell? ⟨qa, 0, none⟩ = some (.int .i64 n)) (by kernel_rfl) ⟨s0, s1⟩ (fun hHeld0 => ?_)
  clear s0 s1
  refine wpAnyH_take (i := 0) (v := ?vz1_0) (by simp only [List.getElem?_toArray, List.getElem?_cons_succ, List.getElem?_cons_zero]; rfl) (by kernel_rfl) (by kernel_rfl) (by kernel_rfl) (fun _ _ _ h => h) (Or.inl ⟨by rfl, ?hz1_0⟩) (by assumption) ?_
  case hz1_0 => (intro w hSw; (try obtain ⟨s0, s1⟩ := hSw); go_simp; try with_reducible rfl)
  try simp only [Act.put, List.setIfInBounds_toArray, List.set_cons_zero, List.set_cons_succ]
  refine wpAnyH_take (i := 1) (v := ?vz2_1) (by simp only [List.getElem?_toArray, List.getElem?_cons_succ, List.getElem?_cons_zero]; rfl) (by kernel_rfl) (by kernel_rfl) (by kernel_rfl) (fun _ _ _ h => h) (Or.inl ⟨by rfl, ?hz2_1⟩) (by assumption) ?_
  case hz2_1 => (intro w hSw; (try obtain ⟨s0, s1⟩ := hSw); go_simp; try with_reducible rfl)
  try simp only [Act.put, List.setIfInBounds_toArray, List.set_cons_zero, List.set_cons_succ]
  refine wpAnyH_take (i := 4) (v := ?vz3_4) (by simp only [List.getElem?_toArray, List.getElem?_cons_succ, List.getElem?_cons_zero]; rfl) (by kernel_rfl) (by kernel_rfl) (by kernel_rfl) (fun _ _ _ h => h) (Or.inl ⟨by rfl, ?hz3_4⟩) (by assumption) ?_
  case hz3_4 => (intro w hSw; (try obtain ⟨s0, s1⟩ := hSw); go_simp; try with_reducible rfl)
  try simp only [Act.put, List.setIfInBounds_toArray, List.set_cons_zero, List.set_cons_succ]
  refine wpAnyH_take (i := 6) (v := ?vz4_6) (by simp only [List.getElem?_toArray, List.getElem?_cons_succ, List.getElem?_cons_zero]; rfl) (by kernel_rfl) (by kernel_rfl) (by kernel_rfl) (fun _ _ _ h => h) (Or.inl ⟨by rfl, ?hz4_6⟩) (by assumption) ?_
  case hz4_6 => (intro w hSw; (try obtain ⟨s0, s1⟩ := hSw); go_simp; try with_reducible rfl)
  try simp only [Act.put, List.setIfInBounds_toArray, List.set_cons_zero, List.set_cons_succ]
  refine wpAnyH_ready (rs := [2, 5]) (by kernel_rfl) (by simp) ?_
  refine AllReadyH.cons (o := _) rfl (fun K hK => ?_) (AllReadyH.cons (o := _) rfl (fun K hK => ?_) AllReadyH.nil)
  · go_simp
    obtain ⟨V1, hV1⟩ : ∃ V1, V1 = (wd.alloc (.cells #[.iface 80 (PtS md)] 127)).drew := ⟨_, rfl⟩
    have HKV1 := Lib.hid (show KidsAt 2 V1 (some ⟨wd.heap.size, 0, none⟩) [t] from by rw [hV1]; exact kids_one HTD2.out.1)
    have HBV1 := Lib.hid (show Below wd.heap.size wd V1 from by rw [hV1]; exact ((Below.refl _ _).alloc (Nat.le_refl _) _).drew)
    rw [← hV1]
    clear hV1
    refine hK.out _ _ (HS.out V1 HBV1.out) (fun hHeldV1 => ?_)
    clear hK K hHeld0
    try simp only [Act.put, List.setIfInBounds_toArray, List.set_cons_zero, List.set_cons_succ]
    refine wpAnyH_ready (rs := [3, 5]) (by kernel_rfl) (by simp) ?_
    refine AllReadyH.cons (o := _) rfl (fun K hK => ?_) (AllReadyH.cons (o := _) rfl (fun K hK => ?_) AllReadyH.nil)
    · go_simp
      refine (NewPC_at 2 (some ⟨wd.heap.size, 0, none⟩) 1 [t] V1 HKV1.out (by simp) (by simp)).mono ?_
      rintro e V2 ⟨m, rfl, htr, hb1⟩
      have HTV2 := Lib.hid htr
      have HBV2 := Lib.hid (HBV1.out.trans (hb1.mono HBV1.out.size))
      clear htr hb1
      refine hK.out _ _ (HS.out V2 HBV2.out) (fun hHeldV2 => ?_)
      clear hK K hHeldV1
      try simp only [Act.put, List.setIfInBounds_toArray, List.set_cons_zero, List.set_cons_succ]
      refine wpAnyH_ready (rs := [5]) (by kernel_rfl) (by simp) ?_
      refine AllReadyH.cons (o := _) rfl (fun K hK => ?_) AllReadyH.nil
      go_simp
      have hcapV3 := grownCap_ge V2 s.size 0 21
      obtain ⟨cap, hcp⟩ : ∃ cap, cap = grownCap V2 s.size 0 21 := ⟨_, rfl⟩
      rw [← hcp] at hcapV3 ⊢
      clear hcp
      obtain ⟨V3, hV3⟩ : ∃ V3, V3 = (V2.alloc (.cells (runeCells (ints s) cap).toArray 21)).drew := ⟨_, rfl⟩
      have HRV3 := Lib.hid (show Rec V3 V2.heap.size (runeCells (ints s) cap) 21 from by rw [hV3]; exact (Rec.new V2 _ 21).drew)
      have HBV3 := Lib.hid (show Below wd.heap.size wd V3 from by rw [hV3]; exact (HBV2.out.alloc HBV2.out.size _).drew)
      have HTV3 := Lib.hid (show TrAt 3 V3 m (.node false [[32]] [t]) from by rw [hV3]; exact HTV2.out.below (((Below.refl _ _).alloc (Nat.le_refl _) _).drew))
      rw [← hV3]
      clear hV3
      obtain ⟨rb, hrb⟩ : ∃ rb, rb = V2.heap.size := ⟨_, rfl⟩
      rw [← hrb]
      replace HRV3 := Lib.hid (show Rec V3 rb (runeCells (ints s) cap) 21 from hrb ▸ HRV3.out)
      clear hrb
      refine hK.out _ _ (HS.out V3 HBV3.out) (fun hHeldV3 => ?_)
      clear hK K hHeldV2
      try simp only [Act.put, List.setIfInBounds_toArray, List.set_cons_zero, List.set_cons_succ]
      refine wpAnyH_ready (rs := [7]) (by kernel_rfl) (by simp) ?_
      refine AllReadyH.cons (o := _) rfl (fun K hK => ?_) AllReadyH.nil
      go_simp
      have hdo := Do_calls 3 m _ (ints s) (some ⟨rb, 0, none⟩) cap n V3 HTV3.out (CRow HRV3.out (by omega)) (by omega) (by omega) (asc_ints HH.out.2.2) (by omega)
      rw [hli, ← HRR.out] at hdo
      refine hdo.mono ?_
      clear hdo
      rintro e w6 ⟨T, c', rfl, hle, hRW, hb6⟩
      have HBd6 := Lib.hid (below_step HBV3.out hb6)
      have HB6 := Lib.hid (HTD2.out.2.trans (HBd6.out.mono HTD2.out.2.size))
      have HRW := Lib.hid (And.intro hle hRW)
      clear hle hRW hb6
      refine hK.out _ _ (HS.out w6 HBd6.out) (fun hHeld4 => ?_)
      clear hK K hHeldV3
      try simp only [Act.put, List.setIfInBounds_toArray, List.set_cons_zero, List.set_cons_succ]
      refine wpAnyH_take (i := 8) (v := ?vz5_8) (by simp only [List.getElem?_toArray, List.getElem?_cons_succ, List.getElem?_cons_zero]; rfl) (by kernel_rfl) (by kernel_rfl) (by kernel_rfl) (fun _ _ _ h => h) (Or.inl ⟨by rfl, ?hz5_8⟩) (by assumption) ?_
      case hz5_8 => (intro w hSw; (try obtain ⟨s0, s1⟩ := hSw); go_simp; try with_reducible rfl)
      try simp only [Act.put, List.setIfInBounds_toArray, List.set_cons_zero, List.set_cons_succ]
      refine wpAnyH_take (i := 9) (v := ?vz6_9) (by simp only [List.getElem?_toArray, List.getElem?_cons_succ, List.getElem?_cons_zero]; rfl) (by kernel_rfl) (by kernel_rfl) (by kernel_rfl) (fun _ _ _ h => h) (Or.inl ⟨by rfl, ?hz6_9⟩) (by assumption) ?_
      case hz6_9 => (intro w hSw; (try obtain ⟨s0, s1⟩ := hSw); go_simp; try with_reducible rfl)
      try simp only [Act.put, List.setIfInBounds_toArray, List.set_cons_zero, List.set_cons_succ]
      refine wpAnyH_take (i := 10) (v := ?vz7_10) (by simp only [List.getElem?_toArray, List.getElem?_cons_succ, List.getElem?_cons_zero]; rfl) (by kernel_rfl) (by kernel_rfl) (by kernel_rfl) (fun _ _ _ h => h) (Or.inl ⟨by rfl, ?hz7_10⟩) (by assumption) ?_
      case hz7_10 => (intro w hSw; (try obtain ⟨s0, s1⟩ := hSw); go_simp; try with_reducible rfl)
      try simp only [Act.put, List.setIfInBounds_toArray, List.set_cons_zero, List.set_cons_succ]
      have o3 := HH.out.1.below HB6.out (lt_of_block HH.out.1)
      have o4 := HH.out.2.1.below HB6.out (lt_of_block HH.out.2.1)
      have k3 := o3.cell
      have z3 := o3.free
      have k4 := o4.cell
      have z4 := o4.free
      have HTS := Lib.hid (two_sets (x := .slice T r.1.length c') (y := .int .i64 r.2) o3 o4 hd (by decide) (by decide) HRW.out.2)
      have k4' := (o4.other (a := ⟨qg, 0, none⟩) (fun e => hd e.symm) (.slice T r.1.length c')).cell
      have z4' := (o4.other (a := ⟨qg, 0, none⟩) (fun e => hd e.symm) (.slice T r.1.length c')).free
      have HO := Lib.hid (HS.out w6 HBd6.out)
      clear o3 o4
      refine wpAnyH_ready (rs := [11]) (by kernel_rfl) (by simp) ?_
      refine AllReadyH.cons (o := _) rfl (fun K hK => ?_) AllReadyH.nil
      go_simp
      refine hK.out _ _ ⟨S_set HO.out.1 n1g, S_set HO.out.2 n2g⟩ (fun hHeld5 => ?_)
      clear hK K hHeld4
      try simp only [Act.put, List.setIfInBounds_toArray, List.set_cons_zero, List.set_cons_succ]
      refine wpAnyH_ready (rs := [12]) (by kernel_rfl) (by simp) ?_
      refine AllReadyH.cons (o := _) rfl (fun K hK => ?_) AllReadyH.nil
      go_simp
      refine hK.out _ _ ⟨S_set (S_set HO.out.1 n1g) n1o, S_set (S_set HO.out.2 n2g) n2o⟩ (fun hHeld6 => ?_)
      clear hK K hHeld5
      try simp only [Act.put, List.setIfInBounds_toArray, List.set_cons_zero, List.set_cons_succ]
      refine wpAnyH_done (by kernel_rfl) ?_ _
      refine NoPanic.normal ?_
      go_end0
      exact ⟨rfl, T, c', HRW.out.1, HTS.out.1, HTS.out.2.1, HTS.out.2.2.1, Nat.le_trans HB6.out.size HTS.out.2.2.2.1, fun k hk h3 h4 => (HTS.out.2.2.2.2 k h3 h4).trans (HB6.out.block k hk), fun B h3 h4 hB => below_put (below_put (HB6.out.mono hB) h3 0 _) h4 0 _⟩
    · go_simp
      have hcapV2 := grownCap_ge V1 s.size 0 21
      obtain ⟨cap, hcp⟩ : ∃ cap, cap = grownCap V1 s.size 0 21 := ⟨_, rfl⟩
      rw [← hcp] at hcapV2 ⊢
      clear hcp
      obtain ⟨V2, hV2⟩ : ∃ V2, V2 = (V1.alloc (.cells (runeCells (ints s) cap).toArray 21)).drew := ⟨_, rfl⟩
      have HRV2 := Lib.hid (show Rec V2 V1.heap.size (runeCells (ints s) cap) 21 from by rw [hV2]; exact (Rec.new V1 _ 21).drew)
      have HBV2 := Lib.hid (show Below wd.heap.size wd V2 from by rw [hV2]; exact (HBV1.out.alloc HBV1.out.size _).drew)
      have HKV2 := Lib.hid (show KidsAt 2 V2 (some ⟨wd.heap.size, 0, none⟩) [t] from by rw [hV2]; exact HKV1.out.below (((Below.refl _ _).alloc (Nat.le_refl _) _).drew))
      rw [← hV2]
      clear hV2
      obtain ⟨rb, hrb⟩ : ∃ rb, rb = V1.heap.size := ⟨_, rfl⟩
      rw [← hrb]
      replace HRV2 := Lib.hid (show Rec V2 rb (runeCells (ints s) cap) 21 from hrb ▸ HRV2.out)
      clear hrb
      refine hK.out _ _ (HS.out V2 HBV2.out) (fun hHeldV2 => ?_)
      clear hK K hHeldV1
      try simp only [Act.put, List.setIfInBounds_toArray, List.set_cons_zero, List.set_cons_succ]
      refine wpAnyH_ready (rs := [3]) (by kernel_rfl) (by simp) ?_
      refine AllReadyH.cons (o := _) rfl (fun K hK => ?_) AllReadyH.nil
      go_simp
      refine (NewPC_at 2 (some ⟨wd.heap.size, 0, none⟩) 1 [t] V2 HKV2.out (by simp) (by simp)).mono ?_
      rintro e V3 ⟨m, rfl, htr, hb1⟩
      have HTV3 := Lib.hid htr
      have HBV3 := Lib.hid (HBV2.out.trans (hb1.mono HBV2.out.size))
      have HRV3 := Lib.hid (HRV2.out.stays hb1)
      clear htr hb1
      refine hK.out _ _ (HS.out V3 HBV3.out) (fun hHeldV3 => ?_)
      clear hK K hHeldV2
      try simp only [Act.put, List.setIfInBounds_toArray, List.set_cons_zero, List.set_cons_succ]
      refine wpAnyH_ready (rs := [7]) (by kernel_rfl) (by simp) ?_
      refine AllReadyH.cons (o := _) rfl (fun K hK => ?_) AllReadyH.nil
      go_simp
      have hdo := Do_calls 3 m _ (ints s) (some ⟨rb, 0, none⟩) cap n V3 HTV3.out (CRow HRV3.out (by omega)) (by omega) (by omega) (asc_ints HH.out.2.2) (by omega)
      rw [hli, ← HRR.out] at hdo
      refine hdo.mono ?_
      clear hdo
      rintro e w6 ⟨T, c', rfl, hle, hRW, hb6⟩
      have HBd6 := Lib.hid (below_step HBV3.out hb6)
      have HB6 := Lib.hid (HTD2.out.2.trans (HBd6.out.mono HTD2.out.2.size))
      have HRW := Lib.hid (And.intro hle hRW)
      clear hle hRW hb6
      refine hK.out _ _ (HS.out w6 HBd6.out) (fun hHeld4 => ?_)
      clear hK K hHeldV3
      try simp only [Act.put, List.setIfInBounds_toArray, List.set_cons_zero, List.set_cons_succ]
      refine wpAnyH_take (i := 8) (v := ?vz8_8) (by simp only [List.getElem?_toArray, List.getElem?_cons_succ, List.getElem?_cons_zero]; rfl) (by kernel_rfl) (by kernel_rfl) (by kernel_rfl) (fun _ _ _ h => h) (Or.inl ⟨by rfl, ?hz8_8⟩) (by assumption) ?_
      case hz8_8 => (intro w hSw; (try obtain ⟨s0, s1⟩ := hSw); go_simp; try with_reducible rfl)
      try simp only [Act.put, List.setIfInBounds_toArray, List.set_cons_zero, List.set_cons_succ]
      refine wpAnyH_take (i := 9) (v := ?vz9_9) (by simp only [List.getElem?_toArray, List.getElem?_cons_succ, List.getElem?_cons_zero]; rfl) (by kernel_rfl) (by kernel_rfl) (by kernel_rfl) (fun _ _ _ h => h) (Or.inl ⟨by rfl, ?hz9_9⟩) (by assumption) ?_
      case hz9_9 => (intro w hSw; (try obtain ⟨s0, s1⟩ := hSw); go_simp; try with_reducible rfl)
      try simp only [Act.put, List.setIfInBounds_toArray, List.set_cons_zero, List.set_cons_succ]
      refine wpAnyH_take (i := 10) (v := ?vz10_10) (by simp only [List.getElem?_toArray, List.getElem?_cons_succ, List.getElem?_cons_zero]; rfl) (by kernel_rfl) (by kernel_rfl) (by kernel_rfl) (fun _ _ _ h => h) (Or.inl ⟨by rfl, ?hz10_10⟩) (by assumption) ?_
      case hz10_10 => (intro w hSw; (try obtain ⟨s0, s1⟩ := hSw); go_simp; try with_reducible rfl)
      try simp only [Act.put, List.setIfInBounds_toArray, List.set_cons_zero, List.set_cons_succ]
      have o3 := HH.out.1.below HB6.out (lt_of_block HH.out.1)
      have o4 := HH.out.2.1.below HB6.out (lt_of_block HH.out.2.1)
      have k3 := o3.cell
      have z3 := o3.free
      have k4 := o4.cell
      have z4 := o4.free
      have HTS := Lib.hid (two_sets (x := .slice T r.1.length c') (y := .int .i64 r.2) o3 o4 hd (by decide) (by decide) HRW.out.2)
      have k4' := (o4.other (a := ⟨qg, 0, none⟩) (fun e => hd e.symm) (.slice T r.1.length c')).cell
      have z4' := (o4.other (a := ⟨qg, 0, none⟩) (fun e => hd e.symm) (.slice T r.1.length c')).free
      have HO := Lib.hid (HS.out w6 HBd6.out)
      clear o3 o4
      refine wpAnyH_ready (rs := [11]) (by kernel_rfl) (by simp) ?_
      refine AllReadyH.cons (o := _) rfl (fun K hK => ?_) AllReadyH.nil
      go_simp
      refine hK.out _ _ ⟨S_set HO.out.1 n1g, S_set HO.out.2 n2g⟩ (fun hHeld5 => ?_)
      clear hK K hHeld4
      try simp only [Act.put, List.setIfInBounds_toArray, List.set_cons_zero, List.set_cons_succ]
      refine wpAnyH_ready (rs := [12]) (by kernel_rfl) (by simp) ?_
      refine AllReadyH.cons (o := _) rfl (fun K hK => ?_) AllReadyH.nil
      go_simp
      refine hK.out _ _ ⟨S_set (S_set HO.out.1 n1g) n1o, S_set (S_set HO.out.2 n2g) n2o⟩ (fun hHeld6 => ?_)
      clear hK K hHeld5
      try simp only [Act.put, List.setIfInBounds_toArray, List.set_cons_zero, List.set_cons_succ]
      refine wpAnyH_done (by kernel_rfl) ?_ _
      refine NoPanic.normal ?_
      go_end0
      exact ⟨rfl, T, c', HRW.out.1, HTS.out.1, HTS.out.2.1, HTS.out.2.2.1, Nat.le_trans HB6.out.size HTS.out.2.2.2.1, fun k hk h3 h4 => (HTS.out.2.2.2.2 k h3 h4).trans (HB6.out.block k hk), fun B h3 h4 hB => below_put (below_put (HB6.out.mono hB) h3 0 _) h4 0 _⟩
  · go_simp
    have hcapV1 := grownCap_ge wd.drew s.size 0 21
    obtain ⟨cap, hcp⟩ : ∃ cap, cap = grownCap wd.drew s.size 0 21 := ⟨_, rfl⟩
    rw [← hcp] at hcapV1 ⊢
    clear hcp
    obtain ⟨V1, hV1⟩ : ∃ V1, V1 = (wd.alloc (.cells (runeCells (ints s) cap).toArray 21)).drew.drew := ⟨_, rfl⟩
    have HRV1 := Lib.hid (show Rec V1 wd.heap.size (runeCells (ints s) cap) 21 from by rw [hV1]; exact ((Rec.new wd _ 21).drew).drew)
    have HBV1 := Lib.hid (show Below wd.heap.size wd V1 from by rw [hV1]; exact (((Below.refl _ _).alloc (Nat.le_refl _) _).drew).drew)
    have HDV1 := Lib.hid (show TrAt 2 V1 md t from by rw [hV1]; exact HTD2.out.1.below ((((Below.refl _ _).alloc (Nat.le_refl _) _).drew).drew))
    rw [← hV1]
    clear hV1
    obtain ⟨rb, hrb⟩ : ∃ rb, rb = wd.heap.size := ⟨_, rfl⟩
    rw [← hrb]
    replace HRV1 := Lib.hid (show Rec V1 rb (runeCells (ints s) cap) 21 from hrb ▸ HRV1.out)
    clear hrb
    refine hK.out _ _ (HS.out V1 HBV1.out) (fun hHeldV1 => ?_)
    clear hK K hHeld0
    try simp only [Act.put, List.setIfInBounds_toArray, List.set_cons_zero, List.set_cons_succ]
    refine wpAnyH_ready (rs := [2]) (by kernel_rfl) (by simp) ?_
    refine AllReadyH.cons (o := _) rfl (fun K hK => ?_) AllReadyH.nil
    go_simp
    obtain ⟨V2, hV2⟩ : ∃ V2, V2 = V1.alloc (.cells #[.iface 80 (PtS md)] 127) := ⟨_, rfl⟩
    have HRV2 := Lib.hid (show Rec V2 rb (runeCells (ints s) cap) 21 from by rw [hV2]; exact HRV1.out.alloc _)
    have HBV2 := Lib.hid (show Below wd.heap.size wd V2 from by rw [hV2]; exact HBV1.out.alloc HBV1.out.size _)
    have HKV2 := Lib.hid (show KidsAt 2 V2 (some ⟨V1.heap.size, 0, none⟩) [t] from by rw [hV2]; exact (kids_one HDV1.out))
    rw [← hV2]
    clear hV2
    obtain ⟨gb, hgb⟩ : ∃ gb, gb = V1.heap.size := ⟨_, rfl⟩
    rw [← hgb]
    replace HKV2 := Lib.hid (show KidsAt 2 V2 (some ⟨gb, 0, none⟩) [t] from hgb ▸ HKV2.out)
    clear hgb
    refine hK.out _ _ (HS.out V2 HBV2.out) (fun hHeldV2 => ?_)
    clear hK K hHeldV1
    try simp only [Act.put, List.setIfInBounds_toArray, List.set_cons_zero, List.set_cons_succ]
    refine wpAnyH_ready (rs := [3]) (by kernel_rfl) (by simp) ?_
    refine AllReadyH.cons (o := _) rfl (fun K hK => ?_) AllReadyH.nil
    go_simp
    refine (NewPC_at 2 (some ⟨gb, 0, none⟩) 1 [t] V2 HKV2.out (by simp) (by simp)).mono ?_
    rintro e V3 ⟨m, rfl, htr, hb1⟩
    have HTV3 := Lib.hid htr
    have HBV3 := Lib.hid (HBV2.out.trans (hb1.mono HBV2.out.size))
    have HRV3 := Lib.hid (HRV2.out.stays hb1)
    clear htr hb1
    refine hK.out _ _ (HS.out V3 HBV3.out) (fun hHeldV3 => ?_)
    clear hK K hHeldV2
    try simp only [Act.put, List.setIfInBounds_toArray, List.set_cons_zero, List.set_cons_succ]
    refine wpAnyH_ready (rs := [7]) (by kernel_rfl) (by simp) ?_
    refine AllReadyH.cons (o := _) rfl (fun K hK => ?_) AllReadyH.nil
    go_simp
    have hdo := Do_calls 3 m _ (ints s) (some ⟨rb, 0, none⟩) cap n V3 HTV3.out (CRow HRV3.out (by omega)) (by omega) (by omega) (asc_ints HH.out.2.2) (by omega)
    rw [hli, ← HRR.out] at hdo
    refine hdo.mono ?_
    clear hdo
    rintro e w6 ⟨T, c', rfl, hle, hRW, hb6⟩
    have HBd6 := Lib.hid (below_step HBV3.out hb6)
    have HB6 := Lib.hid (HTD2.out.2.trans (HBd6.out.mono HTD2.out.2.size))
    have HRW := Lib.hid (And.intro hle hRW)
    clear hle hRW hb6
    refine hK.out _ _ (HS.out w6 HBd6.out) (fun hHeld4 => ?_)
    clear hK K hHeldV3
    try simp only [Act.put, List.setIfInBounds_toArray, List.set_cons_zero, List.set_cons_succ]
    refine wpAnyH_take (i := 8) (v := ?vz11_8) (by simp only [List.getElem?_toArray, List.getElem?_cons_succ, List.getElem?_cons_zero]; rfl) (by kernel_rfl) (by kernel_rfl) (by kernel_rfl) (fun _ _ _ h => h) (Or.inl ⟨by rfl, ?hz11_8⟩) (by assumption) ?_
    case hz11_8 => (intro w hSw; (try obtain ⟨s0, s1⟩ := hSw); go_simp; try with_reducible rfl)
    try simp only [Act.put, List.setIfInBounds_toArray, List.set_cons_zero, List.set_cons_succ]
    refine wpAnyH_take (i := 9) (v := ?vz12_9) (by simp only [List.getElem?_toArray, List.getElem?_cons_succ, List.getElem?_cons_zero]; rfl) (by kernel_rfl) (by kernel_rfl) (by kernel_rfl) (fun _ _ _ h => h) (Or.inl ⟨by rfl, ?hz12_9⟩) (by assumption) ?_
    case hz12_9 => (intro w hSw; (try obtain ⟨s0, s1⟩ := hSw); go_simp; try with_reducible rfl)
    try simp only [Act.put, List.setIfInBounds_toArray, List.set_cons_zero, List.set_cons_succ]
    refine wpAnyH_take (i := 10) (v := ?vz13_10) (by simp only [List.getElem?_toArray, List.getElem?_cons_succ, List.getElem?_cons_zero]; rfl) (by kernel_rfl) (by kernel_rfl) (by kernel_rfl) (fun _ _ _ h => h) (Or.inl ⟨by rfl, ?hz13_10⟩) (by assumption) ?_
    case hz13_10 => (intro w hSw; (try obtain ⟨s0, s1⟩ := hSw); go_simp; try with_reducible rfl)
    try simp only [Act.put, List.setIfInBounds_toArray, List.set_cons_zero, List.set_cons_succ]
    have o3 := HH.out.1.below HB6.out (lt_of_block HH.out.1)
    have o4 := HH.out.2.1.below HB6.out (lt_of_block HH.out.2.1)
    have k3 := o3.cell
    have z3 := o3.free
    have k4 := o4.cell
    have z4 := o4.free
    have HTS := Lib.hid (two_sets (x := .slice T r.1.length c') (y := .int .i64 r.2) o3 o4 hd (by decide) (by decide) HRW.out.2)
    have k4' := (o4.other (a := ⟨qg, 0, none⟩) (fun e => hd e.symm) (.slice T r.1.length c')).cell
    have z4' := (o4.other (a := ⟨qg, 0, none⟩) (fun e => hd e.symm) (.slice T r.1.length c')).free
    have HO := Lib.hid (HS.out w6 HBd6.out)
    clear o3 o4
    refine wpAnyH_ready (rs := [11]) (by kernel_rfl) (by simp) ?_
    refine AllReadyH.cons (o := _) rfl (fun K hK => ?_) AllReadyH.nil
    go_simp
    refine hK.out _ _ ⟨S_set HO.out.1 n1g, S_set HO.out.2 n2g⟩ (fun hHeld5 => ?_)
    clear hK K hHeld4
    try simp only [Act.put, List.setIfInBounds_toArray, List.set_cons_zero, List.set_cons_succ]
    refine wpAnyH_ready (rs := [12]) (by kernel_rfl) (by simp) ?_
    refine AllReadyH.cons (o := _) rfl (fun K hK => ?_) AllReadyH.nil
    go_simp
    refine hK.out _ _ ⟨S_set (S_set HO.out.1 n1g) n1o, S_set (S_set HO.out.2 n2g) n2o⟩ (fun hHeld6 => ?_)
    clear hK K hHeld5
    try simp only [Act.put, List.setIfInBounds_toArray, List.set_cons_zero, List.set_cons_succ]
    refine wpAnyH_done (by kernel_rfl) ?_ _
    refine NoPanic.normal ?_
    go_end0
    exact ⟨rfl, T, c', HRW.out.1, HTS.out.1, HTS.out.2.1, HTS.out.2.2.1, Nat.le_trans HB6.out.size HTS.out.2.2.2.1, fun k hk h3 h4 => (HTS.out.2.2.2.2 k h3 h4).trans (HB6.out.block k hk), fun B h3 h4 hB => below_put (below_put (HB6.out.mono hB) h3 0 _) h4 0 _⟩
end Go.Proofs.YthbdaoapjnofkaaDoor.H
