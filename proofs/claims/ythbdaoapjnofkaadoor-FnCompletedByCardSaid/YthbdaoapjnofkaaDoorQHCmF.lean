/- What a completer of words tells (impl.Completed): the closure that asks it, and what comes out; for ASCII. -/
import Derived.Test.YthbdaoapjnofkaaDoorQHCmE
import Derived.Test.YthbdaoapjnofkaaDoorQHCaught
namespace Go.Proofs.YthbdaoapjnofkaaDoor.H
open Go.RowKit Go.Proofs.YthbdaoapjnofkaaDoorW.PrintWords Go.Proofs.YthbdaoapjnofkaaDoorW.PrintLast Go.Proofs.YthbdaoapjnofkaaDoor.R Go.Proofs.YthbdaoapjnofkaaDoor.X Go.Proofs.YthbdaoapjnofkaaDoor.PFnCompletedCursor
set_option linter.unusedVariables false
set_option linter.unusedSimpArgs false
attribute [local go_sem ↓] Go.wp_at_zero Go.wp_at_succ
theorem NewPC_calls (D : Nat) (kA : Option Addr) (kc : Nat) (kids : List Tr) (w : World) (hk : KidsIn (fun _ => True) D w kA kids) (hkc : kids.length ≤ kc) (hkl : kids.length ≤ 1000000) :
    Calls Tryd.prog 56 #[.slice kA kids.length kc] w fun e w' => ∃ m, e = .returned (PtS m) ∧ TrAt (D + 1) w' m (.node false [[32]] kids) ∧ Below w.heap.size w w' := by
  have H := Lib.hid (PcItem_tree (fun _ => True) D ⟨#[]⟩ kA kc kids w (by intro b hb; simp at hb) (by decide) hk hkc hkl (fun _ _ => trivial))
  clear hk
  go_enter Tryd.func56, Tryd.ntmps56
  go_wp2_with (go_at_call 51; refine H.out.mono ?_; rintro e w1 ⟨m, rfl, ht, hb⟩; have HT := Lib.hid (And.intro ht hb); clear ht hb)
  go_ret
  exact ⟨m, rfl, HT.out.1.at_, HT.out.2⟩
theorem Do_calls (d m : Nat) (t : Tr) (l : List Int) (A : Option Addr) (c n : Nat) (w : World) (ht : TrAt d w m t) (hr : Kd.C (Kd.int .i32) w A l.length l) (hc : l.length ≤ c) (hl : l.length ≤ 1000000000) (ha : ∀ x ∈ l, 0 ≤ x ∧ x < 128) (hn : n ≤ l.length) :
    Calls Tryd.prog 57 #[PtS m, .slice A l.length c, .int .i64 n] w (DoPost w (comp d t (l.take n))) := by
  have H := Lib.hid (doI_calls d m t l A c n A l c w ht hr hc hr hc hl ha hn)
  clear ht hr hc ha
  go_enter Tryd.func57, Tryd.ntmps57
  go_wp2_with (go_at_call 83; refine H.out.mono ?_; rintro e w1 ⟨T, c', rfl, h1, h2, h3⟩; have HR := Lib.hid (And.intro h1 (And.intro h2 h3)); clear h1 h2 h3)
  refine bodyPost_ret (results_tmp2 rfl _ _ _) rfl ?_
  exact ⟨T, c', rfl, HR.out.1, HR.out.2.1, HR.out.2.2⟩
theorem enter59 : ∀ args w, (callFunc 59 args).run Tryd.prog w = .ok (.enter 59 args) w := fun args w => enters_ Tryd.func59 (by kernel_rfl) rfl args w
theorem RW.move {w w1 : World} {T : Option Addr} {xs : List (List Int)} (h : RW w T xs) (hm : ∀ (k : Nat) (cs : Array Value) (fz : Nat × Nat) (t : TypeId), (t = 21 ∨ t = 27) → w.heap[k]? = some (Obj.cells cs t fz) → w1.heap[k]? = w.heap[k]?) : RW w1 T xs := fun j l hj => by
  obtain ⟨g, v, cs, fz, e, hh, hc, hv⟩ := h j l hj
  have hg := hm g cs fz 27 (.inr rfl) hh
  exact ⟨g, v, cs, fz, e, hg.trans hh, (cell_block (a := ⟨g, j, none⟩) hg).trans hc, hv.move fun k cs fz hk => hm k cs fz 21 (.inl rfl) hk⟩
theorem RW.set {w : World} {T : Option Addr} {xs : List (List Int)} (h : RW w T xs) {q : Nat} {u v : Value} {t : TypeId} (hq : One w q u t) (ht : t ≠ 21 ∧ t ≠ 27) : RW (w.setCell ⟨q, 0, none⟩ v) T xs := h.move fun k cs fz t' ht' hk => Below.heap_setCell w ⟨q, 0, none⟩ v k (by
  intro e
  have h2 : w.heap[q]? = some (Obj.cells #[u] t (0, 0)) := hq
  have e' : k = q := e
  rw [← e', hk] at h2
  injection h2 with h2; injection h2 with _ h2 _
  rcases ht' with h3 | h3
  · exact ht.1 (h2.symm.trans h3)
  · exact ht.2 (h2.symm.trans h3))
theorem S_set {w : World} {q a : Nat} {v x : Value} (h : w.cell? ⟨a, 0, none⟩ = some x) (n : a ≠ q) : (w.setCell ⟨q, 0, none⟩ v).cell? ⟨a, 0, none⟩ = some x := (cell_block (a := ⟨a, 0, none⟩) (Below.heap_setCell w ⟨q, 0, none⟩ v a n)).trans h
theorem two_sets {w6 : World} {a b : Nat} {x0 y0 x y : Value} {ta tb : TypeId} {T : Option Addr} {xs : List (List Int)} (ha : One w6 a x0 ta) (hb : One w6 b y0 tb) (hab : a ≠ b) (hta : ta ≠ 21 ∧ ta ≠ 27) (htb : tb ≠ 21 ∧ tb ≠ 27) (h : RW w6 T xs) :
    One ((w6.setCell ⟨a, 0, none⟩ x).setCell ⟨b, 0, none⟩ y) a x ta ∧ One ((w6.setCell ⟨a, 0, none⟩ x).setCell ⟨b, 0, none⟩ y) b y tb ∧ RW ((w6.setCell ⟨a, 0, none⟩ x).setCell ⟨b, 0, none⟩ y) T xs ∧ w6.heap.size ≤ ((w6.setCell ⟨a, 0, none⟩ x).setCell ⟨b, 0, none⟩ y).heap.size ∧ ∀ k, k ≠ a → k ≠ b → ((w6.setCell ⟨a, 0, none⟩ x).setCell ⟨b, 0, none⟩ y).heap[k]? = w6.heap[k]? := by
  have h1 : One (w6.setCell ⟨a, 0, none⟩ x) a x ta := one_setCell ha
  have h2 : One (w6.setCell ⟨a, 0, none⟩ x) b y0 tb := hb.other (a := ⟨a, 0, none⟩) (fun e => hab e.symm) x
  refine ⟨h1.other (a := ⟨b, 0, none⟩) hab y, one_setCell h2, (h.set ha hta).set h2 htb, by simp [World.setCell], fun k h3 h4 => ?_⟩
  rw [Below.heap_setCell _ ⟨b, 0, none⟩ _ k h4, Below.heap_setCell _ ⟨a, 0, none⟩ _ k h3]
set_option maxRecDepth 100000 in
set_option maxHeartbeats 16000000 in
theorem closure59_calls (D : Nat) (q0 q1 q2 q3 q4 : Nat) (kA : Option Addr) (kc n : Nat) (kids : List Tr) (s : ByteArray) (w : World) (h0 : One w q0 (.slice kA kids.length kc) 79) (h1 : One w q1 (.string s) 9) (h2 : One w q2 (.int .i64 n) 3) (h3 : One w q3 (.slice none 0 0) 59) (h4 : One w q4 (.int .i64 0) 3) (hd : q3 ≠ q4) (n30 : q0 ≠ q3) (n31 : q1 ≠ q3) (n32 : q2 ≠ q3) (n40 : q0 ≠ q4) (n41 : q1 ≠ q4) (n42 : q2 ≠ q4) (hk : KidsIn (fun _ => True) D w kA kids) (hkc : kids.length ≤ kc) (hkl : kids.length ≤ 1000000) (ha : Asc s) (hs : s.size ≤ 1000000) (hn : n ≤ s.size) :
    Calls Tryd.prog 59 #[PtS q0, PtS q1, PtS q2, PtS q3, PtS q4] w fun e w' => e = .returned (.tuple #[]) ∧ ∃ T c', (comp (D + 1) (.node false [[32]] kids) ((ints s).take n)).1.length ≤ c' ∧ One w' q3 (.slice T (comp (D + 1) (.node false [[32]] kids) ((ints s).take n)).1.length c') 59 ∧ One w' q4 (.int .i64 (comp (D + 1) (.node false [[32]] kids) ((ints s).take n)).2) 3 ∧ RW w' T (comp (D + 1) (.node false [[32]] kids) ((ints s).take n)).1 ∧ w.heap.size ≤ w'.heap.size ∧ (∀ k, k < w.heap.size → k ≠ q3 → k ≠ q4 → w'.heap[k]? = w.heap[k]?) ∧ ∀ B, B ≤ q3 → B ≤ q4 → B ≤ w.heap.size → Below B w w' := by
  have hcv := fun W : World => runes_run (P := Tryd.prog) W 9 27 21 s (by kernel_rfl) (by kernel_rfl) (by kernel_rfl) (by omega)
  rw [runesOf_asc ha] at hcv
  have hli := ints_length s
  rw [hli] at hcv
  obtain ⟨r, hr⟩ : ∃ r, r = comp (D + 1) (.node false [[32]] kids) ((ints s).take n) := ⟨_, rfl⟩
  have HRR := Lib.hid hr
  rw [← hr]
  clear hr
  have c0 := h0.cell
  have c1 := h1.cell
  have c2 := h2.cell
  have l0 : q0 < w.heap.size := lt_of_block h0
  have l1 : q1 < w.heap.size := lt_of_block h1
  have l2 : q2 < w.heap.size := lt_of_block h2
  have HH := Lib.hid (And.intro h3 (And.intro h4 (And.intro hk ha)))
  have HS := Lib.hid (show ∀ W, Below w.heap.size w W → W.cell? ⟨q0, 0, none⟩ = some (.slice kA kids.length kc) ∧ W.cell? ⟨q1, 0, none⟩ = some (.string s) ∧ W.cell? ⟨q2, 0, none⟩ = some (.int .i64 n) from fun W hW => ⟨(hW.cell (p := ⟨q0, 0, none⟩) l0).trans c0, (hW.cell (p := ⟨q1, 0, none⟩) l1).trans c1, (hW.cell (p := ⟨q2, 0, none⟩) l2).trans c2⟩)
  clear h0 h1 h2 h3 h4 hk ha
  go_enter Tryd.func59, Tryd.ntmps59
  go_wp2_with fail
  refine wp_region_noPanic ?_
  refine wp_region_held_drew (S := fun w' => w'.cell? ⟨q0, 0, none⟩ = some (.slice kA kids.length kc) ∧ w'.cell? ⟨q1, 0, none⟩ = some (.string s) ∧ w'.cell? ⟨q2, 0, none⟩ = some (.int .i64 n)) (by kernel_rfl) ⟨c0, c1, c2⟩ (fun hHeld => ?_)
  refine wpAnyH_take (i := 0) (v := ?v0) (by simp only [List.getElem?_toArray, List.getElem?_cons_succ, List.getElem?_cons_zero]; rfl) (by kernel_rfl) (by kernel_rfl) (by kernel_rfl) (fun _ _ _ h => h) (Or.inl ⟨by rfl, ?h0⟩) (by assumption) ?_
  case h0 => (intro w hSw; (try obtain ⟨s0, s1, s2⟩ := hSw); go_simp; try with_reducible rfl)
  try simp only [Act.put, List.setIfInBounds_toArray, List.set_cons_zero, List.set_cons_succ]
  refine wpAnyH_take (i := 2) (v := ?v2) (by simp only [List.getElem?_toArray, List.getElem?_cons_succ, List.getElem?_cons_zero]; rfl) (by kernel_rfl) (by kernel_rfl) (by kernel_rfl) (fun _ _ _ h => h) (Or.inl ⟨by rfl, ?h2⟩) (by assumption) ?_
  case h2 => (intro w hSw; (try obtain ⟨s0, s1, s2⟩ := hSw); go_simp; try with_reducible rfl)
  try simp only [Act.put, List.setIfInBounds_toArray, List.set_cons_zero, List.set_cons_succ]
  refine wpAnyH_take (i := 4) (v := ?v4) (by simp only [List.getElem?_toArray, List.getElem?_cons_succ, List.getElem?_cons_zero]; rfl) (by kernel_rfl) (by kernel_rfl) (by kernel_rfl) (fun _ _ _ h => h) (Or.inl ⟨by rfl, ?h4⟩) (by assumption) ?_
  case h4 => (intro w hSw; (try obtain ⟨s0, s1, s2⟩ := hSw); go_simp; try with_reducible rfl)
  try simp only [Act.put, List.setIfInBounds_toArray, List.set_cons_zero, List.set_cons_succ]
  refine wpAnyH_ready (rs := [1, 3]) (by kernel_rfl) (by simp) ?_
  refine AllReadyH.cons (o := _) rfl (fun K hK => ?_) (AllReadyH.cons (o := _) rfl (fun K hK => ?_) AllReadyH.nil)
  · go_simp
    refine (NewPC_calls D kA kc kids w.drew (HH.out.2.2.1.move fun k _ _ => ⟨rfl, trivial⟩) hkc hkl).mono ?_
    rintro e w1 ⟨m, rfl, htr, hb1⟩
    have HB1 := Lib.hid (show Below w.heap.size w w1 from ⟨hb1.os, hb1.tape, hb1.output, hb1.size, hb1.block⟩)
    have HTR := Lib.hid htr
    clear htr hb1
    refine hK.out _ _ (HS.out w1 HB1.out) (fun hHeld2 => ?_)
    clear hK K hHeld
    try simp only [Act.put, List.setIfInBounds_toArray, List.set_cons_zero, List.set_cons_succ]
    refine wpAnyH_ready (rs := [3]) (by kernel_rfl) (by simp) ?_
    refine AllReadyH.cons (o := _) rfl (fun K hK => ?_) AllReadyH.nil
    go_simp
    have hbB : Below w1.heap.size w1 ((w1.alloc (.cells (runeCells (ints s) (grownCap w1 s.size 0 21)).toArray 21)).drew) := ((Below.refl _ _).alloc (Nat.le_refl _) _).drew
    have HROW := Lib.hid (show Rec ((w1.alloc (.cells (runeCells (ints s) (grownCap w1 s.size 0 21)).toArray 21)).drew) w1.heap.size (runeCells (ints s) (grownCap w1 s.size 0 21)) 21 from (Rec.new w1 _ 21).drew)
    have HTB := Lib.hid (HTR.out.below hbB)
    have HBB := Lib.hid (HB1.out.trans (hbB.mono HB1.out.size))
    have hcap := grownCap_ge w1 s.size 0 21
    obtain ⟨cap, hcp⟩ : ∃ cap, cap = grownCap w1 s.size 0 21 := ⟨_, rfl⟩
    rw [← hcp] at HROW HTB HBB hcap ⊢
    clear hcp hbB HTR HB1
    refine hK.out _ _ (HS.out _ HBB.out) (fun hHeld3 => ?_)
    clear hK K hHeld2
    obtain ⟨wB, hwB⟩ : ∃ wB, wB = (w1.alloc (.cells (runeCells (ints s) cap).toArray 21)).drew := ⟨_, rfl⟩
    obtain ⟨rb, hrb⟩ : ∃ rb, rb = w1.heap.size := ⟨_, rfl⟩
    rw [← hwB, ← hrb] at HROW
    rw [← hwB] at HTB HBB hHeld3 ⊢
    rw [← hrb]
    clear hwB hrb
    try simp only [Act.put, List.setIfInBounds_toArray, List.set_cons_zero, List.set_cons_succ]
    refine wpAnyH_ready (rs := [5]) (by kernel_rfl) (by simp) ?_
    refine AllReadyH.cons (o := _) rfl (fun K hK => ?_) AllReadyH.nil
    go_simp
    have hdo := Do_calls (D + 1) m _ (ints s) (some ⟨rb, 0, none⟩) cap n wB HTB.out (CRow HROW.out (by omega)) (by omega) (by omega) (asc_ints HH.out.2.2.2) (by omega)
    rw [hli, ← HRR.out] at hdo
    refine hdo.mono ?_
    clear hdo
    rintro e w6 ⟨T, c', rfl, hle, hRW, hb6⟩
    have HB6 := Lib.hid (below_step HBB.out hb6)
    have HRW := Lib.hid (And.intro hle hRW)
    clear hle hRW hb6
    refine hK.out _ _ (HS.out w6 HB6.out) (fun hHeld4 => ?_)
    clear hK K hHeld3
    try simp only [Act.put, List.setIfInBounds_toArray, List.set_cons_zero, List.set_cons_succ]
    refine wpAnyH_take (i := 6) (v := ?v6) (by simp only [List.getElem?_toArray, List.getElem?_cons_succ, List.getElem?_cons_zero]; rfl) (by kernel_rfl) (by kernel_rfl) (by kernel_rfl) (fun _ _ _ h => h) (Or.inl ⟨by rfl, ?h6⟩) (by assumption) ?_
    case h6 => (intro w hSw; (try obtain ⟨s0, s1, s2⟩ := hSw); go_simp; try with_reducible rfl)
    try simp only [Act.put, List.setIfInBounds_toArray, List.set_cons_zero, List.set_cons_succ]
    refine wpAnyH_take (i := 7) (v := ?v7) (by simp only [List.getElem?_toArray, List.getElem?_cons_succ, List.getElem?_cons_zero]; rfl) (by kernel_rfl) (by kernel_rfl) (by kernel_rfl) (fun _ _ _ h => h) (Or.inl ⟨by rfl, ?h7⟩) (by assumption) ?_
    case h7 => (intro w hSw; (try obtain ⟨s0, s1, s2⟩ := hSw); go_simp; try with_reducible rfl)
    try simp only [Act.put, List.setIfInBounds_toArray, List.set_cons_zero, List.set_cons_succ]
    refine wpAnyH_take (i := 8) (v := ?v8) (by simp only [List.getElem?_toArray, List.getElem?_cons_succ, List.getElem?_cons_zero]; rfl) (by kernel_rfl) (by kernel_rfl) (by kernel_rfl) (fun _ _ _ h => h) (Or.inl ⟨by rfl, ?h8⟩) (by assumption) ?_
    case h8 => (intro w hSw; (try obtain ⟨s0, s1, s2⟩ := hSw); go_simp; try with_reducible rfl)
    try simp only [Act.put, List.setIfInBounds_toArray, List.set_cons_zero, List.set_cons_succ]
    have o3 := HH.out.1.below HB6.out (lt_of_block HH.out.1)
    have o4 := HH.out.2.1.below HB6.out (lt_of_block HH.out.2.1)
    have k3 := o3.cell
    have z3 := o3.free
    have k4 := o4.cell
    have z4 := o4.free
    have HTS := Lib.hid (two_sets (x := .slice T r.1.length c') (y := .int .i64 r.2) o3 o4 hd (by decide) (by decide) HRW.out.2)
    have k4' := (o4.other (a := ⟨q3, 0, none⟩) (fun e => hd e.symm) (.slice T r.1.length c')).cell
    have z4' := (o4.other (a := ⟨q3, 0, none⟩) (fun e => hd e.symm) (.slice T r.1.length c')).free
    have HO := Lib.hid (HS.out w6 HB6.out)
    clear o3 o4
    refine wpAnyH_ready (rs := [9]) (by kernel_rfl) (by simp) ?_
    refine AllReadyH.cons (o := _) rfl (fun K hK => ?_) AllReadyH.nil
    · go_simp
      refine hK.out _ _ ⟨S_set HO.out.1 n30, S_set HO.out.2.1 n31, S_set HO.out.2.2 n32⟩ (fun hHeld5 => ?_)
      clear hK K hHeld4
      try simp only [Act.put, List.setIfInBounds_toArray, List.set_cons_zero, List.set_cons_succ]
      refine wpAnyH_ready (rs := [10]) (by kernel_rfl) (by simp) ?_
      refine AllReadyH.cons (o := _) rfl (fun K hK => ?_) AllReadyH.nil
      go_simp
      refine hK.out _ _ ⟨S_set (S_set HO.out.1 n30) n40, S_set (S_set HO.out.2.1 n31) n41, S_set (S_set HO.out.2.2 n32) n42⟩ (fun hHeld6 => ?_)
      clear hK K hHeld5
      try simp only [Act.put, List.setIfInBounds_toArray, List.set_cons_zero, List.set_cons_succ]
      refine wpAnyH_done (by kernel_rfl) ?_ _
      refine NoPanic.normal ?_
      go_end0
      exact ⟨rfl, T, c', HRW.out.1, HTS.out.1, HTS.out.2.1, HTS.out.2.2.1, Nat.le_trans HB6.out.size HTS.out.2.2.2.1, fun k hk h3 h4 => (HTS.out.2.2.2.2 k h3 h4).trans (HB6.out.block k hk), fun B h3 h4 hB => below_put (below_put (HB6.out.mono hB) h3 0 _) h4 0 _⟩
  · go_simp
    have hbB : Below w.heap.size w (w.drew.drew.alloc (.cells (runeCells (ints s) (grownCap w.drew s.size 0 21)).toArray 21)) := ((Below.refl _ _).drew.drew).alloc (Nat.le_refl _) _
    have HROW1 := Lib.hid (show Rec (w.drew.drew.alloc (.cells (runeCells (ints s) (grownCap w.drew s.size 0 21)).toArray 21)) w.heap.size (runeCells (ints s) (grownCap w.drew s.size 0 21)) 21 from Rec.new w.drew.drew _ 21)
    have HB1 := Lib.hid hbB
    have hcap := grownCap_ge w.drew s.size 0 21
    obtain ⟨cap, hcp⟩ : ∃ cap, cap = grownCap w.drew s.size 0 21 := ⟨_, rfl⟩
    try rw [← hcp] at HROW1 HB1 hcap ⊢
    clear hbB hcp
    refine hK.out _ _ (HS.out _ HB1.out) (fun hHeld2 => ?_)
    clear hK K hHeld
    try simp only [Act.put, List.setIfInBounds_toArray, List.set_cons_zero, List.set_cons_succ]
    refine wpAnyH_ready (rs := [1]) (by kernel_rfl) (by simp) ?_
    refine AllReadyH.cons (o := _) rfl (fun K hK => ?_) AllReadyH.nil
    go_simp
    refine (NewPC_calls D kA kc kids _ (HH.out.2.2.1.move fun k hk _ => ⟨HB1.out.block k hk, trivial⟩) hkc hkl).mono ?_
    rintro e wB ⟨m, rfl, htr, hb1⟩
    have HTB := Lib.hid htr
    have HROW := Lib.hid (HROW1.out.stays hb1)
    have HBB := Lib.hid (HB1.out.trans (hb1.mono HB1.out.size))
    clear htr hb1
    refine hK.out _ _ (HS.out wB HBB.out) (fun hHeld3 => ?_)
    clear hK K hHeld2
    clear HB1 HROW1
    try simp only [Act.put, List.setIfInBounds_toArray, List.set_cons_zero, List.set_cons_succ]
    refine wpAnyH_ready (rs := [5]) (by kernel_rfl) (by simp) ?_
    refine AllReadyH.cons (o := _) rfl (fun K hK => ?_) AllReadyH.nil
    go_simp
    have hdo := Do_calls (D + 1) m _ (ints s) (some ⟨w.heap.size, 0, none⟩) cap n wB HTB.out (CRow HROW.out (by omega)) (by omega) (by omega) (asc_ints HH.out.2.2.2) (by omega)
    rw [hli, ← HRR.out] at hdo
    refine hdo.mono ?_
    clear hdo
    rintro e w6 ⟨T, c', rfl, hle, hRW, hb6⟩
    have HB6 := Lib.hid (below_step HBB.out hb6)
    have HRW := Lib.hid (And.intro hle hRW)
    clear hle hRW hb6
    refine hK.out _ _ (HS.out w6 HB6.out) (fun hHeld4 => ?_)
    clear hK K hHeld3
    try simp only [Act.put, List.setIfInBounds_toArray, List.set_cons_zero, List.set_cons_succ]
    refine wpAnyH_take (i := 6) (v := ?vb6) (by simp only [List.getElem?_toArray, List.getElem?_cons_succ, List.getElem?_cons_zero]; rfl) (by kernel_rfl) (by kernel_rfl) (by kernel_rfl) (fun _ _ _ h => h) (Or.inl ⟨by rfl, ?hb6⟩) (by assumption) ?_
    case hb6 => (intro w hSw; (try obtain ⟨s0, s1, s2⟩ := hSw); go_simp; try with_reducible rfl)
    try simp only [Act.put, List.setIfInBounds_toArray, List.set_cons_zero, List.set_cons_succ]
    refine wpAnyH_take (i := 7) (v := ?vb7) (by simp only [List.getElem?_toArray, List.getElem?_cons_succ, List.getElem?_cons_zero]; rfl) (by kernel_rfl) (by kernel_rfl) (by kernel_rfl) (fun _ _ _ h => h) (Or.inl ⟨by rfl, ?hb7⟩) (by assumption) ?_
    case hb7 => (intro w hSw; (try obtain ⟨s0, s1, s2⟩ := hSw); go_simp; try with_reducible rfl)
    try simp only [Act.put, List.setIfInBounds_toArray, List.set_cons_zero, List.set_cons_succ]
    refine wpAnyH_take (i := 8) (v := ?vb8) (by simp only [List.getElem?_toArray, List.getElem?_cons_succ, List.getElem?_cons_zero]; rfl) (by kernel_rfl) (by kernel_rfl) (by kernel_rfl) (fun _ _ _ h => h) (Or.inl ⟨by rfl, ?hb8⟩) (by assumption) ?_
    case hb8 => (intro w hSw; (try obtain ⟨s0, s1, s2⟩ := hSw); go_simp; try with_reducible rfl)
    try simp only [Act.put, List.setIfInBounds_toArray, List.set_cons_zero, List.set_cons_succ]
    have o3 := HH.out.1.below HB6.out (lt_of_block HH.out.1)
    have o4 := HH.out.2.1.below HB6.out (lt_of_block HH.out.2.1)
    have k3 := o3.cell
    have z3 := o3.free
    have k4 := o4.cell
    have z4 := o4.free
    have HTS := Lib.hid (two_sets (x := .slice T r.1.length c') (y := .int .i64 r.2) o3 o4 hd (by decide) (by decide) HRW.out.2)
    have k4' := (o4.other (a := ⟨q3, 0, none⟩) (fun e => hd e.symm) (.slice T r.1.length c')).cell
    have z4' := (o4.other (a := ⟨q3, 0, none⟩) (fun e => hd e.symm) (.slice T r.1.length c')).free
    have HO := Lib.hid (HS.out w6 HB6.out)
    clear o3 o4
    refine wpAnyH_ready (rs := [9]) (by kernel_rfl) (by simp) ?_
    refine AllReadyH.cons (o := _) rfl (fun K hK => ?_) AllReadyH.nil
    · go_simp
      refine hK.out _ _ ⟨S_set HO.out.1 n30, S_set HO.out.2.1 n31, S_set HO.out.2.2 n32⟩ (fun hHeld5 => ?_)
      clear hK K hHeld4
      try simp only [Act.put, List.setIfInBounds_toArray, List.set_cons_zero, List.set_cons_succ]
      refine wpAnyH_ready (rs := [10]) (by kernel_rfl) (by simp) ?_
      refine AllReadyH.cons (o := _) rfl (fun K hK => ?_) AllReadyH.nil
      go_simp
      refine hK.out _ _ ⟨S_set (S_set HO.out.1 n30) n40, S_set (S_set HO.out.2.1 n31) n41, S_set (S_set HO.out.2.2 n32) n42⟩ (fun hHeld6 => ?_)
      clear hK K hHeld5
      try simp only [Act.put, List.setIfInBounds_toArray, List.set_cons_zero, List.set_cons_succ]
      refine wpAnyH_done (by kernel_rfl) ?_ _
      refine NoPanic.normal ?_
      go_end0
      exact ⟨rfl, T, c', HRW.out.1, HTS.out.1, HTS.out.2.1, HTS.out.2.2.1, Nat.le_trans HB6.out.size HTS.out.2.2.2.1, fun k hk h3 h4 => (HTS.out.2.2.2.2 k h3 h4).trans (HB6.out.block k hk), fun B h3 h4 hB => below_put (below_put (HB6.out.mono hB) h3 0 _) h4 0 _⟩
end Go.Proofs.YthbdaoapjnofkaaDoor.H
