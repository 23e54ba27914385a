/- What a completer's function tells (readline's GetDynamicNames): the walk; for at most 1000000 ASCII words of at most 100000 bytes each, one at least. -/
import Derived.Test.YthbdaoapjnofkaaDoorQHCmB
namespace Go.Proofs.YthbdaoapjnofkaaDoor.H
open Go.RowKit Go.Proofs.YthbdaoapjnofkaaDoorW.PrintWords Go.Proofs.YthbdaoapjnofkaaDoorW.PrintLast Go.Proofs.YthbdaoapjnofkaaDoor.R Go.Proofs.YthbdaoapjnofkaaDoor.X
set_option linter.unusedVariables false
set_option linter.unusedSimpArgs false
attribute [local go_sem ↓] Go.wp_at_zero Go.wp_at_succ
theorem infoW : (Tryd.prog.info? 27).map (fun i => (i.zero, i.size, i.bytes)) = some (some (.slice none 0 0), 1, 24) := by kernel_rfl
theorem infoI : (Tryd.prog.info? 21).map (fun i => (i.zero, i.size, i.bytes)) = some (some (.int .i32 0), 1, 4) := by kernel_rfl
theorem infoR0_parts {t : TypeId} {z : Value} {n b : Nat} (h : (Tryd.prog.info? t).map (fun i => (i.zero, i.size, i.bytes)) = some (some z, n, b)) : ∃ i, Tryd.prog.info? t = some i ∧ i.zero = some z ∧ i.size = n ∧ i.bytes = b := by
  cases hi : Tryd.prog.info? t with
  | none => rw [hi] at h; cases h
  | some i =>
    rw [hi] at h
    simp only [Option.map_some, Option.some.injEq, Prod.mk.injEq] at h
    exact ⟨i, rfl, h.1, h.2.1, h.2.2⟩
theorem CRow {w : World} {b cap : Nat} {l : List Int} (h : Rec w b (runeCells l cap) 21) (hl : l.length ≤ 1000000) : Kd.C (Kd.int .i32) w (some ⟨b, 0, none⟩) l.length l := by
  refine Kd.C_of_reads (enc := Value.int .i32) (d := (0 : Int)) ⟨rfl, by omega, fun _ => ⟨_, rfl, fun j hj => ?_⟩⟩
  have e : (⟨b, 0, none⟩ : Addr).add j = ⟨b, j, none⟩ := by
    cases j with
    | zero => rfl
    | succ j => simp [Addr.add]
  rw [e]
  exact h.cell j (runeCells_at l cap j hj)
theorem RowV.runes {w : World} {b cap : Nat} {l : List Int} (h : Rec w b (runeCells l cap) 21) (hl : l.length ≤ 1000000) (hc : l.length ≤ cap) : RowV w (.slice (some ⟨b, 0, none⟩) l.length cap) l :=
  ⟨_, _, rfl, hc, CRow h hl, fun _ => ⟨_, _, _, rfl, h⟩⟩
theorem runes_C (w : World) (A : Option Addr) (c : Nat) (l : List Int) (h : Kd.C (Kd.int .i32) w A l.length l) : (convert 27 9 (.slice A l.length c)).run Tryd.prog w = .ok (.string (runesBytes l)) w := by
  obtain ⟨_, _, h3⟩ := Kd.reads_of_C (enc := Value.int .i32) (d := (0 : Int)) (h1 := fun _ => rfl) h
  cases l with
  | nil =>
    cases A with
    | none => exact run_convert_runes_nil (P := Tryd.prog) w 27 9 21 0 c (by kernel_rfl) (by kernel_rfl) (by kernel_rfl)
    | some ad => exact run_convert_runes (P := Tryd.prog) w 27 9 21 ad 0 c [] (Nat.le_refl _) (by kernel_rfl) (by kernel_rfl) (by kernel_rfl) (fun j hj => absurd hj (by simp))
  | cons x l =>
    obtain ⟨ad, e, hc⟩ := h3 (by simp)
    subst e
    have := run_convert_runes (P := Tryd.prog) w 27 9 21 ad (x :: l).length c (x :: l) (Nat.le_refl _) (by kernel_rfl) (by kernel_rfl) (by kernel_rfl) hc
    rwa [List.take_length] at this
theorem closure55_calls (q : Nat) (v : Value) (s : ByteArray) (w : World) (h : One w q v 22) : Calls Tryd.prog 55 #[.string s, PtS q] w fun e w' => e = .returned v ∧ w' = w := by
  have h3 := h.cell
  clear h
  go_enter Tryd.func55, Tryd.ntmps55
  go_wp2
  go_ret
  exact ⟨rfl, rfl⟩
theorem NL.nm {w0 w : World} {T : Option Addr} {c : Nat} {xs : List (List Int)} {L : List Value} (h : NL w0 w T c xs L) (hn : 0 < xs.length) : ∃ hb C, T = some ⟨hb, 0, none⟩ ∧ NM w0 w hb C xs ∧ w0.heap.size ≤ hb := by
  obtain ⟨hl, h1 | ⟨g, cap, cur, e, hg, hh, hn, hm, hs, ht⟩⟩ := h.own
  · omega
  · injection e with e1 e2 e3
    subst e1 e3
    refine ⟨g, cur.toList, rfl, ⟨by unfold Rec; simpa using hh, fun j l hj => ?_⟩, hg⟩
    have hjl : j < xs.length := (List.getElem?_eq_some_iff.1 hj).1
    obtain ⟨v, hv, hr⟩ := h.row j l hj
    exact ⟨v, by rw [← hv, ← ht, List.getElem?_take_of_lt (by omega)], hr⟩
theorem NL.empty (w : World) : NL w (w.alloc (.cells #[] 27)) (some ⟨w.heap.size, 0, none⟩) 0 [] [] :=
  ⟨⟨rfl, .inr ⟨w.heap.size, 0, #[], rfl, Nat.le_refl _, Go.heap_alloc_new w _, Nat.le_refl _, by unfold maxLen; omega, rfl, rfl⟩⟩, fun _ _ h => by simp at h, (Below.refl _ _).alloc (Nat.le_refl _) _⟩
set_option maxRecDepth 100000 in
set_option maxHeartbeats 8000000 in
theorem GetDyn_calls (m : Nat) (nv kv : Value) (b : Bool) (q : Nat) (Q : Option Addr) (qc : Nat) (strs : List ByteArray) (Ao : Option Addr) (lo : List Int) (co : Nat) (w : World) (h : Rec w m [nv, .bool b, CBV q, kv] 109) (hq : One w q (.slice Q strs.length qc) 22) (hQ : Kd.C Kd.string w Q strs.length strs) (hqc : strs.length ≤ qc) (hpos : 0 < strs.length) (hlen : strs.length ≤ 1000000) (hstr : ∀ s ∈ strs, Asc s ∧ s.size ≤ 100000) (hro : Kd.C (Kd.int .i32) w Ao lo.length lo) (hco : lo.length ≤ co) :
    Calls Tryd.prog 157 #[PtS m, .slice Ao lo.length co] w fun e w' => ∃ hb c C, e = .returned (.slice (some ⟨hb, 0, none⟩) (strs.map nmOf).length c) ∧ NM w w' hb C (strs.map nmOf) ∧ w.heap.size ≤ hb ∧ Below w.heap.size w w' := by
  have HC := Lib.hid hQ
  have HS := Lib.hid hstr
  have HO := Lib.hid hro
  have HQ := Lib.hid hq
  have HM := Lib.hid h
  have HN0 := Lib.hid (NL.empty w)
  have hbA : Below w.heap.size w (w.alloc (.cells #[] 27)) := (Below.refl _ _).alloc (Nat.le_refl _) _
  have c2 := (h.stays hbA).cell 2 rfl
  have HQA := Lib.hid (hq.below hbA (lt_of_block hq))
  obtain ⟨st, hst⟩ : ∃ st, st = runesBytes lo := ⟨_, rfl⟩
  have hcv := runes_C (w.alloc (.cells #[] 27)).drew Ao co lo (Kd.C_drew (Kd.C_below hro hbA))
  rw [← hst] at hcv
  clear hst
  clear hQ hstr hro hq h hbA
  go_enter Tryd.func157, Tryd.ntmps157
  go_wp2_with fail
  refine wp_region_noPanic ?_
  refine wp_region_held_drew (S := fun w' => w'.cell? ⟨m, 2, none⟩ = some (CBV q) ∧ (convert 27 9 (.slice Ao lo.length co)).run Tryd.prog w' = .ok (.string st) w') (by kernel_rfl) ⟨c2, hcv⟩ (fun hHeld => ?_)
  refine wpAnyH_take (i := 0) (v := ?v0) (by simp only [List.getElem?_toArray, List.getElem?_cons_succ, List.getElem?_cons_zero]; rfl) (by kernel_rfl) (by kernel_rfl) (by kernel_rfl) (fun _ _ _ h => h) (Or.inl ⟨by rfl, ?h0⟩) (by assumption) ?_
  case h0 => (intro w hSw; (try obtain ⟨s0, s1⟩ := hSw); go_simp; try with_reducible rfl)
  try simp only [Act.put, List.setIfInBounds_toArray, List.set_cons_zero, List.set_cons_succ]
  refine wpAnyH_take (i := 1) (v := ?v1) (by simp only [List.getElem?_toArray, List.getElem?_cons_succ, List.getElem?_cons_zero]; rfl) (by kernel_rfl) (by kernel_rfl) (by kernel_rfl) (fun _ _ _ h => h) (Or.inl ⟨by rfl, ?h1⟩) (by assumption) ?_
  case h1 => (intro w hSw; (try obtain ⟨s0, s1⟩ := hSw); go_simp; try with_reducible rfl)
  try simp only [Act.put, List.setIfInBounds_toArray, List.set_cons_zero, List.set_cons_succ]
  refine wpAnyH_take (i := 2) (v := ?v2) (by simp only [List.getElem?_toArray, List.getElem?_cons_succ, List.getElem?_cons_zero]; rfl) (by kernel_rfl) (by kernel_rfl) (by kernel_rfl) (fun _ _ _ h => h) (Or.inl ⟨by rfl, ?h2⟩) (by assumption) ?_
  case h2 => (intro w hSw; (try obtain ⟨s0, s1⟩ := hSw); go_simp; try with_reducible rfl)
  try simp only [Act.put, List.setIfInBounds_toArray, List.set_cons_zero, List.set_cons_succ]
  refine wpAnyH_take (i := 3) (v := ?v3) (by simp only [List.getElem?_toArray, List.getElem?_cons_succ, List.getElem?_cons_zero]; rfl) (by kernel_rfl) (by kernel_rfl) (by kernel_rfl) (fun _ _ _ h => h) (Or.inl ⟨by rfl, ?h3⟩) (by assumption) ?_
  case h3 => (intro w hSw; (try obtain ⟨s0, s1⟩ := hSw); go_simp; try with_reducible rfl)
  try simp only [Act.put, List.setIfInBounds_toArray, List.set_cons_zero, List.set_cons_succ]
  refine wpAnyH_take (i := 4) (v := ?v4) (by simp only [List.getElem?_toArray, List.getElem?_cons_succ, List.getElem?_cons_zero]; rfl) (by kernel_rfl) (by kernel_rfl) (by kernel_rfl) (fun _ _ _ h => h) (Or.inl ⟨by rfl, ?h4⟩) (by assumption) ?_
  case h4 => (intro w hSw; (try obtain ⟨s0, s1⟩ := hSw); go_simp; try with_reducible rfl)
  try simp only [Act.put, List.setIfInBounds_toArray, List.set_cons_zero, List.set_cons_succ]
  refine wpAnyH_take (i := 5) (v := ?v5) (by simp only [List.getElem?_toArray, List.getElem?_cons_succ, List.getElem?_cons_zero]; rfl) (by kernel_rfl) (by kernel_rfl) (by kernel_rfl) (fun _ _ _ h => h) (Or.inl ⟨by rfl, ?h5⟩) (by assumption) ?_
  case h5 => (intro w hSw; (try obtain ⟨s0, s1⟩ := hSw); go_simp; try with_reducible rfl)
  try simp only [Act.put, List.setIfInBounds_toArray, List.set_cons_zero, List.set_cons_succ]
  refine wpAnyH_take (i := 8) (v := ?v8) (by simp only [List.getElem?_toArray, List.getElem?_cons_succ, List.getElem?_cons_zero]; rfl) (by kernel_rfl) (by kernel_rfl) (by kernel_rfl) (fun _ _ _ h => h) (Or.inl ⟨by rfl, ?h8⟩) (by assumption) ?_
  case h8 => (intro w hSw; (try obtain ⟨s0, s1⟩ := hSw); go_simp; try with_reducible rfl)
  try simp only [Act.put, List.setIfInBounds_toArray, List.set_cons_zero, List.set_cons_succ]
  refine wpAnyH_ready (rs := [6]) (by kernel_rfl) (by simp) ?_
  refine AllReadyH.cons (o := _) rfl (fun K hK => ?_) AllReadyH.nil
  go_simp
  refine (closure55_calls q (.slice Q strs.length qc) st (w.alloc (.cells #[] 27)).drew HQA.out).mono ?_
  rintro e w' ⟨rfl, rfl⟩
  refine hK.out _ _ ⟨c2, hcv⟩ (fun hHeld2 => ?_)
  clear hK K hHeld
  try simp only [Act.put, List.setIfInBounds_toArray, List.set_cons_zero, List.set_cons_succ]
  refine wpAnyH_take (i := 7) (v := ?v7) (by simp only [List.getElem?_toArray, List.getElem?_cons_succ, List.getElem?_cons_zero]; rfl) (by kernel_rfl) (by kernel_rfl) (by kernel_rfl) (fun _ _ _ h => h) (Or.inl ⟨by rfl, ?h7⟩) (by assumption) ?_
  case h7 => (intro w hSw; (try obtain ⟨s0, s1⟩ := hSw); go_simp; try with_reducible rfl)
  try simp only [Act.put, List.setIfInBounds_toArray, List.set_cons_zero, List.set_cons_succ]
  refine wpAnyH_done (by kernel_rfl) ?_ _
  refine NoPanic.normal ?_
  have HN1 := Lib.hid (HN0.out.stays (show Below (w.alloc (.cells #[] 27)).heap.size (w.alloc (.cells #[] 27)) (w.alloc (.cells #[] 27)).drew from (Below.refl _ _).drew))
  obtain ⟨w1, hw1⟩ : ∃ w1, w1 = (w.alloc (.cells #[] 27)).drew := ⟨_, rfl⟩
  rw [← hw1] at HN1 ⊢
  clear hw1 hHeld2 hcv c2 HN0
  obtain ⟨g0, hg0⟩ : ∃ g0, g0 = w.heap.size := ⟨_, rfl⟩
  have HG0 := Lib.hid hg0
  rw [← hg0] at HN1 ⊢
  clear hg0
  obtain ⟨i0, hi_, hz0_, hz1_, hz2_⟩ := infoR0_parts infoW
  have HI := Lib.hid (And.intro hi_ (And.intro hz0_ (And.intro hz1_ hz2_)))
  clear hi_ hz0_ hz1_ hz2_
  go_wp2_with fail
  go_loopw [5, 17] (fun v5 v17 wr => ∃ (xs : List (List Int)) (T : Option Addr) (c' : Nat) (L : List Value), xs.length ≤ strs.length ∧ v17 = .int .i64 xs.length ∧ v5 = .slice T xs.length c' ∧ xs = (strs.take xs.length).map nmOf ∧ NL w wr T c' xs L) (fun _ v17 _ => strs.length - (intOf v17).toNat)
  case atStart => exact ⟨[], some ⟨g0, 0, none⟩, 0, [], Nat.zero_le _, rfl, rfl, rfl, HN1.out⟩
  case round =>
    obtain ⟨xs, T, c', L, hi, rfl, rfl, hxs, hNL⟩ := hrel
    have HXS := Lib.hid hxs
    have HNL := Lib.hid hNL
    clear hxs hNL
    by_cases hlt : xs.length < strs.length
    · obtain ⟨ad, hA, q0⟩ := Kd.at_string (Kd.C_below HC.out HNL.out.below) (xs.length : Int) (by omega) (by omega)
      subst hA
      have hrd : rdOf ByteArray.empty strs (xs.length : Int) = strs[xs.length] := by unfold rdOf; rw [Int.toNat_natCast, List.getD_eq_getElem?_getD, List.getElem?_eq_getElem hlt]; rfl
      rw [hrd, Int.toNat_natCast] at q0
      have hst := HS.out strs[xs.length] (List.getElem_mem hlt)
      have hT2 := List.take_succ_eq_append_getElem hlt
      obtain ⟨s, hs⟩ : ∃ s, s = strs[xs.length] := ⟨_, rfl⟩
      rw [← hs] at q0 hst hT2
      have HT2 := Lib.hid hT2
      clear hs hrd hT2
      have hSz : (s ++ ⟨#[32]⟩ : ByteArray).size = s.size + 1 := by rw [ByteArray.size_append]; rfl
      have hro : runesOf (s ++ ⟨#[32]⟩) = nmOf s := by rw [runesOf_asc (asc_blank hst.1), ints_blank]
      have hcv := fun W : World => runes_run (P := Tryd.prog) W 9 27 21 (s ++ ⟨#[32]⟩) (by kernel_rfl) (by kernel_rfl) (by kernel_rfl) (by have := hst.2; omega)
      rw [hro] at hcv
      have hnl : (nmOf s).length ≤ 1000000 := by rw [nmOf_length]; have := hst.2; omega
      have hcap := fun W => grownCap_ge W (nmOf s).length 0 21
      clear hSz hro
      obtain ⟨nm, hnm⟩ : ∃ nm, nm = nmOf s := ⟨_, rfl⟩
      rw [← hnm] at hcv hnl hcap
      have HNM := Lib.hid hnm
      have hss := hst.2
      clear hnm hst
      obtain ⟨cap, hcp⟩ : ∃ cap, cap = grownCap wr nm.length 0 21 := ⟨_, rfl⟩
      have hcv2 := hcv wr
      have hcap2 := hcap wr
      rw [← hcp] at hcv2 hcap2
      clear hcv hcap hcp
      obtain ⟨R, hR⟩ : ∃ R, R = (runeCells nm cap).toArray := ⟨_, rfl⟩
      have HRW0 := Lib.hid (show Rec (wr.alloc (.cells R 21)) wr.heap.size (runeCells nm cap) 21 from hR ▸ Rec.new wr (runeCells nm cap) 21)
      rw [← hR] at hcv2
      clear hR
      have hb1 : Below wr.heap.size wr (wr.alloc (.cells R 21)) := (Below.refl _ _).alloc (Nat.le_refl _) _
      have hb2 : Below wr.heap.size wr ((wr.alloc (.cells R 21)).alloc (.cells #[.slice (some ⟨wr.heap.size, 0, none⟩) nm.length cap] 27)).drew := (hb1.alloc hb1.size _).drew
      have HLW := Lib.hid (HNL.out.stays hb2)
      have HRV := Lib.hid ((RowV.runes HRW0.out hnl hcap2).below (show Below (wr.alloc (.cells R 21)).heap.size _ ((wr.alloc (.cells R 21)).alloc (.cells #[.slice (some ⟨wr.heap.size, 0, none⟩) nm.length cap] 27)).drew from ((Below.refl _ _).alloc (Nat.le_refl _) _).drew))
      have HROW := Lib.hid (row_at (w := wr.alloc (.cells R 21)) (H := wr.heap.size + 1) (by simp) (.slice (some ⟨wr.heap.size, 0, none⟩) nm.length cap) 27)
      clear hb1 hb2
      go_wp2_with (at_builtin; go_loud (refine wpList_append_any _ rfl (.tmp 21) (.tmp 25) _ rfl w.heap.size 27 i0 (.slice none 0 0) 1 24 Tryd.underlying59 HI.out.1 HI.out.2.1 HI.out.2.2.1 HI.out.2.2.2 rfl (by omega) (.slice T xs.length c') xs.length L rfl HLW.out.own ⟨wr.heap.size + 1, 0, none⟩ 1 1 [.slice (some ⟨wr.heap.size, 0, none⟩) nm.length cap] (by simp [go_sem]) (by simp) HROW.out (by intro z hz; rw [List.mem_singleton] at hz; subst hz; rfl) (by unfold maxLen; omega) (by omega) HLW.out.below.size ?_; intro v4 w4 ho4 hg4 hat4; obtain ⟨T4, c4, rfl⟩ := slice_of ho4; have HX4 := Lib.hid (And.intro ho4 (And.intro hg4 hat4)); clear ho4 hg4 hat4))
      have HL4 := Lib.hid (NL.push HLW.out HRV.out HX4.out.2.1 HX4.out.1)
      go_wp2_with fail
      go_roundw
      case rel =>
        refine ⟨xs ++ [nm], T4, c4, L ++ [.slice (some ⟨wr.heap.size, 0, none⟩) nm.length cap], by simp; omega, by simp, by simp, ?_, HL4.out⟩
        have e1 : (xs ++ [nm]).length = xs.length + 1 := by simp
        rw [e1, HT2.out, List.map_append, ← HXS.out, List.map_cons, List.map_nil, ← HNM.out]
      case measure => simp only [intOf, List.length_append, List.length_cons, List.length_nil]; omega
    · have hxl : xs.length = strs.length := by omega
      have hx2 := HXS.out
      rw [hxl, List.take_length] at hx2
      obtain ⟨hb, C, rfl, hNM, hhb⟩ := HNL.out.nm (by omega)
      have HNMH := Lib.hid (And.intro hNM (And.intro hhb HNL.out.below))
      have HX2 := Lib.hid hx2
      clear hNM hhb hx2 hxl
      go_wp2_with fail
      go_ret
      rw [← HX2.out]
      exact ⟨hb, c', C, rfl, HNMH.out.1, HNMH.out.2.1, HNMH.out.2.2⟩
end Go.Proofs.YthbdaoapjnofkaaDoor.H
