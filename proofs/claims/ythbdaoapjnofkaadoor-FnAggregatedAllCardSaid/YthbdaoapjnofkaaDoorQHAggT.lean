/- What texts all begin with (impl.Aggregated): the contract by which the law takes it; at most 1000 texts of at most 1000000000 bytes. -/
import Derived.Test.YthbdaoapjnofkaaDoorQHAggr
import Derived.Deep.AppendLies
import Derived.Laws.OwnMore
namespace Go.Proofs.YthbdaoapjnofkaaDoor.H
open Go.RowKit Go.Proofs.YthbdaoapjnofkaaDoorW.PrintWords Go.Proofs.YthbdaoapjnofkaaDoorW.PrintLast Go.Proofs.YthbdaoapjnofkaaDoor.R
set_option linter.unusedVariables false
set_option linter.unusedSimpArgs false
attribute [local go_sem ↓] Go.wp_at_zero Go.wp_at_succ
def aggT : List ByteArray → ByteArray × Int
  | [] => (ByteArray.empty, 0)
  | s :: l => (runesBytes ((runesOf s).take (aggN ((s :: l).map runesOf))), (aggN ((s :: l).map runesOf) : Int))
def impl_Aggregated.f (l : List ByteArray) : Option (ByteArray × Int) := if l.length ≤ 1000 ∧ ∀ s ∈ l, s.size ≤ 1000000000 then some (aggT l) else none
theorem infoR : (Tryd.prog.info? 27).map (fun i => (i.zero, i.size, i.bytes)) = some (some (.slice none 0 0), 1, 24) := by kernel_rfl
theorem infoR_parts {t : TypeId} {z : Value} {n b : Nat} (h : (Tryd.prog.info? t).map (fun i => (i.zero, i.size, i.bytes)) = some (some z, n, b)) : ∃ i, Tryd.prog.info? t = some i ∧ i.zero = some z ∧ i.size = n ∧ i.bytes = b := by
  cases hi : Tryd.prog.info? t with
  | none => rw [hi] at h; cases h
  | some i =>
    rw [hi] at h
    simp only [Option.map_some, Option.some.injEq, Prod.mk.injEq] at h
    exact ⟨i, rfl, h.1, h.2.1, h.2.2⟩
theorem cell_one_at {w : World} {x : Value} {t : TypeId} {H : Nat} (h : w.heap.size = H) : ∀ j u, [x][j]? = some u → (w.alloc (.cells #[x] t)).cell? ((⟨H, 0, none⟩ : Addr).add j) = some u := h ▸ cell_one_new w x t
set_option maxRecDepth 100000 in
set_option maxHeartbeats 8000000 in
theorem impl_Aggregated.calls (A0 : Option Addr) (c0 : Nat) (l0 : List ByteArray) (r1 : ByteArray) (r2 : Int) (w : World) (hr0 : Kd.C Kd.string w A0 l0.length l0) (hc0 : l0.length ≤ c0) (h : impl_Aggregated.f l0 = some (r1, r2)) :
    Calls Tryd.prog 13 #[.slice A0 l0.length c0] w fun e w' => e = .returned (.tuple #[.string r1, .int .i64 r2]) ∧ Below w.heap.size w w' := by
  unfold impl_Aggregated.f at h
  by_cases hc : l0.length ≤ 1000 ∧ (∀ s ∈ l0, s.size ≤ 1000000000)
  · rw [if_pos hc] at h
    have h' := Option.some.inj h
    obtain ⟨hn, hs⟩ := hc
    obtain ⟨i0, hi, hz0, hz1, hz2⟩ := infoR_parts infoR
    have HI := Lib.hid (And.intro hi (And.intro hz0 (And.intro hz1 hz2)))
    have HC := Lib.hid (Kd.reads_of_C (d := ByteArray.empty) (h1 := fun _ => rfl) hr0)
    have HS := Lib.hid hs
    have HRR := Lib.hid h'
    clear h h' hr0 hs hi hz0 hz1 hz2
    have HS0 := Lib.hid (show AS w w none 0 (([] : List ByteArray).map runesOf) [] from ⟨World.ownsRow_nil _ _ _ _, fun j l hj => by simp at hj, Below.refl _ _⟩)
    go_enter Tryd.func13, Tryd.ntmps13
    rcases Nat.eq_zero_or_pos l0.length with hz | hpos
    · obtain rfl : l0 = [] := List.eq_nil_of_length_eq_zero hz
      go_wp2
      have := HRR.out
      rw [aggT, Prod.mk.injEq] at this
      obtain ⟨rfl, rfl⟩ := this
      refine bodyPost_ret (v := .tuple #[.string ByteArray.empty, .int .i64 0]) (by simp [results, Tryd.results13, go_sem]; rfl) rfl ?_
      exact ⟨rfl, Below.refl _ _⟩
    · have hnz : (((l0.length : Nat) : Int) == 0) = false := beq_eq_false_iff_ne.2 (by omega)
      go_wp2
      go_loopw [4, 13] (fun v4 v13 wr => ∃ (i : Nat) (T : Option Addr) (c : Nat) (L : List Value) (xs : List (List Int)), i ≤ l0.length ∧ v13 = .int .i64 i ∧ v4 = .slice T xs.length c ∧ xs = (l0.take i).map runesOf ∧ xs.length = i ∧ AS w wr T c xs L) (fun _ v13 _ => l0.length - (intOf v13).toNat)
      case atStart => exact ⟨0, none, 0, [], [], Nat.zero_le _, rfl, rfl, rfl, rfl, HS0.out⟩
      case round =>
        obtain ⟨i, T, c, L, xs, hi, rfl, rfl, hxs, hxl, hA⟩ := hrel
        have HX := Lib.hid (And.intro hxs hxl)
        by_cases hlt : i < l0.length
        · obtain ⟨_, _, hRd⟩ := HC.out
          obtain ⟨ad, rfl, hcell⟩ := hRd hpos
          have cx := pw_cell_below hA.below (hcell i hlt)
          have hxz : (l0.getD i ByteArray.empty).size ≤ 1000000000 := by
            rw [List.getD_eq_getElem?_getD, List.getElem?_eq_getElem hlt]; exact HS.out _ (List.getElem_mem hlt)
          have HT := Lib.hid (show (l0.take (i + 1)).map runesOf = xs ++ [runesOf (l0.getD i ByteArray.empty)] by
            rw [List.take_succ_eq_append_getElem hlt, List.map_append, ← hxs, List.getD_eq_getElem?_getD, List.getElem?_eq_getElem hlt]
            rfl)
          clear hcell hRd
          generalize l0.getD i ByteArray.empty = x at *
          have hcv := runes_run (P := Tryd.prog) wr 9 27 21 x Tryd.underlying9 Tryd.underlying27 Tryd.underlying21 (by omega)
          have hcap := grownCap_ge wr (runesOf x).length 0 21
          obtain ⟨cap, hcp⟩ : ∃ cap, grownCap wr (runesOf x).length 0 21 = cap := ⟨_, rfl⟩
          rw [hcp] at hcv hcap
          clear hcp
          have HA := Lib.hid hA
          have HCAP := Lib.hid hcap
          have hzw := hA.below.size
          have hxn : xs.length ≤ 1000 := by omega
          clear hxs hxl hcap
          generalize runesOf x = l at *
          have HO := Lib.hid (show World.ownsRow (((wr.alloc (.cells (runeCells l cap).toArray 21)).alloc (.cells #[.slice (some ⟨wr.heap.size, 0, none⟩) l.length cap] 27)).drew) w.heap.size 27 1 (.slice T xs.length c) xs.length L from (World.ownsRow.alloc (World.ownsRow.alloc hA.own _) _))
          have HN := Lib.hid (show ∀ j u, [Value.slice (some ⟨wr.heap.size, 0, none⟩) l.length cap][j]? = some u → World.cell? (((wr.alloc (.cells (runeCells l cap).toArray 21)).alloc (.cells #[.slice (some ⟨wr.heap.size, 0, none⟩) l.length cap] 27)).drew) ((⟨wr.heap.size + 1, 0, none⟩ : Addr).add j) = some u from cell_one_at (by simp))
          clear hA
          go_wp2_with (at_builtin; go_loud (refine wpList_append_lies _ rfl (.tmp 17) (.tmp 20) _ rfl w.heap.size 27 i0 (.slice none 0 0) 1 24 Tryd.underlying59 HI.out.1 HI.out.2.1 HI.out.2.2.1 HI.out.2.2.2 rfl (by omega) (.slice T xs.length c) xs.length L rfl HO.out ⟨wr.heap.size + 1, 0, none⟩ 1 1 [.slice (some ⟨wr.heap.size, 0, none⟩) l.length cap] rfl rfl HN.out (by simp [Value.oneCell']) (by omega) (by unfold maxLen; omega) (by omega) (by simp; omega) (wr.heap.size + 1 + 1) (by simp) ?_); intro g cap2 w4 ho4 hg4 hat4 hlt4; have HP := Lib.hid (HA.out.push HCAP.out hg4 ho4); clear ho4 hg4 hat4)
          go_roundw
          case rel => exact ⟨i + 1, some ⟨g, 0, none⟩, cap2, _, xs ++ [l], by omega, by go_num, by simp, HT.out.symm, by simp; exact HX.out.2, HP.out⟩
          case measure => simp only [intOf]; omega
        · have hil : i = l0.length := by omega
          have hxs2 : xs = l0.map runesOf := by rw [hxs, hil, List.take_length]
          obtain ⟨g, L', rfl, hRec, hLl, hcc, hBg, hro, hrr⟩ := hA.out (by omega)
          have hbnd : ∀ l ∈ xs, l.length ≤ 1000000000 := fun l hl => by
            rw [hxs2] at hl
            obtain ⟨s, hs, rfl⟩ := List.mem_map.1 hl
            exact Nat.le_trans (runesOf_length s) (HS.out s hs)
          have h0x : 0 < xs.length := by omega
          have HSC := Lib.hid (scan w.heap.size g c xs wr h0x (by omega) hcc L' hRec hLl hro hrr hbnd hA.below.size hBg)
          have HB := Lib.hid hA.below
          have HX2 := Lib.hid hxs2
          clear hxs hxs2 hxl hA hRec hLl hcc hro hrr hbnd hBg hil
          go_wp2_with fail
          refine HSC.out.mono ?_
          rintro e w2 ⟨n, hn, v, rfl, hv0, hv1, hb2⟩
          have hA := aggN_of hn h0x
          have hR : r1 = runesBytes (xs[0]'h0x |>.take n) ∧ r2 = n := by
            have h9 := HRR.out
            obtain ⟨s0, l1, rfl⟩ : ∃ s0 l1, l0 = s0 :: l1 := by cases l0 with
              | nil => simp at hpos
              | cons a b => exact ⟨a, b, rfl⟩
            rw [aggT, Prod.mk.injEq] at h9
            have e1 := HX2.out
            have e2 : xs[0]'h0x = runesOf s0 := by simp [e1]
            rw [e2, hA, e1]
            exact ⟨h9.1.symm, h9.2.symm⟩
          obtain ⟨hR1, hR2⟩ := hR
          have HBB := Lib.hid (HB.out.trans hb2)
          have HR1 := Lib.hid hR1
          subst hR2
          have hnl : n ≤ (xs[0]'h0x).length := by
            have := hn.1
            rwa [List.getD_eq_getElem?_getD, List.getElem?_eq_getElem h0x] at this
          clear hR1 hA hn hb2
          have hcv : ∃ v', v = v' ∧ (convert 27 9 v').run Tryd.prog w2 = .ok (.string r1) w2 := by
            rcases Nat.eq_zero_or_pos n with hz | hz
            · refine ⟨_, hv0 hz, ?_⟩
              rw [run_convert_runes_string w2 27 9 21 _ _ _ Tryd.underlying27 Tryd.underlying21 Tryd.underlying9, HR1.out, hz]
              rfl
            · obtain ⟨b, rfl, hb⟩ := hv1 hz
              refine ⟨_, rfl, ?_⟩
              rw [HR1.out]
              exact runes_str w2 27 9 21 b 0 n (List.take n _) n (by rw [List.length_take]; omega) Tryd.underlying27 Tryd.underlying21 Tryd.underlying9 (fun j hj => by
                rw [List.length_take] at hj
                rw [Nat.zero_add, hb j (by omega)]
                simp [List.getD, List.getElem?_take, show j < n by omega])
          obtain ⟨v', rfl, hcv⟩ := hcv
          clear hv0 hv1
          go_wp2
          refine bodyPost_ret (v := .tuple #[.string r1, .int .i64 n]) (by simp [results, Tryd.results13, go_sem]) rfl ?_
          exact ⟨rfl, HBB.out⟩
  · rw [if_neg hc] at h
    cases h
end Go.Proofs.YthbdaoapjnofkaaDoor.H
