/- What texts all begin with (Runes.Aggregate): the contract of the scan; no condition but bounds. -/
import Derived.Test.YthbdaoapjnofkaaDoorQHAggS
import Derived.BigRegion
import Derived.Deep.RegionLaw
import Derived.ScopeJumps
import Derived.WalkMore
namespace Go.Proofs.YthbdaoapjnofkaaDoor.H
open Go.RowKit Go.Proofs.YthbdaoapjnofkaaDoorW.PrintWords Go.Proofs.YthbdaoapjnofkaaDoorW.PrintLast Go.Proofs.YthbdaoapjnofkaaDoor.R
set_option linter.unusedVariables false
set_option linter.unusedSimpArgs false
attribute [local go_sem ↓] Go.wp_at_zero Go.wp_at_succ
/-- Within the loop that stores the rows anew. -/
def Lp (B g : Nat) (L : List Value) (w2 wr : World) (i : Nat) : Prop := (∃ L', Rec wr g L' 27 ∧ ∀ j, i ≤ j → L'[j]? = L[j]?) ∧ (∀ k, k < w2.heap.size → k ≠ g → wr.heap[k]? = w2.heap[k]?) ∧ Below B w2 wr
theorem Lp.step {B g : Nat} {L L' : List Value} {w2 wr w5 w6 : World} {i : Nat} {v : Value} (hgr : Rec wr g L' 27) (hLr : ∀ j, i ≤ j → L'[j]? = L[j]?) (hfr : ∀ k, k < w2.heap.size → k ≠ g → wr.heap[k]? = w2.heap[k]?) (hbr : Below B w2 wr)
    (h5 : Below wr.heap.size wr.drew w5) (h6 : Below wr.heap.size w5 w6) (hg6 : Rec w6 g L' 27) (hB : B ≤ g) : Lp B g L w2 (w6.setCell ⟨g, i, none⟩ v) (i + 1) := by
  have hg := hgr.lt
  have hs := hbr.size
  refine ⟨⟨L'.set i v, hg6.set i v, fun j hj => by rw [List.getElem?_set_ne (by omega)]; exact hLr j (by omega)⟩, fun k hk hkg => ?_, ?_⟩
  · refine (Below.heap_setCell w6 ⟨g, i, none⟩ v k hkg).trans ((h6.block k (by omega)).trans ((h5.block k (by omega)).trans (hfr k hk hkg)))
  · exact (((below_drew hbr).trans (h5.mono (by omega))).trans (h6.mono (by omega))).setCell hB v
def Jumped (g m c b n : Nat) (a : Act) : Prop := ∃ v6 v7 v10 v11 v12 v13 v14 v15 v16 v17 v18 v19 v20 v21 v22 v23 v24 v25 v26 v27 v28 v29 v30 v31 v32 v33 v34 v35 v36 v37 v38 v39 v40 v41 v42 v43 v44 v45 v46 v47 v48 v49 v50 v51 v52 v53 v54 v55 v56 v57 v58 v59 : Value, a = { tmps := #[.agg #[], .slice (some ⟨g, 0, none⟩) m c, .pointer (some ⟨b, 0, none⟩), undef, .slice none 0 0, .int .i64 n, v6, v7, undef, undef, v10, v11, v12, v13, v14, v15, v16, v17, v18, v19, v20, v21, v22, v23, v24, v25, v26, v27, v28, v29, v30, v31, v32, v33, v34, v35, v36, v37, v38, v39, v40, v41, v42, v43, v44, v45, v46, v47, v48, v49, v50, v51, v52, v53, v54, v55, v56, v57, v58, v59, undef, undef, undef, undef, undef, undef, undef, undef, undef, undef, undef, undef, undef, undef, undef, undef, undef, undef, undef, undef, undef, undef, undef, undef, undef, undef, undef, undef, undef, undef, undef, undef, undef, undef, undef], defers := [] }
set_option maxRecDepth 100000 in
set_option maxHeartbeats 8000000 in
theorem scan (B g c : Nat) (xs : List (List Int)) (w : World) (h0 : 0 < xs.length) (hl : xs.length ≤ 1000) (hc : xs.length ≤ c) (L : List Value) (hg : Rec w g L 27) (hLl : xs.length ≤ L.length) (hRO : RO w g L xs) (h : RR w g xs) (hx : ∀ l ∈ xs, l.length ≤ 1000000000) (hBw : B ≤ w.heap.size) (hBg : B ≤ g) :
    Calls Tryd.prog 39 #[.agg #[], .slice (some ⟨g, 0, none⟩) xs.length c] w fun e w' => ∃ n, IsAgg xs n ∧ ∃ v, e = .returned (.tuple #[v, .int .i64 n]) ∧ (n = 0 → v = .slice none 0 0) ∧ (0 < n → ∃ b, v = .slice (some ⟨b, 0, none⟩) n n ∧ ∀ j, j < n → w'.cell? ⟨b, j, none⟩ = some (.int .i32 (xs[0].getD j 0))) ∧ Below B w w' := by
  have hx0 : xs[0].length ≤ 1000000000 := hx _ (List.getElem_mem h0)
  have HXL := Lib.hid hx
  clear hx
  obtain ⟨b0, c0, r0, rc0, rd0⟩ := h 0 xs[0] (List.getElem?_eq_getElem h0)
  have e0 : xs.getD 0 [] = xs[0] := by simp [List.getD, List.getElem?_eq_getElem h0]
  have HR := Lib.hid h
  have HG := Lib.hid (And.intro hg hRO)
  have HBG := Lib.hid hBg
  clear hg hRO hBg
  have hlt0 := block_lt r0
  have HRD := Lib.hid rd0
  clear h rd0
  go_enter Tryd.func39, Tryd.ntmps39
  go_wp2
  refine wp_scope_jumps 0 (fun a w' => (∃ nq, w' = (w.alloc (.cells #[] 62)).drewN nq) ∧ ∃ n, IsAgg xs n ∧ Jumped g xs.length c w.heap.size n a) (fun _ _ => 0) (by rfl) ?first ?pass
  case first =>
    go_wp2
    go_loopw [5, 6] (fun v5 v6 wr => ∃ i : Nat, i ≤ xs[0].length ∧ v5 = .int .i64 i ∧ v6 = .int .i64 i ∧ (∃ nq, wr = (w.alloc (.cells #[] 62)).drewN nq) ∧ ∀ i', i' < i → ∀ j, j + 1 < xs.length → pairOk xs i' j) (fun _ v6 _ => xs[0].length - (intOf v6).toNat)
    case atStart => exact ⟨0, Nat.zero_le _, rfl, rfl, ⟨0, rfl⟩, fun i' h => absurd h (by omega)⟩
    case round =>
      obtain ⟨i, hi, rfl, rfl, ⟨nq, rfl⟩, hp⟩ := hrel
      have HP := Lib.hid hp
      clear hp
      have rr0 := pw_cell_below ((Below.refl w.heap.size w).alloc (Nat.le_refl _) (.cells #[] 62)) r0
      by_cases hlt : i < xs[0].length
      · go_wp2
        go_loopw [7] (fun v7 wr => ∃ j : Nat, j + 1 ≤ xs.length ∧ v7 = .int .i64 j ∧ (∃ nq, wr = (w.alloc (.cells #[] 62)).drewN nq) ∧ ∀ j', j' < j → pairOk xs i j') (fun v7 _ => xs.length - (intOf v7).toNat)
        case atStart => exact ⟨0, by omega, rfl, ⟨_, rfl⟩, fun j' h => absurd h (by omega)⟩
        case round =>
          obtain ⟨j, hj, rfl, ⟨nr, rfl⟩, hq⟩ := hrel
          have HQ := Lib.hid hq
          clear hq
          by_cases hjt : j + 1 < xs.length
          · obtain ⟨bj, cj, rj, rcj, rdj⟩ := HR.out j xs[j] (List.getElem?_eq_getElem (by omega))
            obtain ⟨bk, ck, rk, rck, rdk⟩ := HR.out (j + 1) xs[j + 1] (List.getElem?_eq_getElem hjt)
            have rj1 := pw_cell_below ((Below.refl w.heap.size w).alloc (Nat.le_refl _) (.cells #[] 62)) rj
            have rk1 := pw_cell_below ((Below.refl w.heap.size w).alloc (Nat.le_refl _) (.cells #[] 62)) rk
            have ej : xs.getD j [] = xs[j] := by simp [List.getD, List.getElem?_eq_getElem (show j < xs.length by omega)]
            have ek : xs.getD (j + 1) [] = xs[j + 1] := by simp [List.getD, List.getElem?_eq_getElem hjt]
            have HE := Lib.hid (And.intro ej ek)
            have HD := Lib.hid (And.intro rdj rdk)
            clear ej ek rdj rdk rj rk
            generalize xs[j] = lj at *
            generalize xs[j + 1] = lk at *
            by_cases ha : lj.length ≤ i
            · go_wp2
              go_step3
              exact ⟨rfl, by first | exact ⟨_, rfl⟩ | exact ⟨_, World.drewN_drewN _ _ _⟩, i, ⟨by rw [e0]; omega, HP.out, fun _ => ⟨j, hjt, by unfold pairOk; rw [HE.out.1, HE.out.2]; omega⟩⟩, _, _, _, _, _, _, _, _, _, _, _, _, _, _, _, _, _, _, _, _, _, _, _, _, _, _, _, _, _, _, _, _, _, _, _, _, _, _, _, _, _, _, _, _, _, _, _, _, _, _, _, _, rfl⟩
            by_cases hb : lk.length ≤ i
            · go_wp2
              go_step3
              exact ⟨rfl, by first | exact ⟨_, rfl⟩ | exact ⟨_, World.drewN_drewN _ _ _⟩, i, ⟨by rw [e0]; omega, HP.out, fun _ => ⟨j, hjt, by unfold pairOk; rw [HE.out.1, HE.out.2]; omega⟩⟩, _, _, _, _, _, _, _, _, _, _, _, _, _, _, _, _, _, _, _, _, _, _, _, _, _, _, _, _, _, _, _, _, _, _, _, _, _, _, _, _, _, _, _, _, _, _, _, _, _, _, _, _, rfl⟩
            have sj := pw_cell_below ((Below.refl w.heap.size w).alloc (Nat.le_refl _) (.cells #[] 62)) (HD.out.1 i (by omega))
            have sk := pw_cell_below ((Below.refl w.heap.size w).alloc (Nat.le_refl _) (.cells #[] 62)) (HD.out.2 i (by omega))
            obtain ⟨x, hx⟩ : ∃ x, lj.getD i 0 = x := ⟨_, rfl⟩
            obtain ⟨y, hy⟩ : ∃ y, lk.getD i 0 = y := ⟨_, rfl⟩
            rw [hx] at sj
            rw [hy] at sk
            have HX := Lib.hid (And.intro hx hy)
            clear hx hy
            by_cases hne : x = y
            · have hnb : (x != y) = false := bne_eq_false_iff_eq.2 hne
              have hnb2 : (x == y) = true := beq_iff_eq.2 hne
              go_wp2
              go_quiet (fail)
              go_wp2
              go_roundw
              case rel => exact ⟨j + 1, by omega, by go_num, by first | exact ⟨_, rfl⟩ | exact ⟨_, World.drewN_drewN _ _ _⟩, fun j' h => by
                rcases Nat.lt_or_ge j' j with h1 | h1
                · exact HQ.out j' h1
                · obtain rfl : j' = j := by omega
                  unfold pairOk
                  rw [HE.out.1, HE.out.2]
                  exact ⟨by omega, by omega, by rw [HX.out.1, HX.out.2]; exact hne⟩⟩
              case measure => simp only [intOf]; omega
            · have hnb : (x != y) = true := bne_iff_ne.2 hne
              have hnb2 : (x == y) = false := beq_eq_false_iff_ne.2 hne
              go_wp2
              go_quiet (fail)
              go_wp2
              go_step3
              exact ⟨rfl, by first | exact ⟨_, rfl⟩ | exact ⟨_, World.drewN_drewN _ _ _⟩, i, ⟨by rw [e0]; omega, HP.out, fun _ => ⟨j, hjt, by unfold pairOk; rw [HE.out.1, HE.out.2]; intro hh; exact hne (by rw [← HX.out.1, ← HX.out.2]; exact hh.2.2)⟩⟩, _, _, _, _, _, _, _, _, _, _, _, _, _, _, _, _, _, _, _, _, _, _, _, _, _, _, _, _, _, _, _, _, _, _, _, _, _, _, _, _, _, _, _, _, _, _, _, _, _, _, _, _, rfl⟩
          · go_wp2
            go_roundw
            case rel => exact ⟨i + 1, by omega, by first | rfl | go_num, by first | rfl | go_num, ⟨_, rfl⟩, fun i' h j' hj' => by
              rcases Nat.lt_or_ge i' i with h1 | h1
              · exact HP.out i' h1 j' hj'
              · obtain rfl : i' = i := by omega
                exact HQ.out j' (by omega)⟩
            case measure => simp only [intOf]; omega
      · go_wp2
        have HA : IsAgg xs i := ⟨by rw [e0]; omega, HP.out, fun hh => absurd hh (by rw [e0]; omega)⟩
        go_step3
        rename_i hK9
        refine hK9 _ _ ?_
        have hi9 := hi
        clear hlt hi HP
        obtain ⟨n, hn9⟩ : ∃ n, n = i := ⟨i, rfl⟩
        rw [← hn9] at HA
        have hi0 : n ≤ xs[0].length := by rw [hn9]; exact hi9
        rw [← hn9]
        clear hn9
        have hn0 : n ≤ xs[0].length := hi0
        by_cases hz : n = 0
        · subst hz
          go_wp2
          show Exit.noGoto _ Exit.ret _ _
          rw [Exit.noGoto_ret]
          refine bodyPost_ret (v := .tuple #[.slice none 0 0, .int .i64 0]) (by simp [results, Tryd.results39, go_sem]) rfl ?_
          exact ⟨0, HA, .slice none 0 0, rfl, fun _ => rfl, fun h => absurd h (by omega), pw_below_drewN (((Below.refl w.heap.size w).alloc (Nat.le_refl _) _).mono hBw) _⟩
        · have hzp : decide ((0 : Int) < (n : Int)) = true := decide_eq_true (by omega)
          have i0 : (0 : Int) ≤ (n : Int) := by omega
          have i1 : (n : Int) ≤ (c0 : Int) := by omega
          go_wp2
          have hx := rr0
          go_region_held3 (fun w' => w'.cell? ⟨g, 0, none⟩ = some (.slice (some ⟨b0, 0, none⟩) xs[0].length c0)) (first | go_keep | (exact hx)) (first | (go_at_call 69; refine (Copy_calls b0 c0 n (xs[0].take n) _ (by rw [List.length_take]; omega) (fun j hj => by rw [List.length_take] at hj; have := pw_cell_below ((Below.refl w.heap.size w).alloc (Nat.le_refl _) (.cells #[] 62)) (HRD.out j (by omega)); rw [show (xs[0].take n).getD j 0 = xs[0].getD j 0 by simp [List.getD, List.getElem?_take, show j < n by omega]]; exact this) (by rw [List.length_take]; omega)).mono ?_; rintro e w2 ⟨rfl, hr2, hb2⟩; have hx := pw_cell_below hb2 (show World.cell? ((w.alloc (.cells #[] 62)).drewN (nq + 1)) ⟨g, 0, none⟩ = some (.slice (some ⟨b0, 0, none⟩) xs[0].length c0) from rr0)))
          have hg2 : Rec w2 g L 27 := (Rec.stays ((HG.out.1.alloc (.cells #[] 62)).drewN (nq + 1)) hb2)
          have HB2 := Lib.hid (And.intro hg2 (And.intro hr2 hb2))
          clear hg2 hr2 hb2
          go_wp2
          go_loopw [8] (fun v8 wr => ∃ i : Nat, i ≤ xs.length ∧ v8 = .int .i64 i ∧ Lp B g L w2 wr i) (fun v8 _ => xs.length - (intOf v8).toNat)
          case atStart => exact ⟨0, Nat.zero_le _, rfl, ⟨L, HB2.out.1, fun _ _ => rfl⟩, fun _ _ _ => rfl, Below.refl _ _⟩
          case round =>
            obtain ⟨i, hi, rfl, ⟨L', hgr, hLr⟩, hfr, hbr⟩ := hrel
            by_cases hlt : i < xs.length
            · obtain ⟨bi, ci, hLi, hci, hbg, hri⟩ := HG.out.2 i xs[i] (List.getElem?_eq_getElem hlt)
              have hgi := hgr.cell i ((hLr i (Nat.le_refl _)).trans hLi)
              have hnl : n ≤ xs[i].length := (agg_com HA h0 xs[i] (List.getElem_mem hlt) xs[i] (List.getElem_mem hlt)).1
              have hxl := HXL.out xs[i] (List.getElem_mem hlt)
              have hrw : ∀ j, j < xs[i].length → wr.cell? ⟨bi, j, none⟩ = some (.int .i32 (xs[i].getD j 0)) := fun j hj => by
                have h2 := pw_cell_below HB2.out.2.2 (show World.cell? ((w.alloc (.cells #[] 62)).drewN (nq + 1)) _ = _ from pw_cell_below ((Below.refl w.heap.size w).alloc (Nat.le_refl _) (.cells #[] 62)) (hri j hj))
                have h3 := hfr bi (block_lt h2) hbg
                rw [← h2]
                unfold World.cell?
                simp only [h3]
              have hgrl := hgr.lt
              have HF := Lib.hid (And.intro hgr (And.intro hLr (And.intro hfr (And.intro hbr hrw))))
              have hLie := (hLr i (Nat.le_refl _)).trans hLi
              clear hgr hLr hfr hbr hrw hLi hri
              generalize xs[i] = row at *
              go_wp2
              have hq := hgi
              go_region_held3 (fun w' => w'.cell? ⟨g, i, none⟩ = some (.slice (some ⟨bi, 0, none⟩) row.length ci)) (first | go_keep | (exact hq)) (first | (go_at_call 69; go_loud (refine (Copy_calls bi ci row.length row wr.drew rfl HF.out.2.2.2.2 hxl).mono ?_); rintro e w5 ⟨rfl, hr5, hb5⟩; have hq := pw_cell_below hb5 (show World.cell? wr.drew ⟨g, i, none⟩ = some (.slice (some ⟨bi, 0, none⟩) row.length ci) from hgi)))
              have hglt := hgrl
              have HF5 := Lib.hid (And.intro (Rec.stays (show Rec wr.drew g L' 27 from HF.out.1) hb5) (And.intro hr5 hb5))
              have HS5 := Lib.hid hb5.size
              have HLI := Lib.hid hLie
              clear hr5 hb5 hLie
              by_cases he : row.length = n
              · subst he
                have hsz : (Tryd.prog.info? 21).map (·.size) = some 1 := by kernel_rfl
                have HSZ := Lib.hid hsz
                clear hsz
                go_wp2_with ((with_reducible refine gate_dst (N := 85) rfl ?_); refine wpList_copy_splice rfl (.tmp 81) (.tmp 84) 27 27 rfl 21 Tryd.underlying27 HSZ.out (some ⟨wr.heap.size + 1, 0, none⟩) (some ⟨wr.heap.size + 1, 0, none⟩) row.length row.length (0) (0) rfl rfl (wr.heap.size + 1) 0 (row.map (Value.int .i32)) 21 HF5.out.2.1 [] (by simp) (fun h => absurd h (by simp)) (by simp) (by intro v hv; first | (simp at hv; done) | (obtain ⟨x, _, rfl⟩ := List.mem_map.1 hv; rfl)) wr.heap.size w5 (Below.refl _ _) (by omega) ?_; intro w6 hg6 hb6; have hgg := Rec.below HF5.out.1 hb6 hglt; have c6 := hgg.cell i HLI.out; have z6 := hgg.free i; have HG6 := Lib.hid hgg; have HB6 := Lib.hid hb6; clear hg6 hb6 hgg)
                go_roundw
                case rel => exact ⟨i + 1, by omega, by go_num, Lp.step HF.out.1 HF.out.2.1 HF.out.2.2.1 HF.out.2.2.2.1 HF5.out.2.2 HB6.out HG6.out HBG.out⟩
                case measure => simp only [intOf]; omega
              have i2 : (n : Int) ≤ (row.length : Int) := by omega
              have HP := Lib.hid (show 0 < ((row.drop n).map (Value.int .i32)).length → (some ⟨wr.heap.size + 1, 0, none⟩ : Option Addr) = some ⟨wr.heap.size + 1, 0, none⟩ ∧ ∃ ad, (some ⟨wr.heap.size + 1, n, none⟩ : Option Addr) = some ad ∧ ∀ j v, ((row.drop n).map (Value.int .i32))[j]? = some v → w5.cell? (ad.add j) = some v from fun h0 => by
                refine ⟨rfl, _, rfl, fun j v hj => ?_⟩
                rw [List.getElem?_map, List.getElem?_drop] at hj
                have := Rec.cell HF5.out.2.1 (n + j) (by rw [List.getElem?_map]; exact hj)
                rw [show ((⟨wr.heap.size + 1, n, none⟩ : Addr).add j) = ⟨wr.heap.size + 1, n + j, none⟩ by unfold Addr.add; split <;> simp_all]
                exact this)
              have hsz : (Tryd.prog.info? 21).map (·.size) = some 1 := by kernel_rfl
              have HSZ := Lib.hid hsz
              clear hsz
              go_wp2_with ((with_reducible refine gate_dst (N := 85) rfl ?_); refine wpList_copy_splice rfl (.tmp 81) (.tmp 84) 27 27 rfl 21 Tryd.underlying27 HSZ.out (some ⟨wr.heap.size + 1, 0, none⟩) (some ⟨wr.heap.size + 1, n, none⟩) row.length row.length (row.length - n) (row.length - n) rfl rfl (wr.heap.size + 1) 0 (row.map (Value.int .i32)) 21 HF5.out.2.1 ((row.drop n).map (Value.int .i32)) (by simp) (HP.out) (by simp) (by intro v hv; first | (simp at hv; done) | (obtain ⟨x, _, rfl⟩ := List.mem_map.1 hv; rfl)) wr.heap.size w5 (Below.refl _ _) (by omega) ?_; intro w6 hg6 hb6; have hgg := Rec.below HF5.out.1 hb6 hglt; have c6 := hgg.cell i HLI.out; have z6 := hgg.free i; have HG6 := Lib.hid hgg; have HB6 := Lib.hid hb6; clear hg6 hb6 hgg)
              go_roundw
              case rel => exact ⟨i + 1, by omega, by go_num, Lp.step HF.out.1 HF.out.2.1 HF.out.2.2.1 HF.out.2.2.2.1 HF5.out.2.2 HB6.out HG6.out HBG.out⟩
              case measure => simp only [intOf]; omega
            · have HF := Lib.hid (And.intro hfr hbr)
              clear hgr hLr hfr hbr
              go_wp2
              show Exit.noGoto _ Exit.ret _ _
              rw [Exit.noGoto_ret]
              refine bodyPost_ret (v := .tuple #[.slice (some ⟨w.heap.size + 1 + 1, 0, none⟩) n n, .int .i64 n]) (by simp [results, Tryd.results39, go_sem]) rfl ?_
              refine ⟨n, HA, _, rfl, fun h => absurd h hz, fun _ => ⟨_, rfl, fun j hj => ?_⟩, ?_⟩
              · have hr2 := HB2.out.2.1
                rw [show ((w.alloc (.cells #[] 62)).drewN (nq + 1)).heap.size + 1 = w.heap.size + 1 + 1 by simp] at hr2
                have h3 := HF.out.1 _ hr2.lt (by omega)
                have h4 := hr2.cell j (v := .int .i32 (xs[0].getD j 0)) (by rw [List.getElem?_map, List.getElem?_take_of_lt hj, List.getElem?_eq_getElem (by omega), List.getD_eq_getElem?_getD, List.getElem?_eq_getElem (by omega)]; rfl)
                rw [← h4]
                unfold World.cell?
                simp only [h3]
              · exact ((pw_below_drewN (((Below.refl w.heap.size w).alloc (Nat.le_refl _) (.cells #[] 62)).mono hBw) (nq + 1)).trans (HB2.out.2.2.mono (by simp; omega))).trans HF.out.2
  case pass =>
    rintro a w' ⟨⟨nq, rfl⟩, n, HA, _, _, _, _, _, _, _, _, _, _, _, _, _, _, _, _, _, _, _, _, _, _, _, _, _, _, _, _, _, _, _, _, _, _, _, _, _, _, _, _, _, _, _, _, _, _, _, _, _, _, _, _, rfl⟩
    have rr0 := pw_cell_below ((Below.refl w.heap.size w).alloc (Nat.le_refl _) (.cells #[] 62)) r0
    have hn0 : n ≤ xs[0].length := by have := HA.1; rw [e0] at this; exact this
    by_cases hz : n = 0
    · subst hz
      go_wp2
      show Exit.noGoto _ Exit.ret _ _
      rw [Exit.noGoto_ret]
      refine bodyPost_ret (v := .tuple #[.slice none 0 0, .int .i64 0]) (by simp [results, Tryd.results39, go_sem]) rfl ?_
      exact ⟨0, HA, .slice none 0 0, rfl, fun _ => rfl, fun h => absurd h (by omega), pw_below_drewN (((Below.refl w.heap.size w).alloc (Nat.le_refl _) _).mono hBw) _⟩
    · have hzp : decide ((0 : Int) < (n : Int)) = true := decide_eq_true (by omega)
      have i0 : (0 : Int) ≤ (n : Int) := by omega
      have i1 : (n : Int) ≤ (c0 : Int) := by omega
      go_wp2
      have hx := rr0
      go_region_held3 (fun w' => w'.cell? ⟨g, 0, none⟩ = some (.slice (some ⟨b0, 0, none⟩) xs[0].length c0)) (first | go_keep | (exact hx)) (first | (go_at_call 69; refine (Copy_calls b0 c0 n (xs[0].take n) _ (by rw [List.length_take]; omega) (fun j hj => by rw [List.length_take] at hj; have := pw_cell_below ((Below.refl w.heap.size w).alloc (Nat.le_refl _) (.cells #[] 62)) (HRD.out j (by omega)); rw [show (xs[0].take n).getD j 0 = xs[0].getD j 0 by simp [List.getD, List.getElem?_take, show j < n by omega]]; exact this) (by rw [List.length_take]; omega)).mono ?_; rintro e w2 ⟨rfl, hr2, hb2⟩; have hx := pw_cell_below hb2 (show World.cell? ((w.alloc (.cells #[] 62)).drewN (nq + 1)) ⟨g, 0, none⟩ = some (.slice (some ⟨b0, 0, none⟩) xs[0].length c0) from rr0)))
      have hg2 : Rec w2 g L 27 := (Rec.stays ((HG.out.1.alloc (.cells #[] 62)).drewN (nq + 1)) hb2)
      have HB2 := Lib.hid (And.intro hg2 (And.intro hr2 hb2))
      clear hg2 hr2 hb2
      go_wp2
      go_loopw [8] (fun v8 wr => ∃ i : Nat, i ≤ xs.length ∧ v8 = .int .i64 i ∧ Lp B g L w2 wr i) (fun v8 _ => xs.length - (intOf v8).toNat)
      case atStart => exact ⟨0, Nat.zero_le _, rfl, ⟨L, HB2.out.1, fun _ _ => rfl⟩, fun _ _ _ => rfl, Below.refl _ _⟩
      case round =>
        obtain ⟨i, hi, rfl, ⟨L', hgr, hLr⟩, hfr, hbr⟩ := hrel
        by_cases hlt : i < xs.length
        · obtain ⟨bi, ci, hLi, hci, hbg, hri⟩ := HG.out.2 i xs[i] (List.getElem?_eq_getElem hlt)
          have hgi := hgr.cell i ((hLr i (Nat.le_refl _)).trans hLi)
          have hnl : n ≤ xs[i].length := (agg_com HA h0 xs[i] (List.getElem_mem hlt) xs[i] (List.getElem_mem hlt)).1
          have hxl := HXL.out xs[i] (List.getElem_mem hlt)
          have hrw : ∀ j, j < xs[i].length → wr.cell? ⟨bi, j, none⟩ = some (.int .i32 (xs[i].getD j 0)) := fun j hj => by
            have h2 := pw_cell_below HB2.out.2.2 (show World.cell? ((w.alloc (.cells #[] 62)).drewN (nq + 1)) _ = _ from pw_cell_below ((Below.refl w.heap.size w).alloc (Nat.le_refl _) (.cells #[] 62)) (hri j hj))
            have h3 := hfr bi (block_lt h2) hbg
            rw [← h2]
            unfold World.cell?
            simp only [h3]
          have hgrl := hgr.lt
          have HF := Lib.hid (And.intro hgr (And.intro hLr (And.intro hfr (And.intro hbr hrw))))
          have hLie := (hLr i (Nat.le_refl _)).trans hLi
          clear hgr hLr hfr hbr hrw hLi hri
          generalize xs[i] = row at *
          go_wp2
          have hq := hgi
          go_region_held3 (fun w' => w'.cell? ⟨g, i, none⟩ = some (.slice (some ⟨bi, 0, none⟩) row.length ci)) (first | go_keep | (exact hq)) (first | (go_at_call 69; go_loud (refine (Copy_calls bi ci row.length row wr.drew rfl HF.out.2.2.2.2 hxl).mono ?_); rintro e w5 ⟨rfl, hr5, hb5⟩; have hq := pw_cell_below hb5 (show World.cell? wr.drew ⟨g, i, none⟩ = some (.slice (some ⟨bi, 0, none⟩) row.length ci) from hgi)))
          have hglt := hgrl
          have HF5 := Lib.hid (And.intro (Rec.stays (show Rec wr.drew g L' 27 from HF.out.1) hb5) (And.intro hr5 hb5))
          have HS5 := Lib.hid hb5.size
          have HLI := Lib.hid hLie
          clear hr5 hb5 hLie
          by_cases he : row.length = n
          · subst he
            have hsz : (Tryd.prog.info? 21).map (·.size) = some 1 := by kernel_rfl
            have HSZ := Lib.hid hsz
            clear hsz
            go_wp2_with ((with_reducible refine gate_dst (N := 85) rfl ?_); refine wpList_copy_splice rfl (.tmp 81) (.tmp 84) 27 27 rfl 21 Tryd.underlying27 HSZ.out (some ⟨wr.heap.size + 1, 0, none⟩) (some ⟨wr.heap.size + 1, 0, none⟩) row.length row.length (0) (0) rfl rfl (wr.heap.size + 1) 0 (row.map (Value.int .i32)) 21 HF5.out.2.1 [] (by simp) (fun h => absurd h (by simp)) (by simp) (by intro v hv; first | (simp at hv; done) | (obtain ⟨x, _, rfl⟩ := List.mem_map.1 hv; rfl)) wr.heap.size w5 (Below.refl _ _) (by omega) ?_; intro w6 hg6 hb6; have hgg := Rec.below HF5.out.1 hb6 hglt; have c6 := hgg.cell i HLI.out; have z6 := hgg.free i; have HG6 := Lib.hid hgg; have HB6 := Lib.hid hb6; clear hg6 hb6 hgg)
            go_roundw
            case rel => exact ⟨i + 1, by omega, by go_num, Lp.step HF.out.1 HF.out.2.1 HF.out.2.2.1 HF.out.2.2.2.1 HF5.out.2.2 HB6.out HG6.out HBG.out⟩
            case measure => simp only [intOf]; omega
          have i2 : (n : Int) ≤ (row.length : Int) := by omega
          have HP := Lib.hid (show 0 < ((row.drop n).map (Value.int .i32)).length → (some ⟨wr.heap.size + 1, 0, none⟩ : Option Addr) = some ⟨wr.heap.size + 1, 0, none⟩ ∧ ∃ ad, (some ⟨wr.heap.size + 1, n, none⟩ : Option Addr) = some ad ∧ ∀ j v, ((row.drop n).map (Value.int .i32))[j]? = some v → w5.cell? (ad.add j) = some v from fun h0 => by
            refine ⟨rfl, _, rfl, fun j v hj => ?_⟩
            rw [List.getElem?_map, List.getElem?_drop] at hj
            have := Rec.cell HF5.out.2.1 (n + j) (by rw [List.getElem?_map]; exact hj)
            rw [show ((⟨wr.heap.size + 1, n, none⟩ : Addr).add j) = ⟨wr.heap.size + 1, n + j, none⟩ by unfold Addr.add; split <;> simp_all]
            exact this)
          have hsz : (Tryd.prog.info? 21).map (·.size) = some 1 := by kernel_rfl
          have HSZ := Lib.hid hsz
          clear hsz
          go_wp2_with ((with_reducible refine gate_dst (N := 85) rfl ?_); refine wpList_copy_splice rfl (.tmp 81) (.tmp 84) 27 27 rfl 21 Tryd.underlying27 HSZ.out (some ⟨wr.heap.size + 1, 0, none⟩) (some ⟨wr.heap.size + 1, n, none⟩) row.length row.length (row.length - n) (row.length - n) rfl rfl (wr.heap.size + 1) 0 (row.map (Value.int .i32)) 21 HF5.out.2.1 ((row.drop n).map (Value.int .i32)) (by simp) (HP.out) (by simp) (by intro v hv; first | (simp at hv; done) | (obtain ⟨x, _, rfl⟩ := List.mem_map.1 hv; rfl)) wr.heap.size w5 (Below.refl _ _) (by omega) ?_; intro w6 hg6 hb6; have hgg := Rec.below HF5.out.1 hb6 hglt; have c6 := hgg.cell i HLI.out; have z6 := hgg.free i; have HG6 := Lib.hid hgg; have HB6 := Lib.hid hb6; clear hg6 hb6 hgg)
          go_roundw
          case rel => exact ⟨i + 1, by omega, by go_num, Lp.step HF.out.1 HF.out.2.1 HF.out.2.2.1 HF.out.2.2.2.1 HF5.out.2.2 HB6.out HG6.out HBG.out⟩
          case measure => simp only [intOf]; omega
        · have HF := Lib.hid (And.intro hfr hbr)
          clear hgr hLr hfr hbr
          go_wp2
          show Exit.noGoto _ Exit.ret _ _
          rw [Exit.noGoto_ret]
          refine bodyPost_ret (v := .tuple #[.slice (some ⟨w.heap.size + 1 + 1, 0, none⟩) n n, .int .i64 n]) (by simp [results, Tryd.results39, go_sem]) rfl ?_
          refine ⟨n, HA, _, rfl, fun h => absurd h hz, fun _ => ⟨_, rfl, fun j hj => ?_⟩, ?_⟩
          · have hr2 := HB2.out.2.1
            rw [show ((w.alloc (.cells #[] 62)).drewN (nq + 1)).heap.size + 1 = w.heap.size + 1 + 1 by simp] at hr2
            have h3 := HF.out.1 _ hr2.lt (by omega)
            have h4 := hr2.cell j (v := .int .i32 (xs[0].getD j 0)) (by rw [List.getElem?_map, List.getElem?_take_of_lt hj, List.getElem?_eq_getElem (by omega), List.getD_eq_getElem?_getD, List.getElem?_eq_getElem (by omega)]; rfl)
            rw [← h4]
            unfold World.cell?
            simp only [h3]
          · exact ((pw_below_drewN (((Below.refl w.heap.size w).alloc (Nat.le_refl _) (.cells #[] 62)).mono hBw) (nq + 1)).trans (HB2.out.2.2.mono (by simp; omega))).trans HF.out.2
end Go.Proofs.YthbdaoapjnofkaaDoor.H
