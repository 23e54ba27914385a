/- The step over readline's buffer that takes a word out ahead of the cursor: what it makes of it; no condition but bounds that its callers meet. -/
import Derived.Test.YtdinikcfhpfojaaDoorQHYank
import Derived.Test.YtdinikcfhpfojaaDoorQHEndW
namespace Go.Proofs.YtdinikcfhpfojaaDoor.H
open Go.RowKit Go.Proofs.YtdinikcfhpfojaaDoorW.PrintWords Go.Proofs.YtdinikcfhpfojaaDoorW.PrintLast Go.Proofs.YtdinikcfhpfojaaDoor.R
set_option linter.unusedVariables false
set_option linter.unusedSimpArgs false
attribute [local go_sem ↓] Go.wp_at_zero Go.wp_at_succ
theorem enter146 (args : Array Value) (w : World) : (callFunc 146 args).run Tryd.prog w = .ok (.enter 146 args) w := enters (P := Tryd.prog) Tryd.func146 (by kernel_rfl) rfl args w
theorem prevW_le' (l : List Int) : ∀ i, prevW l i ≤ i
  | 0 => Nat.le_refl _
  | i + 1 => by
    unfold prevW
    split
    · exact Nat.le_refl _
    · have := prevW_le' l i; omega
theorem src_mid {w : World} {B : Nat} {A : Option Addr} {c k n : Nat} {xs : List Int} (h : Own w B (.slice A xs.length c) xs) (hk : k ≤ n) (hn : n ≤ xs.length) : Src w (tailA A c k) (c - k) ((xs.take n).drop k) := by
  rcases src_tail (k := k) h (by omega) with ⟨h1, h2, h3⟩ | ⟨ad, h1, h2⟩
  · have : xs.length ≤ k := by simpa using h2
    exact .inl ⟨h1, List.drop_eq_nil_of_le (by rw [List.length_take]; omega), h3⟩
  · refine .inr ⟨ad, h1, fun j hj => ?_⟩
    rw [List.length_drop, List.length_take] at hj
    rw [h2 j (by rw [List.length_drop]; omega)]
    have : k + j < n := by omega
    simp [List.getD, List.getElem?_take, this]
/-- What the step makes, where a word begins at place p behind something that is none. -/
def kback (s : KS) (p : Nat) : KS := ⟨s.buf.take p ++ s.buf.drop s.idx, p, (s.buf.take s.idx).drop p⟩
set_option maxHeartbeats 8000000 in
theorem back_closure (q m B p : Nat) (s : KS) (r : Rest) (w : World) (ho : One w q (Pt m) 68) (hqm : q ≠ m) (h : RB w B m r s) (hl : s.buf.length ≤ 1000000000) (hp : prevW s.buf (s.idx - 1) = p) (hp0 : 0 < p) (hpi : p < s.idx) :
    Calls Tryd.prog 146 #[Pt q] w fun e w' => e = .returned (.tuple #[]) ∧ RB w' B m r (kback s p) ∧ Fr B (At m) w w' := by
  obtain ⟨bv, kv, hm, hb, hk, hd, hB, hi⟩ := h
  obtain ⟨buf, idx, kill⟩ := s
  dsimp only at *
  obtain ⟨A, c, rfl, hlc, hcm, hA⟩ := hb.form
  have c0 := ho.cell
  have k0 := hm.cell 0 rfl
  have k1 := hm.cell 1 rfl
  obtain ⟨i0, rfl⟩ : ∃ i0, idx = i0 + 1 := ⟨idx - 1, by omega⟩
  rw [show i0 + 1 - 1 = i0 by omega] at hp
  have hne : ((i0 : Int) + 1 == 0) = false := beq_eq_false_iff_ne.2 (by omega)
  rcases hA with ⟨_, h0, _⟩ | ⟨g, rfl, hg, hBg, hcell⟩
  · subst h0; simp at hi
  have HC := Lib.hid hcell
  have HPP := Lib.hid hp
  unfold maxLen at hcm
  have HST := Lib.hid (And.intro hm (And.intro hb (And.intro hk (And.intro ho hd))))
  clear hcell hp
  go_enter Tryd.func146, Tryd.ntmps146
  go_wp2
  go_loop [1] (fun vi => ∃ k : Nat, k ≤ i0 ∧ p ≤ k ∧ vi = .int .i64 k ∧ prevW buf k = p) (fun vi => (intOf vi).toNat)
  case atStart => exact ⟨i0, by omega, by omega, by first | rfl | go_num, HPP.out⟩
  case round =>
    obtain ⟨k, hki, hkp, rfl, hpk⟩ := hrel
    cases k with
    | zero => omega
    | succ j =>
      have e1 := HC.out (j + 1) (by omega)
      have e0 := HC.out j (by omega)
      have HP := Lib.hid hpk
      have HS := Lib.hid (show prevW buf (j + 1) = if begs buf (j + 1) then j + 1 else prevW buf j from rfl)
      clear hpk
      cases h1 : wsign (buf.getD (j + 1) 0)
      · have HB := Lib.hid (show begs buf (j + 1) = false by unfold begs; rw [h1]; rfl)
        have hpj : p ≤ j := by
          have h3 := HP.out
          rw [HS.out, HB.out] at h3
          have h4 : prevW buf j = p := h3
          have := prevW_le' buf j
          omega
        generalize buf.getD (j + 1) 0 = x1 at *
        generalize buf.getD j 0 = x0 at *
        go_wp2_with (go_at_call 142; refine (wb_calls _ _).mono ?_; rintro e w' ⟨rfl, rfl⟩)
        go_round
        case rel => exact ⟨j, by omega, hpj, by go_num, by rw [← HP.out, HS.out, HB.out]; rfl⟩
        case measure => simp [intOf]
      · cases h0 : wsign (buf.getD j 0)
        · have hpe : p = j + 1 := by
            have h3 := HP.out
            rw [HS.out, show begs buf (j + 1) = true by unfold begs; rw [h1, show j + 1 - 1 = j from rfl, h0]; rfl] at h3
            exact h3.symm
          subst hpe
          generalize buf.getD (j + 1) 0 = x1 at *
          generalize buf.getD j 0 = x0 at *
          have i0' : (0 : Int) ≤ (j : Int) + 1 := by omega
          have i1 : (j : Int) + 1 ≤ (i0 : Int) + 1 := by omega
          have i2 : (i0 : Int) + 1 ≤ (c : Int) := by omega
          have i3 : (buf.length : Int) ≤ (c : Int) := by omega
          have hcj : ¬ c = j + 1 := by omega
          have hi' : i0 + 1 ≤ buf.length := hi
          have hTA : tailA (some ⟨g, 0, none⟩) c (j + 1) = some ⟨g, j + 1, none⟩ := by
            unfold tailA; rw [if_neg hcj]; simp only [Option.map_some]; congr 1; unfold Addr.add; split <;> simp_all
          have hsm := src_mid (k := j + 1) (n := i0 + 1) HST.out.2.1.drew (by omega) hi'
          have htl := tail_lt (k := j + 1) HST.out.2.1.drew
          rw [hTA] at hsm htl
          have HPK := Lib.hid (pushKill_calls m B ⟨buf, i0 + 1, kill⟩ r _ (some ⟨g, j + 1, none⟩) (i0 - j) (c - (j + 1)) ((buf.take (i0 + 1)).drop (j + 1)) w.drew ⟨_, HST.out.1.drew, HST.out.2.1.drew, HST.out.2.2.1.drew, HST.out.2.2.2.2, hB, hi'⟩ (by simp; omega) hsm htl (by simp; omega))
          clear hTA hsm htl
          go_wp2_with (go_at_call 142; refine (wb_calls _ _).mono ?_; rintro e w' ⟨rfl, rfl⟩)
          go_region_held3 (fun w' => w'.cell? ⟨q, 0, none⟩ = some (Pt m) ∧ w'.cell? ⟨m, 0, none⟩ = some (.slice (some ⟨g, 0, none⟩) buf.length c) ∧ w'.cell? ⟨m, 1, none⟩ = some (.int .i64 ((i0 : Int) + 1))) (first | go_keep | (exact ⟨hq1, hx0, hx1⟩))
            (first
              | (go_at_call 103; (with_reducible refine HPK.out.mono ?_); rintro e w1 ⟨rfl, hR1, hF1⟩; obtain ⟨kv1, hm1, hb1, hk1, hd1, _, hi1⟩ := hR1; dsimp only at hm1 hb1 hk1 hi1; have ho1 := hF1.one HST.out.2.2.2.1.drew (by decide) (by exact hqm); have hq1 := ho1.cell; have hx0 := hm1.cell 0 rfl; have hx1 := hm1.cell 1 rfl; have z0 := hm1.free 0))
          have H1 := Lib.hid (And.intro hm1 (And.intro hb1 (And.intro hk1 (And.intro hd1 (And.intro ho1 hF1)))))
          have hcut := own_cut (k := j + 1) hb1 (by omega)
          have HCUT := Lib.hid hcut
          have HSRC := Lib.hid (src_tail (k := i0 + 1) hb1 hi')
          obtain ⟨T, hT⟩ : ∃ T, (if c = i0 + 1 then some ⟨g, 0, none⟩ else some ⟨g, i0 + 1, none⟩ : Option Addr) = T := ⟨_, rfl⟩
          have hTT : tailA (some ⟨g, 0, none⟩) c (i0 + 1) = T := by
            rw [← hT]; unfold tailA; split
            · rfl
            · simp only [Option.map_some]; congr 1; unfold Addr.add; split <;> simp_all
          have HSRC' : Hid (Src w1 T (c - (i0 + 1)) (buf.drop (i0 + 1))) := by rw [← hTT]; exact HSRC
          have b0 : (0 : Int) ≤ (i0 : Int) + 1 := by omega
          have b1 : (i0 : Int) + 1 ≤ (buf.length : Int) := by omega
          have b4 : (j : Int) + 1 ≤ (c : Int) := by omega
          have b2 : (j : Int) + 1 ≤ (buf.length : Int) := by omega
          have hz1 : B ≤ w1.heap.size := by have := hm1.lt; omega
          have hw1 := hm1.lt
          clear hm1 hb1 hk1 hd1 hcut HSRC hTT
          go_wp2
          refine wp_region_noPanic ?_
          refine wp_region_held_drew (S := fun w' => w'.cell? ⟨q, 0, none⟩ = some (Pt m) ∧ w'.cell? ⟨m, 1, none⟩ = some (.int .i64 ((i0 : Int) + 1))) (by kernel_rfl) ⟨hq1, hx1⟩ (fun hHeld => ?_)
          refine wpAnyH_take (i := 0) (v := ?v0) (by simp only [List.getElem?_toArray, List.getElem?_cons_succ, List.getElem?_cons_zero]; rfl) (by kernel_rfl) (by kernel_rfl) (by kernel_rfl) (fun _ _ _ h => h) (Or.inl ⟨by rfl, ?h0⟩) (by assumption) ?_
          case h0 => (intro w hSw; (try dsimp only at hSw); go_simp; try with_reducible rfl)
          try simp only [Act.put, List.setIfInBounds_toArray, List.set_cons_zero, List.set_cons_succ]
          refine wpAnyH_take (i := 1) (v := ?v1) (by simp only [List.getElem?_toArray, List.getElem?_cons_succ, List.getElem?_cons_zero]; rfl) (by kernel_rfl) (by kernel_rfl) (by kernel_rfl) (fun _ _ _ h => h) (Or.inl ⟨by rfl, ?h1⟩) (by assumption) ?_
          case h1 => (intro w hSw; (try dsimp only at hSw); go_simp; try with_reducible rfl)
          try simp only [Act.put, List.setIfInBounds_toArray, List.set_cons_zero, List.set_cons_succ]
          refine wpAnyH_take (i := 2) (v := ?v2) (by simp only [List.getElem?_toArray, List.getElem?_cons_succ, List.getElem?_cons_zero]; rfl) (by kernel_rfl) (by kernel_rfl) (by kernel_rfl) (fun _ _ _ h => h) (Or.inl ⟨by rfl, ?h2⟩) (by assumption) ?_
          case h2 => (intro w hSw; (try dsimp only at hSw); go_simp; try with_reducible rfl)
          try simp only [Act.put, List.setIfInBounds_toArray, List.set_cons_zero, List.set_cons_succ]
          refine wpAnyH_take (i := 3) (v := ?v3) (by simp only [List.getElem?_toArray, List.getElem?_cons_succ, List.getElem?_cons_zero]; rfl) (by kernel_rfl) (by kernel_rfl) (by kernel_rfl) (fun _ _ _ h => h) (Or.inl ⟨by rfl, ?h3⟩) (by assumption) ?_
          case h3 => (intro w hSw; (try dsimp only at hSw); go_simp; try with_reducible rfl)
          try simp only [Act.put, List.setIfInBounds_toArray, List.set_cons_zero, List.set_cons_succ]
          refine wpAnyH_take (i := 5) (v := ?v5) (by simp only [List.getElem?_toArray, List.getElem?_cons_succ, List.getElem?_cons_zero]; rfl) (by kernel_rfl) (by kernel_rfl) (by kernel_rfl) (fun _ _ _ h => h) (Or.inl ⟨by rfl, ?h5⟩) (by assumption) ?_
          case h5 => (intro w hSw; (try dsimp only at hSw); go_simp; try with_reducible rfl)
          try simp only [Act.put, List.setIfInBounds_toArray, List.set_cons_zero, List.set_cons_succ]
          refine wpAnyH_take (i := 7) (v := ?v7) (by simp only [List.getElem?_toArray, List.getElem?_cons_succ, List.getElem?_cons_zero]; rfl) (by kernel_rfl) (by kernel_rfl) (by kernel_rfl) (fun _ _ _ h => h) (Or.inl ⟨by rfl, ?h7⟩) (by assumption) ?_
          case h7 => (intro w hSw; (try dsimp only at hSw); go_simp; try with_reducible rfl)
          try simp only [Act.put, List.setIfInBounds_toArray, List.set_cons_zero, List.set_cons_succ]
          refine wpAnyH_take (i := 8) (v := ?v8) (by simp only [List.getElem?_toArray, List.getElem?_cons_succ, List.getElem?_cons_zero]; rfl) (by kernel_rfl) (by kernel_rfl) (by kernel_rfl) (fun _ _ _ h => h) (Or.inl ⟨by rfl, ?h8⟩) (by assumption) ?_
          case h8 => (intro w hSw; (try dsimp only at hSw); go_simp; try with_reducible rfl)
          try simp only [Act.put, List.setIfInBounds_toArray, List.set_cons_zero, List.set_cons_succ]
          refine wpAnyH_take (i := 9) (v := ?v9) (by simp only [List.getElem?_toArray, List.getElem?_cons_succ, List.getElem?_cons_zero]; rfl) (by kernel_rfl) (by kernel_rfl) (by kernel_rfl) (fun _ _ _ h => h) (Or.inl ⟨by rfl, ?h9⟩) (by assumption) ?_
          case h9 => (intro w hSw; (try dsimp only at hSw); go_simp; try with_reducible rfl)
          try simp only [Act.put, List.setIfInBounds_toArray, List.set_cons_zero, List.set_cons_succ]
          refine wpAnyH_take (i := 11) (v := ?v11) (by simp only [List.getElem?_toArray, List.getElem?_cons_succ, List.getElem?_cons_zero]; rfl) (by kernel_rfl) (by kernel_rfl) (by kernel_rfl) (fun _ _ _ h => h) (Or.inl ⟨by rfl, ?h11⟩) (by assumption) ?_
          case h11 => (intro w hSw; (try dsimp only at hSw); go_simp; try with_reducible rfl)
          try simp only [Act.put, List.setIfInBounds_toArray, List.set_cons_zero, List.set_cons_succ]
          refine wpAnyH_take (i := 12) (v := ?v12) (by simp only [List.getElem?_toArray, List.getElem?_cons_succ, List.getElem?_cons_zero]; rfl) (by kernel_rfl) (by kernel_rfl) (by kernel_rfl) (fun _ _ _ h => h) (Or.inl ⟨by rfl, ?h12⟩) (by assumption) ?_
          case h12 => (intro w hSw; (try dsimp only at hSw); go_simp; try with_reducible rfl)
          try simp only [Act.put, List.setIfInBounds_toArray, List.set_cons_zero, List.set_cons_succ]
          refine wpAnyH_take (i := 13) (v := ?v13) (by simp only [List.getElem?_toArray, List.getElem?_cons_succ, List.getElem?_cons_zero]; rfl) (by kernel_rfl) (by kernel_rfl) (by kernel_rfl) (fun _ _ _ h => h) (Or.inl ⟨by rfl, ?h13⟩) (by assumption) ?_
          case h13 => (intro w hSw; (try dsimp only at hSw); go_simp; try with_reducible rfl)
          try simp only [Act.put, List.setIfInBounds_toArray, List.set_cons_zero, List.set_cons_succ]
          refine wpAnyH_take (i := 14) (v := ?v14) (by simp only [List.getElem?_toArray, List.getElem?_cons_succ, List.getElem?_cons_zero]; rfl) (by kernel_rfl) (by kernel_rfl) (by kernel_rfl) (fun _ _ _ h => h) (Or.inl ⟨by rfl, ?h14⟩) (by assumption) ?_
          case h14 => (intro w hSw; (try dsimp only at hSw); go_simp; try with_reducible rfl)
          try simp only [Act.put, List.setIfInBounds_toArray, List.set_cons_zero, List.set_cons_succ]
          refine wpAnyH_ready (rs := [4, 10]) (by kernel_rfl) (by simp) ?_
          refine AllReadyH.cons (o := _) rfl (fun K hK => ?_) (AllReadyH.cons (o := _) rfl (fun K hK => ?_) AllReadyH.nil)
          · go_simp
            refine hK.out _ _ ⟨hq1, hx1⟩ (fun hHeldL => ?_)
            clear hK K
            try simp only [Act.put, List.setIfInBounds_toArray, List.set_cons_zero, List.set_cons_succ]
            refine wpAnyH_take (i := 6) (v := ?v6) (by simp only [List.getElem?_toArray, List.getElem?_cons_succ, List.getElem?_cons_zero]; rfl) (by kernel_rfl) (by kernel_rfl) (by kernel_rfl) (fun _ _ _ h => h) (Or.inl ⟨by rfl, ?h6⟩) (by assumption) ?_
            case h6 => (intro w hSw; (try dsimp only at hSw); go_simp; try with_reducible rfl)
            try simp only [Act.put, List.setIfInBounds_toArray, List.set_cons_zero, List.set_cons_succ]
            refine wpAnyH_ready (rs := [10]) (by kernel_rfl) (by simp) ?_
            refine AllReadyH.cons (o := _) rfl (fun K hK => ?_) AllReadyH.nil
            go_simp
            refine hK.out _ _ ⟨hq1, hx1⟩ (fun hHeldL => ?_)
            clear hK K
            try simp only [Act.put, List.setIfInBounds_toArray, List.set_cons_zero, List.set_cons_succ]
            refine wpAnyH_take (i := 15) (v := ?v15) (by simp only [List.getElem?_toArray, List.getElem?_cons_succ, List.getElem?_cons_zero]; rfl) (by kernel_rfl) (by kernel_rfl) (by kernel_rfl) (fun _ _ _ h => h) (Or.inl ⟨by rfl, ?h15⟩) (by assumption) ?_
            case h15 => (intro w hSw; (try dsimp only at hSw); go_simp; try with_reducible rfl)
            try simp only [Act.put, List.setIfInBounds_toArray, List.set_cons_zero, List.set_cons_succ]
            refine wpAnyH_ready (rs := [16]) (by kernel_rfl) (by simp) ?_
            refine AllReadyH.cons (o := _) rfl (fun K hK => ?_) AllReadyH.nil
            refine step_append_ints rfl (.tmp 54) (.tmp 63) rfl B (.slice (some ⟨g, 0, none⟩) (j + 1) c) (buf.take (j + 1)) (by rfl) HCUT.out.1.drew T (buf.length - (i0 + 1)) (c - (i0 + 1)) (buf.drop (i0 + 1)) (by rw [List.length_drop]) (by rfl) HSRC'.out (by rw [List.length_take, List.length_drop]; omega) hz1 (j + 1 + (buf.length - (i0 + 1))) (by rw [List.length_take, List.length_drop]; omega) ?_
            intro A3 c3 w3 ho3 hg3 hat3
            have hgm : g ≠ m := (H1.out.2.1.row g rfl).1.ne_rec H1.out.1 (by decide)
            have hgq : g ≠ q := (H1.out.2.1.row g rfl).1.ne_rec H1.out.2.2.2.2.1.rec (by decide)
            have hql := H1.out.2.2.2.2.1.lt
            have hm3 : Rec w3 m (rbc (.slice (some ⟨g, 0, none⟩) buf.length c) ((i0 + 1 : Nat) : Int) r kv1) 89 := (hg3.block m hw1 (fun e => hgm (by simpa [Value.ownBlock, eq_comm] using e))).trans H1.out.1
            have hq3 : One w3 q (Pt m) 68 := (hg3.block q hql (fun e => hgq (by simpa [Value.ownBlock, eq_comm] using e))).trans H1.out.2.2.2.2.1
            have hk3 : Own w3 B kv1 ((buf.take (i0 + 1)).drop (j + 1)) := H1.out.2.2.1.drew.grown hg3 (fun k hk e => by injection e with e; subst e; exact H1.out.2.2.2.1 _ rfl hk)
            have hF3 : Fr B (At m) w w3 := Fr.grown (((Fr.refl _ _ _).drew.trans H1.out.2.2.2.2.2).drew) hg3 (fun k hk => by injection hk with hk; subst hk; exact H1.out.2.1.drew.row _ rfl) hz1
            have hd3 : ∀ k, (Value.slice A3 (j + 1 + (buf.length - (i0 + 1))) c3).ownBlock = some k → kv1.ownBlock ≠ some k := fun k hk => by
              rcases hat3 with e | e <;> rw [e] at hk
              · exact H1.out.2.2.2.1 k hk
              · intro e2; injection hk with hk; have := H1.out.2.2.1.lt k e2; have e3 : w1.heap.size = k := hk; omega
            have y0 := hq3.cell
            have y1 := hm3.cell 1 rfl
            have y2 := hm3.cell 0 rfl
            have y3 := hm3.free 0
            refine hK.out _ _ ⟨y0, y1⟩ (fun hHeld16 => ?_)
            clear hK K
            try simp only [Act.put, List.setIfInBounds_toArray, List.set_cons_zero, List.set_cons_succ]
            refine wpAnyH_take (i := 17) (v := ?v17) (by simp only [List.getElem?_toArray, List.getElem?_cons_succ, List.getElem?_cons_zero]; rfl) (by kernel_rfl) (by kernel_rfl) (by kernel_rfl) (fun _ _ _ h => h) (Or.inl ⟨by rfl, ?h17⟩) (by assumption) ?_
            case h17 => (intro w hSw; (try dsimp only at hSw); go_simp; try with_reducible rfl)
            try simp only [Act.put, List.setIfInBounds_toArray, List.set_cons_zero, List.set_cons_succ]
            refine wpAnyH_take (i := 18) (v := ?v18) (by simp only [List.getElem?_toArray, List.getElem?_cons_succ, List.getElem?_cons_zero]; rfl) (by kernel_rfl) (by kernel_rfl) (by kernel_rfl) (fun _ _ _ h => h) (Or.inl ⟨by rfl, ?h18⟩) (by assumption) ?_
            case h18 => (intro w hSw; (try dsimp only at hSw); go_simp; try with_reducible rfl)
            try simp only [Act.put, List.setIfInBounds_toArray, List.set_cons_zero, List.set_cons_succ]
            refine wpAnyH_ready (rs := [19]) (by kernel_rfl) (by simp) ?_
            refine AllReadyH.cons (o := _) rfl (fun K hK => ?_) AllReadyH.nil
            go_simp
            have hm4 := hm3.set 0 (.slice A3 (j + 1 + (buf.length - (i0 + 1))) c3)
            have ho4 := ho3.set hm3 (by decide) 0 (.slice A3 (j + 1 + (buf.length - (i0 + 1))) c3)
            have hk4 := hk3.set hm3 (by decide) 0 (.slice A3 (j + 1 + (buf.length - (i0 + 1))) c3)
            have hq4 : One (w3.setCell ⟨m, 0, none⟩ (.slice A3 (j + 1 + (buf.length - (i0 + 1))) c3)) q (Pt m) 68 := hq3.other (a := ⟨m, 0, none⟩) (by show q ≠ m; exact hqm) _
            have x0 := hq4.cell
            have x1 := hm4.cell 1 rfl
            have x2 := hm4.free 1
            refine hK.out _ _ ⟨x0, x1⟩ (fun hHeld19 => ?_)
            clear hK K
            try simp only [Act.put, List.setIfInBounds_toArray, List.set_cons_zero, List.set_cons_succ]
            refine wpAnyH_done (by kernel_rfl) ?_ _
            refine NoPanic.normal ?_
            have HFIN := Lib.hid (show RB ((w3.setCell ⟨m, 0, none⟩ (.slice A3 (j + 1 + (buf.length - (i0 + 1))) c3)).setCell ⟨m, 1, none⟩ (.int .i64 ((j + 1 : Nat) : Int))) B m r (kback ⟨buf, i0 + 1, kill⟩ (j + 1)) ∧ Fr B (At m) w ((w3.setCell ⟨m, 0, none⟩ (.slice A3 (j + 1 + (buf.length - (i0 + 1))) c3)).setCell ⟨m, 1, none⟩ (.int .i64 ((j + 1 : Nat) : Int))) from
              ⟨⟨_, _, hm4.set 1 (.int .i64 ((j + 1 : Nat) : Int)), ho4.set hm4 (by decide) 1 _, hk4.set hm4 (by decide) 1 _, hd3, hB, by unfold kback; dsimp only; rw [List.length_append, List.length_take, List.length_drop]; omega⟩, fr_at (fr_at hF3 hB _ _) hB _ _⟩)
            clear hm3 hm4 ho3 ho4 hk3 hk4 hF3 hd3 hat3 hg3
            go_wp2
            refine bodyPost_ret (results_none rfl _ _ _) rfl ?_
            exact ⟨rfl, HFIN.out⟩
          · go_simp
            refine hK.out _ _ ⟨hq1, hx1⟩ (fun hHeldL => ?_)
            clear hK K
            try simp only [Act.put, List.setIfInBounds_toArray, List.set_cons_zero, List.set_cons_succ]
            refine wpAnyH_take (i := 15) (v := ?v15) (by simp only [List.getElem?_toArray, List.getElem?_cons_succ, List.getElem?_cons_zero]; rfl) (by kernel_rfl) (by kernel_rfl) (by kernel_rfl) (fun _ _ _ h => h) (Or.inl ⟨by rfl, ?h15⟩) (by assumption) ?_
            case h15 => (intro w hSw; (try dsimp only at hSw); go_simp; try with_reducible rfl)
            try simp only [Act.put, List.setIfInBounds_toArray, List.set_cons_zero, List.set_cons_succ]
            refine wpAnyH_ready (rs := [4]) (by kernel_rfl) (by simp) ?_
            refine AllReadyH.cons (o := _) rfl (fun K hK => ?_) AllReadyH.nil
            go_simp
            refine hK.out _ _ ⟨hq1, hx1⟩ (fun hHeldL => ?_)
            clear hK K
            try simp only [Act.put, List.setIfInBounds_toArray, List.set_cons_zero, List.set_cons_succ]
            refine wpAnyH_take (i := 6) (v := ?v6) (by simp only [List.getElem?_toArray, List.getElem?_cons_succ, List.getElem?_cons_zero]; rfl) (by kernel_rfl) (by kernel_rfl) (by kernel_rfl) (fun _ _ _ h => h) (Or.inl ⟨by rfl, ?h6⟩) (by assumption) ?_
            case h6 => (intro w hSw; (try dsimp only at hSw); go_simp; try with_reducible rfl)
            try simp only [Act.put, List.setIfInBounds_toArray, List.set_cons_zero, List.set_cons_succ]
            refine wpAnyH_ready (rs := [16]) (by kernel_rfl) (by simp) ?_
            refine AllReadyH.cons (o := _) rfl (fun K hK => ?_) AllReadyH.nil
            refine step_append_ints rfl (.tmp 54) (.tmp 63) rfl B (.slice (some ⟨g, 0, none⟩) (j + 1) c) (buf.take (j + 1)) (by rfl) HCUT.out.1.drew T (buf.length - (i0 + 1)) (c - (i0 + 1)) (buf.drop (i0 + 1)) (by rw [List.length_drop]) (by rfl) HSRC'.out (by rw [List.length_take, List.length_drop]; omega) hz1 (j + 1 + (buf.length - (i0 + 1))) (by rw [List.length_take, List.length_drop]; omega) ?_
            intro A3 c3 w3 ho3 hg3 hat3
            have hgm : g ≠ m := (H1.out.2.1.row g rfl).1.ne_rec H1.out.1 (by decide)
            have hgq : g ≠ q := (H1.out.2.1.row g rfl).1.ne_rec H1.out.2.2.2.2.1.rec (by decide)
            have hql := H1.out.2.2.2.2.1.lt
            have hm3 : Rec w3 m (rbc (.slice (some ⟨g, 0, none⟩) buf.length c) ((i0 + 1 : Nat) : Int) r kv1) 89 := (hg3.block m hw1 (fun e => hgm (by simpa [Value.ownBlock, eq_comm] using e))).trans H1.out.1
            have hq3 : One w3 q (Pt m) 68 := (hg3.block q hql (fun e => hgq (by simpa [Value.ownBlock, eq_comm] using e))).trans H1.out.2.2.2.2.1
            have hk3 : Own w3 B kv1 ((buf.take (i0 + 1)).drop (j + 1)) := H1.out.2.2.1.drew.grown hg3 (fun k hk e => by injection e with e; subst e; exact H1.out.2.2.2.1 _ rfl hk)
            have hF3 : Fr B (At m) w w3 := Fr.grown (((Fr.refl _ _ _).drew.trans H1.out.2.2.2.2.2).drew) hg3 (fun k hk => by injection hk with hk; subst hk; exact H1.out.2.1.drew.row _ rfl) hz1
            have hd3 : ∀ k, (Value.slice A3 (j + 1 + (buf.length - (i0 + 1))) c3).ownBlock = some k → kv1.ownBlock ≠ some k := fun k hk => by
              rcases hat3 with e | e <;> rw [e] at hk
              · exact H1.out.2.2.2.1 k hk
              · intro e2; injection hk with hk; have := H1.out.2.2.1.lt k e2; have e3 : w1.heap.size = k := hk; omega
            have y0 := hq3.cell
            have y1 := hm3.cell 1 rfl
            have y2 := hm3.cell 0 rfl
            have y3 := hm3.free 0
            refine hK.out _ _ ⟨y0, y1⟩ (fun hHeld16 => ?_)
            clear hK K
            try simp only [Act.put, List.setIfInBounds_toArray, List.set_cons_zero, List.set_cons_succ]
            refine wpAnyH_take (i := 17) (v := ?v17) (by simp only [List.getElem?_toArray, List.getElem?_cons_succ, List.getElem?_cons_zero]; rfl) (by kernel_rfl) (by kernel_rfl) (by kernel_rfl) (fun _ _ _ h => h) (Or.inl ⟨by rfl, ?h17⟩) (by assumption) ?_
            case h17 => (intro w hSw; (try dsimp only at hSw); go_simp; try with_reducible rfl)
            try simp only [Act.put, List.setIfInBounds_toArray, List.set_cons_zero, List.set_cons_succ]
            refine wpAnyH_take (i := 18) (v := ?v18) (by simp only [List.getElem?_toArray, List.getElem?_cons_succ, List.getElem?_cons_zero]; rfl) (by kernel_rfl) (by kernel_rfl) (by kernel_rfl) (fun _ _ _ h => h) (Or.inl ⟨by rfl, ?h18⟩) (by assumption) ?_
            case h18 => (intro w hSw; (try dsimp only at hSw); go_simp; try with_reducible rfl)
            try simp only [Act.put, List.setIfInBounds_toArray, List.set_cons_zero, List.set_cons_succ]
            refine wpAnyH_ready (rs := [19]) (by kernel_rfl) (by simp) ?_
            refine AllReadyH.cons (o := _) rfl (fun K hK => ?_) AllReadyH.nil
            go_simp
            have hm4 := hm3.set 0 (.slice A3 (j + 1 + (buf.length - (i0 + 1))) c3)
            have ho4 := ho3.set hm3 (by decide) 0 (.slice A3 (j + 1 + (buf.length - (i0 + 1))) c3)
            have hk4 := hk3.set hm3 (by decide) 0 (.slice A3 (j + 1 + (buf.length - (i0 + 1))) c3)
            have hq4 : One (w3.setCell ⟨m, 0, none⟩ (.slice A3 (j + 1 + (buf.length - (i0 + 1))) c3)) q (Pt m) 68 := hq3.other (a := ⟨m, 0, none⟩) (by show q ≠ m; exact hqm) _
            have x0 := hq4.cell
            have x1 := hm4.cell 1 rfl
            have x2 := hm4.free 1
            refine hK.out _ _ ⟨x0, x1⟩ (fun hHeld19 => ?_)
            clear hK K
            try simp only [Act.put, List.setIfInBounds_toArray, List.set_cons_zero, List.set_cons_succ]
            refine wpAnyH_done (by kernel_rfl) ?_ _
            refine NoPanic.normal ?_
            have HFIN := Lib.hid (show RB ((w3.setCell ⟨m, 0, none⟩ (.slice A3 (j + 1 + (buf.length - (i0 + 1))) c3)).setCell ⟨m, 1, none⟩ (.int .i64 ((j + 1 : Nat) : Int))) B m r (kback ⟨buf, i0 + 1, kill⟩ (j + 1)) ∧ Fr B (At m) w ((w3.setCell ⟨m, 0, none⟩ (.slice A3 (j + 1 + (buf.length - (i0 + 1))) c3)).setCell ⟨m, 1, none⟩ (.int .i64 ((j + 1 : Nat) : Int))) from
              ⟨⟨_, _, hm4.set 1 (.int .i64 ((j + 1 : Nat) : Int)), ho4.set hm4 (by decide) 1 _, hk4.set hm4 (by decide) 1 _, hd3, hB, by unfold kback; dsimp only; rw [List.length_append, List.length_take, List.length_drop]; omega⟩, fr_at (fr_at hF3 hB _ _) hB _ _⟩)
            clear hm3 hm4 ho3 ho4 hk3 hk4 hF3 hd3 hat3 hg3
            go_wp2
            refine bodyPost_ret (results_none rfl _ _ _) rfl ?_
            exact ⟨rfl, HFIN.out⟩
        · have HB := Lib.hid (show begs buf (j + 1) = false by unfold begs; rw [h1, show j + 1 - 1 = j from rfl, h0]; rfl)
          have hpj : p ≤ j := by
            have h3 := HP.out
            rw [HS.out, HB.out] at h3
            have h4 : prevW buf j = p := h3
            have := prevW_le' buf j
            omega
          generalize buf.getD (j + 1) 0 = x1 at *
          generalize buf.getD j 0 = x0 at *
          go_wp2_with (go_at_call 142; refine (wb_calls _ _).mono ?_; rintro e w' ⟨rfl, rfl⟩)
          go_round
          case rel => exact ⟨j, by omega, hpj, by go_num, by rw [← HP.out, HS.out, HB.out]; rfl⟩
          case measure => simp [intOf]
set_option maxHeartbeats 1000000 in
theorem back_calls (m B p : Nat) (s : KS) (r : Rest) (w : World) (h : RB w B m r s) (hl : s.buf.length ≤ 1000000000) (hp : prevW s.buf (s.idx - 1) = p) (hp0 : 0 < p) (hpi : p < s.idx) :
    Calls Tryd.prog 113 #[Pt m] w fun e w' => e = .returned (.tuple #[]) ∧ RB w' B m r (kback s p) ∧ Fr B (At m) w w' := by
  have ho := One.new w (Pt m) 68
  have hB := h.lt
  have HC := Lib.hid (Refresh_calls 146 #[Pt w.heap.size] (Pt m) _ _ enter146 (back_closure w.heap.size m B p s r _ ho (by omega) (h.alloc _) hl hp hp0 hpi))
  have c0 := ho.cell
  have hmf := made_f
  clear ho h hp
  go_enter Tryd.func113, Tryd.ntmps113
  go_wp2_with (go_at_call 60; refine HC.out.mono ?_; rintro e w1 ⟨rfl, hR, hF⟩)
  go_end0
  exact ⟨rfl, hR, Fr.narrow ((Below.refl _ _).alloc (Nat.le_refl _) _) hF (by omega) (fun _ _ h => h)⟩
end Go.Proofs.YtdinikcfhpfojaaDoor.H
