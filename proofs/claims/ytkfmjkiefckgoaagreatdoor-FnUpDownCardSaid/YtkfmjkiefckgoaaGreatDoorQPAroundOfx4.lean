/- Printed by a program of this seat (xprint) out of the translation: Go functions as plain functions, and the walks that show them; no condition. -/
import Derived.Test.YtkfmjkiefckgoaaGreatDoorQPAroundOfx0
import Derived.Test.YtkfmjkiefckgoaaGreatDoorQHBisectR
import Derived.Test.YtkfmjkiefckgoaaGreatDoorQHIndexByte
import Derived.Test.YtkfmjkiefckgoaaGreatDoorQHDocument
import Derived.Test.YtkfmjkiefckgoaaGreatDoorQPAroundOfx1
import Derived.Test.YtkfmjkiefckgoaaGreatDoorQPAroundOfx2
namespace Go.Proofs.YtkfmjkiefckgoaaGreatDoor.PAroundOf
open Go.RowKit Go.Proofs.YtkfmjkiefckgoaaGreatDoor.H Go.Proofs.YtkfmjkiefckgoaaGreatDoor.R Go.Proofs.YtkfmjkiefckgoaaGreatDoorW.PrintWords Go.Proofs.YtkfmjkiefckgoaaGreatDoorW.PrintLast Go.Proofs.YtkfmjkiefckgoaaGreatDoorW.PrintMore
attribute [local go_sem] max2_int min2_int max_two min_two max_three min_three max_four min_four   -- for this text's walks alone
set_option linter.unusedVariables false
set_option linter.unusedSimpArgs false
/-! ### goprompt_Document_TranslateRowColToIndex: function 121 -/
mutual
def goprompt_Document_TranslateRowColToIndex.j0 : Nat → Int → Int → List Int → ByteArray → Int → Option (Int × ByteArray × Int)
  | 0, _, _, _, _, _ => none
  | k + 1, x1, x2, x7, x1000, x1001 => if 0 ≤ x1 then (if x1 < (x7.length : Int) then ((goprompt_Document_Lines.f k x1000 x1001).bind fun bt298 => (if x1 < (bt298.1.length : Int) then (if x2 > 0 then (goprompt_Document_TranslateRowColToIndex.j1 k x2 (rd x7 x1) (rdOf ByteArray.empty bt298.1 x1) true bt298.2.1 bt298.2.2) else (goprompt_Document_TranslateRowColToIndex.j1 k x2 (rd x7 x1) (rdOf ByteArray.empty bt298.1 x1) (decide (((rdOf ByteArray.empty bt298.1 x1).size : Int) > 0)) bt298.2.1 bt298.2.2)) else (none))) else (none)) else (none)
def goprompt_Document_TranslateRowColToIndex.j1 : Nat → Int → Int → ByteArray → Bool → ByteArray → Int → Option (Int × ByteArray × Int)
  | 0, _, _, _, _, _, _ => none
  | k + 1, x2, x6, x8, x35, x1000, x1001 => if x35 = true then (if x2 > (x8.size : Int) then (goprompt_Document_TranslateRowColToIndex.j2 k (wrap64 (x6 + (x8.size : Int))) x1000 x1001) else (goprompt_Document_TranslateRowColToIndex.j2 k (wrap64 (x6 + x2)) x1000 x1001)) else (goprompt_Document_TranslateRowColToIndex.j2 k x6 x1000 x1001)
def goprompt_Document_TranslateRowColToIndex.j2 : Nat → Int → ByteArray → Int → Option (Int × ByteArray × Int)
  | 0, _, _, _ => none
  | k + 1, x6, x1000, x1001 => if x6 > (x1000.size : Int) then (if (x1000.size : Int) < 0 then (some (0, x1000, x1001)) else (some ((x1000.size : Int), x1000, x1001))) else (if x6 < 0 then (some (0, x1000, x1001)) else (some (x6, x1000, x1001)))
end
def goprompt_Document_TranslateRowColToIndex.f (k : Nat) (s0_0 : ByteArray) (s0_1 : Int) (a1 : Int) (a2 : Int) : Option (Int × ByteArray × Int) := (goprompt_Document_lineStartIndexes.f k s0_0 s0_1).bind fun bt292 => (if a1 < 0 then (goprompt_Document_TranslateRowColToIndex.j0 k 0 a2 bt292.1 bt292.2.1 bt292.2.2) else (if a1 > (bt292.1.length : Int) then (goprompt_Document_TranslateRowColToIndex.j0 k (wrap64 ((bt292.1.length : Int) - 1)) a2 bt292.1 bt292.2.1 bt292.2.2) else (goprompt_Document_TranslateRowColToIndex.j0 k a1 a2 bt292.1 bt292.2.1 bt292.2.2)))
theorem goprompt_Document_TranslateRowColToIndex.mono_l : ∀ k, (∀ y0 y1 y2 y3 y4, LeO (goprompt_Document_TranslateRowColToIndex.j0 k y0 y1 y2 y3 y4) (goprompt_Document_TranslateRowColToIndex.j0 (k + 1) y0 y1 y2 y3 y4)) ∧ (∀ y0 y1 y2 y3 y4 y5, LeO (goprompt_Document_TranslateRowColToIndex.j1 k y0 y1 y2 y3 y4 y5) (goprompt_Document_TranslateRowColToIndex.j1 (k + 1) y0 y1 y2 y3 y4 y5)) ∧ (∀ y0 y1 y2, LeO (goprompt_Document_TranslateRowColToIndex.j2 k y0 y1 y2) (goprompt_Document_TranslateRowColToIndex.j2 (k + 1) y0 y1 y2))
  | 0 => ⟨fun _ _ _ _ _ r h => by simp [goprompt_Document_TranslateRowColToIndex.j0] at h, fun _ _ _ _ _ _ r h => by simp [goprompt_Document_TranslateRowColToIndex.j1] at h, fun _ _ _ r h => by simp [goprompt_Document_TranslateRowColToIndex.j2] at h⟩
  | k + 1 => by
    obtain ⟨ih0, ih1, ih2⟩ := goprompt_Document_TranslateRowColToIndex.mono_l k
    refine ⟨?_, ?_, ?_⟩
    · intro y0 y1 y2 y3 y4
      unfold goprompt_Document_TranslateRowColToIndex.j0
      repeat' first
      | (with_reducible exact ih0 _ _ _ _ _)
      | (with_reducible exact ih1 _ _ _ _ _ _)
      | (with_reducible exact ih2 _ _ _)
      | (with_reducible exact goprompt_Document_Lines.mono _ _ _)
      | (with_reducible exact goprompt_Document_lineStartIndexes.mono _ _ _)
      | (with_reducible exact LeO.refl _)
      | (with_reducible exact LeO.none _)
      | (with_reducible refine LeO.ite ?_ ?_)
      | (with_reducible refine LeO.bind ?_ (fun _ => ?_))
      | exact ih0 _ _ _ _ _
      | exact ih1 _ _ _ _ _ _
      | exact ih2 _ _ _
      | exact goprompt_Document_Lines.mono _ _ _
      | exact goprompt_Document_lineStartIndexes.mono _ _ _
      | exact LeO.none _
      | refine LeO.ite ?_ ?_
      | refine LeO.bind ?_ (fun _ => ?_)
    · intro y0 y1 y2 y3 y4 y5
      unfold goprompt_Document_TranslateRowColToIndex.j1
      repeat' first
      | (with_reducible exact ih0 _ _ _ _ _)
      | (with_reducible exact ih1 _ _ _ _ _ _)
      | (with_reducible exact ih2 _ _ _)
      | (with_reducible exact goprompt_Document_Lines.mono _ _ _)
      | (with_reducible exact goprompt_Document_lineStartIndexes.mono _ _ _)
      | (with_reducible exact LeO.refl _)
      | (with_reducible exact LeO.none _)
      | (with_reducible refine LeO.ite ?_ ?_)
      | (with_reducible refine LeO.bind ?_ (fun _ => ?_))
      | exact ih0 _ _ _ _ _
      | exact ih1 _ _ _ _ _ _
      | exact ih2 _ _ _
      | exact goprompt_Document_Lines.mono _ _ _
      | exact goprompt_Document_lineStartIndexes.mono _ _ _
      | exact LeO.none _
      | refine LeO.ite ?_ ?_
      | refine LeO.bind ?_ (fun _ => ?_)
    · intro y0 y1 y2
      unfold goprompt_Document_TranslateRowColToIndex.j2
      repeat' first
      | (with_reducible exact ih0 _ _ _ _ _)
      | (with_reducible exact ih1 _ _ _ _ _ _)
      | (with_reducible exact ih2 _ _ _)
      | (with_reducible exact goprompt_Document_Lines.mono _ _ _)
      | (with_reducible exact goprompt_Document_lineStartIndexes.mono _ _ _)
      | (with_reducible exact LeO.refl _)
      | (with_reducible exact LeO.none _)
      | (with_reducible refine LeO.ite ?_ ?_)
      | (with_reducible refine LeO.bind ?_ (fun _ => ?_))
      | exact ih0 _ _ _ _ _
      | exact ih1 _ _ _ _ _ _
      | exact ih2 _ _ _
      | exact goprompt_Document_Lines.mono _ _ _
      | exact goprompt_Document_lineStartIndexes.mono _ _ _
      | exact LeO.none _
      | refine LeO.ite ?_ ?_
      | refine LeO.bind ?_ (fun _ => ?_)
theorem goprompt_Document_TranslateRowColToIndex.mono : ∀ a0 a1 a2 a3 k, LeO (goprompt_Document_TranslateRowColToIndex.f k a0 a1 a2 a3) (goprompt_Document_TranslateRowColToIndex.f (k + 1) a0 a1 a2 a3) := by
  intro a0 a1 a2 a3 k
  obtain ⟨ih0, ih1, ih2⟩ := goprompt_Document_TranslateRowColToIndex.mono_l k
  unfold goprompt_Document_TranslateRowColToIndex.f
  repeat' first
      | (with_reducible exact ih0 _ _ _ _ _)
      | (with_reducible exact ih1 _ _ _ _ _ _)
      | (with_reducible exact ih2 _ _ _)
      | (with_reducible exact goprompt_Document_Lines.mono _ _ _)
      | (with_reducible exact goprompt_Document_lineStartIndexes.mono _ _ _)
      | (with_reducible exact LeO.refl _)
      | (with_reducible exact LeO.none _)
      | (with_reducible refine LeO.ite ?_ ?_)
      | (with_reducible refine LeO.bind ?_ (fun _ => ?_))
      | exact ih0 _ _ _ _ _
      | exact ih1 _ _ _ _ _ _
      | exact ih2 _ _ _
      | exact goprompt_Document_Lines.mono _ _ _
      | exact goprompt_Document_lineStartIndexes.mono _ _ _
      | exact LeO.none _
      | refine LeO.ite ?_ ?_
      | refine LeO.bind ?_ (fun _ => ?_)
set_option maxHeartbeats 8000000 in
set_option maxRecDepth 100000 in
theorem goprompt_Document_TranslateRowColToIndex.calls (k : Nat) (g : Nat) (s0_0 : ByteArray) (s0_1 : Int) (a1 : Int) (a2 : Int) (r1 : Int) (r2 : ByteArray) (r3 : Int) (w0 w : World) (hI : IsS67 w0 w g s0_0 s0_1) (hB : Below w0.heap.size w0 w) (h : goprompt_Document_TranslateRowColToIndex.f k s0_0 s0_1 a1 a2 = some (r1, r2, r3)) :
    Calls Tryz.prog 121 #[.pointer (some ⟨g, 0, none⟩), .int .i64 a1, .int .i64 a2] w fun e w' => e = .returned (.int .i64 r1) ∧ IsS67 w0 w' g r2 r3 ∧ Below w0.heap.size w0 w' ∧ KeepBut w w' g none := by
  have HI0 := Aside0.mk hI
  have HK := Aside0.mk (KeepBut.refl w g none)
  have HL := Aside0.mk hB.size
  clear hI
  have HW0 := Aside0.mk hB.size
  have HB := Aside0.mk hB
  clear hB
  have H : ((goprompt_Document_lineStartIndexes.f k s0_0 s0_1).bind fun bt292 => (if a1 < 0 then (goprompt_Document_TranslateRowColToIndex.j0 k 0 a2 bt292.1 bt292.2.1 bt292.2.2) else (if a1 > (bt292.1.length : Int) then (goprompt_Document_TranslateRowColToIndex.j0 k (wrap64 ((bt292.1.length : Int) - 1)) a2 bt292.1 bt292.2.1 bt292.2.2) else (goprompt_Document_TranslateRowColToIndex.j0 k a1 a2 bt292.1 bt292.2.1 bt292.2.2)))) = some (r1, r2, r3) := h
  clear h
  replace H := Option.bind_eq_some_iff.mp H
  obtain ⟨⟨t292, t295, t296⟩, A40, H⟩ := H
  replace H : (if a1 < 0 then (goprompt_Document_TranslateRowColToIndex.j0 k 0 a2 t292 t295 t296) else (if a1 > (t292.length : Int) then (goprompt_Document_TranslateRowColToIndex.j0 k (wrap64 ((t292.length : Int) - 1)) a2 t292 t295 t296) else (goprompt_Document_TranslateRowColToIndex.j0 k a1 a2 t292 t295 t296))) = some (r1, r2, r3) := H
  have A4 := Aside0.mk A40
  clear A40
  have HC5 := Aside0.mk H
  clear H
  go_enter Tryz.func121, Tryz.ntmps121
  go_upto_if 12 with (first | ((with_reducible refine gate_callee (f := 90) rfl ?_); refine goesL_ (some 10) rfl rfl Tryz.func90 (by kernel_rfl) rfl #[.pointer (some ⟨g, 0, none⟩)] rfl (by (try simp only [List.map_toArray, List.map_cons, List.map_nil]); first | done | rfl | (simp only [List.length_drop, List.length_take]; rfl) | (simp only [Int.toNat_natCast, ByteArray.extract_zero_size]; rfl)) ?_; (with_reducible refine (goprompt_Document_lineStartIndexes.calls k g s0_0 s0_1 t292 t295 t296 w0 _ ?side1 ?side2 A4.out).mono ?_); (case side1 => repeat (first | (with_reducible first | exact HI0.out | apply IsS67.alloc | apply IsS67.drewN | apply IsS67.drew | apply IsS67.set_0 | apply IsS67.set_1) | exact HI0.out)); (case side2 => repeat (first | (with_reducible first | exact HB.out | apply below_alloc | apply pw_below_drewN | apply below_drew1 | refine below_set ?_ (IsS67.ge HI0.out)) | exact HB.out)); rintro e w6 ⟨v293, rfl, ho0, hi, hb, hk⟩; refine ⟨_, rfl, ?_⟩; have n0_ := Aside0.mk (Kd.R_lower ho0 (keep_size (w := w) (g := g) (row := none) (by repeat (first | (with_reducible first | exact HK.out | apply KeepBut.set_ | apply keep_drewN | apply keep_drew | apply keep_alloc) | exact HK.out)))); have n1_ := Aside0.mk (KeepBut.trans (by repeat (first | (with_reducible first | exact HK.out | apply KeepBut.set_ | apply keep_drewN | apply keep_drew | apply keep_alloc) | exact HK.out)) hk (.inl rfl)); have n2_ := Aside0.mk (hb); have n3_ := Aside0.mk (hi); clear HK; clear HB; clear HI0; have HO294 := n0_; have HK := n1_; have HB := n2_; have HI0 := n3_; clear n0_ n1_ n2_ n3_; (try clear hb); (try clear hb2); (try clear hk); (try clear hi); (try clear ho0)))
  (try simp only [Act.put, List.setIfInBounds_toArray, List.set_cons_zero, List.set_cons_succ])
  go_cut [1] (fun v1 wc => ∃ (kq : Nat) (x1_4 : Int), v1 = .int .i64 x1_4 ∧ Aside0 (goprompt_Document_TranslateRowColToIndex.j0 kq x1_4 a2 t292 t295 t296 = some (r1, r2, r3)) ∧ Aside0 (kq ≤ k) ∧ Aside0 (Kd.R (Kd.int .i64) 3 wc w.heap.size (fun _ => True) v293 t292) ∧ Aside0 (IsS67 w0 wc g t295 t296) ∧ Aside0 (KeepBut w wc g none) ∧ Aside0 (Below w0.heap.size w0 wc))
  case first =>
    have H := HC5.out
    clear HC5
    by_cases c7 : a1 < 0
    · rw [if_pos c7] at H
      have c7b0 : decide (a1 < 0) = true := decide_eq_true c7
      clear c7
      (first | rw [c7b0] | (simp only [i64_w, i32_w]; rw [c7b0]) | skip)
      have H' := Aside0.mk H
      clear H
      go_wp2
      go_meet
      case rel => exact ⟨_, (0), (by first | rfl | (simp; done) | (simp [*]; done)), H', ⟨by first | omega | exact Nat.le_refl _⟩, ⟨by (with_reducible repeat (first | apply Kd.R_alloc | apply Kd.R_drewN | apply Kd.R_drew)); exact HO294.out⟩, ⟨by repeat (first | (with_reducible first | exact HI0.out | apply IsS67.alloc | apply IsS67.drewN | apply IsS67.drew | apply IsS67.set_0 | apply IsS67.set_1) | exact HI0.out)⟩, ⟨by repeat (first | (with_reducible first | exact HK.out | apply KeepBut.set_ | apply keep_drewN | apply keep_drew | apply keep_alloc) | exact HK.out)⟩, ⟨by repeat (first | (with_reducible first | exact HB.out | apply below_alloc | apply pw_below_drewN | apply below_drew1 | refine below_set ?_ (IsS67.ge HI0.out)) | exact HB.out)⟩⟩
    · rw [if_neg c7] at H
      have c7b0 : decide (a1 < 0) = false := decide_eq_false c7
      clear c7
      (first | rw [c7b0] | (simp only [i64_w, i32_w]; rw [c7b0]) | skip)
      by_cases c8 : a1 > (t292.length : Int)
      · rw [if_pos c8] at H
        have c8b0 : decide ((t292.length : Int) < a1) = true := decide_eq_true c8
        clear c8
        have H' := Aside0.mk H
        clear H
        obtain ⟨Ao9, co9, eo9⟩ := Kd.R_slice HO294.out
        subst eo9
        go_wp2
        go_meet
        case rel => exact ⟨_, (wrap64 ((t292.length : Int) - 1)), (by first | rfl | (simp; done) | (simp [*]; done)), H', ⟨by first | omega | exact Nat.le_refl _⟩, ⟨by (with_reducible repeat (first | apply Kd.R_alloc | apply Kd.R_drewN | apply Kd.R_drew)); exact HO294.out⟩, ⟨by repeat (first | (with_reducible first | exact HI0.out | apply IsS67.alloc | apply IsS67.drewN | apply IsS67.drew | apply IsS67.set_0 | apply IsS67.set_1) | exact HI0.out)⟩, ⟨by repeat (first | (with_reducible first | exact HK.out | apply KeepBut.set_ | apply keep_drewN | apply keep_drew | apply keep_alloc) | exact HK.out)⟩, ⟨by repeat (first | (with_reducible first | exact HB.out | apply below_alloc | apply pw_below_drewN | apply below_drew1 | refine below_set ?_ (IsS67.ge HI0.out)) | exact HB.out)⟩⟩
      · rw [if_neg c8] at H
        have c8b0 : decide ((t292.length : Int) < a1) = false := decide_eq_false c8
        clear c8
        have H' := Aside0.mk H
        clear H
        obtain ⟨Ao10, co10, eo10⟩ := Kd.R_slice HO294.out
        subst eo10
        go_wp2
        go_meet
        case rel => exact ⟨_, (a1), (by first | rfl | (simp; done) | (simp [*]; done)), H', ⟨by first | omega | exact Nat.le_refl _⟩, ⟨by (with_reducible repeat (first | apply Kd.R_alloc | apply Kd.R_drewN | apply Kd.R_drew)); exact HO294.out⟩, ⟨by repeat (first | (with_reducible first | exact HI0.out | apply IsS67.alloc | apply IsS67.drewN | apply IsS67.drew | apply IsS67.set_0 | apply IsS67.set_1) | exact HI0.out)⟩, ⟨by repeat (first | (with_reducible first | exact HK.out | apply KeepBut.set_ | apply keep_drewN | apply keep_drew | apply keep_alloc) | exact HK.out)⟩, ⟨by repeat (first | (with_reducible first | exact HB.out | apply below_alloc | apply pw_below_drewN | apply below_drew1 | refine below_set ?_ (IsS67.ge HI0.out)) | exact HB.out)⟩⟩
  case rest =>
    clear HC5
    try clear c1
    try clear p2
    try clear p6
    try clear c7
    try clear c7b0
    try clear c8
    try clear c8b0
    try clear c9
    obtain ⟨kq, x1_4, rfl, HA, HJ4, HO_7, HI0, HK, HB⟩ := hcut
    cases kq with
    | zero => exact absurd HA.out (by simp [goprompt_Document_TranslateRowColToIndex.j0])
    | succ kj4 =>
      have H := HA.out
      clear HA
      simp only [goprompt_Document_TranslateRowColToIndex.j0] at H
      by_cases c11 : 0 ≤ x1_4
      · rw [if_pos c11] at H
        have c11b0 : decide (0 ≤ x1_4) = true := decide_eq_true c11
        clear c11
        by_cases c12 : x1_4 < (t292.length : Int)
        · rw [if_pos c12] at H
          have c12b0 : decide (x1_4 < (t292.length : Int)) = true := decide_eq_true c12
          clear c12
          replace H := Option.bind_eq_some_iff.mp H
          obtain ⟨⟨t298, t301, t302⟩, A130, H⟩ := H
          replace H : (if x1_4 < (t298.length : Int) then (if a2 > 0 then (goprompt_Document_TranslateRowColToIndex.j1 kj4 a2 (rd t292 x1_4) (rdOf ByteArray.empty t298 x1_4) true t301 t302) else (goprompt_Document_TranslateRowColToIndex.j1 kj4 a2 (rd t292 x1_4) (rdOf ByteArray.empty t298 x1_4) (decide (((rdOf ByteArray.empty t298 x1_4).size : Int) > 0)) t301 t302)) else (none)) = some (r1, r2, r3) := H
          have A13 := Aside0.mk A130
          clear A130
          by_cases c14 : x1_4 < (t298.length : Int)
          · rw [if_pos c14] at H
            have c14b0 : decide (x1_4 < (t298.length : Int)) = true := decide_eq_true c14
            clear c14
            have HC15 := Aside0.mk H
            clear H
            obtain ⟨Ao16, co16, eo16⟩ := Kd.R_slice HO_7.out
            subst eo16
            have p297 : 0 ≤ (x1_4 : Int) := of_decide_eq_true (by first | (with_reducible assumption) | assumption)
            have q297 : x1_4 < (t292.length : Int) := of_decide_eq_true (by first | (with_reducible assumption) | assumption)
            obtain ⟨ad297, e297, hx297_0⟩ := Kd.at_int (Kd.R_reads' HO_7.out).2.2 x1_4 p297 q297
            cases e297
            replace p297 := eq_true p297
            replace q297 := eq_true q297
            go_upto_region 8 with (first | ((with_reducible refine gate_callee (f := 36) rfl ?_); refine goesL_ (some 25) rfl rfl Tryz.func36 (by kernel_rfl) rfl #[.pointer (some ⟨g, 0, none⟩)] rfl (by (try simp only [List.map_toArray, List.map_cons, List.map_nil]); first | done | rfl | (simp only [List.length_drop, List.length_take]; rfl) | (simp only [Int.toNat_natCast, ByteArray.extract_zero_size]; rfl)) ?_; (with_reducible refine (goprompt_Document_Lines.calls kj4 g t295 t296 t298 t301 t302 w0 _ ?side1 ?side2 A13.out).mono ?_); (case side1 => repeat (first | (with_reducible first | exact HI0.out | apply IsS67.alloc | apply IsS67.drewN | apply IsS67.drew | apply IsS67.set_0 | apply IsS67.set_1) | exact HI0.out)); (case side2 => repeat (first | (with_reducible first | exact HB.out | apply below_alloc | apply pw_below_drewN | apply below_drew1 | refine below_set ?_ (IsS67.ge HI0.out)) | exact HB.out)); rintro e w17 ⟨v299, rfl, ho0, hi, hb, hk⟩; refine ⟨_, rfl, ?_⟩; have n0_ := Aside0.mk (Kd.R_mono (Kd.R_keep (IsS67.apart (show IsS67 w0 _ g t295 t296 from by repeat (first | (with_reducible first | exact HI0.out | apply IsS67.alloc | apply IsS67.drewN | apply IsS67.drew | apply IsS67.set_0 | apply IsS67.set_1) | exact HI0.out)) (by (with_reducible repeat (first | apply Kd.R_alloc | apply Kd.R_drewN | apply Kd.R_drew)); exact HO_7.out) (by decide)) hk (fun _ h => h.2)) (fun _ h => h.1)); have n1_ := Aside0.mk (Kd.R_lower ho0 (keep_size (w := w) (g := g) (row := none) (by repeat (first | (with_reducible first | exact HK.out | apply KeepBut.set_ | apply keep_drewN | apply keep_drew | apply keep_alloc) | exact HK.out)))); have n2_ := Aside0.mk (KeepBut.trans (by repeat (first | (with_reducible first | exact HK.out | apply KeepBut.set_ | apply keep_drewN | apply keep_drew | apply keep_alloc) | exact HK.out)) hk (.inl rfl)); have n3_ := Aside0.mk (hb); have n4_ := Aside0.mk (hi); clear HO_7; clear HK; clear HB; clear HI0; have HO_7 := n0_; have HO300 := n1_; have HK := n2_; have HB := n3_; have HI0 := n4_; clear n0_ n1_ n2_ n3_ n4_; (try clear hb); (try clear hb2); (try clear hk); (try clear hi); (try clear ho0); obtain ⟨Ao18, co18, eo18⟩ := Kd.R_slice HO300.out; subst eo18; have p303 : 0 ≤ (x1_4 : Int) := of_decide_eq_true (by first | (with_reducible assumption) | assumption); have q303 : x1_4 < (t298.length : Int) := of_decide_eq_true (by first | (with_reducible assumption) | assumption); obtain ⟨ad303, e303, hx303_0⟩ := Kd.at_string (Kd.R_reads' HO300.out).2.2 x1_4 p303 q303; cases e303; replace p303 := eq_true p303; replace q303 := eq_true q303))
            (try simp only [Act.put, List.setIfInBounds_toArray, List.set_cons_zero, List.set_cons_succ])
            go_cut [35] (fun v35 wc => ∃ (kq : Nat) (x35_14 : Bool), v35 = .bool x35_14 ∧ Aside0 (goprompt_Document_TranslateRowColToIndex.j1 kq a2 (rd t292 x1_4) (rdOf ByteArray.empty t298 x1_4) x35_14 t301 t302 = some (r1, r2, r3)) ∧ Aside0 (kq ≤ kj4) ∧ Aside0 (IsS67 w0 wc g t301 t302) ∧ Aside0 (KeepBut w wc g none) ∧ Aside0 (Below w0.heap.size w0 wc))
            case first =>
              have H := HC15.out
              clear HC15
              by_cases c19 : a2 > 0
              · rw [if_pos c19] at H
                have c19b0 : decide (0 < a2) = true := decide_eq_true c19
                clear c19
                (first | rw [c19b0] | (simp only [i64_w, i32_w]; rw [c19b0]) | skip)
                have H' := Aside0.mk H
                clear H
                go_wp2
                go_meet
                case rel => exact ⟨_, (true), (by first | rfl | (simp; done) | (simp [*]; done)), H', ⟨by have := HJ4.out; first | omega | exact Nat.le_refl _⟩, ⟨by repeat (first | (with_reducible first | exact HI0.out | apply IsS67.alloc | apply IsS67.drewN | apply IsS67.drew | apply IsS67.set_0 | apply IsS67.set_1) | exact HI0.out)⟩, ⟨by repeat (first | (with_reducible first | exact HK.out | apply KeepBut.set_ | apply keep_drewN | apply keep_drew | apply keep_alloc) | exact HK.out)⟩, ⟨by repeat (first | (with_reducible first | exact HB.out | apply below_alloc | apply pw_below_drewN | apply below_drew1 | refine below_set ?_ (IsS67.ge HI0.out)) | exact HB.out)⟩⟩
              · rw [if_neg c19] at H
                have c19b0 : decide (0 < a2) = false := decide_eq_false c19
                clear c19
                (first | rw [c19b0] | (simp only [i64_w, i32_w]; rw [c19b0]) | skip)
                have H' := Aside0.mk H
                clear H
                go_wp2
                go_meet
                case rel => exact ⟨_, (decide (((rdOf ByteArray.empty t298 x1_4).size : Int) > 0)), (by first | rfl | (simp; done) | (simp [*]; done)), H', ⟨by have := HJ4.out; first | omega | exact Nat.le_refl _⟩, ⟨by repeat (first | (with_reducible first | exact HI0.out | apply IsS67.alloc | apply IsS67.drewN | apply IsS67.drew | apply IsS67.set_0 | apply IsS67.set_1) | exact HI0.out)⟩, ⟨by repeat (first | (with_reducible first | exact HK.out | apply KeepBut.set_ | apply keep_drewN | apply keep_drew | apply keep_alloc) | exact HK.out)⟩, ⟨by repeat (first | (with_reducible first | exact HB.out | apply below_alloc | apply pw_below_drewN | apply below_drew1 | refine below_set ?_ (IsS67.ge HI0.out)) | exact HB.out)⟩⟩
            case rest =>
              clear HC15
              try clear c1
              try clear p2
              try clear q2
              try clear hx2
              try clear c3
              try clear p3
              try clear q3
              try clear hx3
              try clear p6
              try clear c7
              try clear c7b0
              try clear c8
              try clear c8b0
              try clear c9
              try clear c11
              try clear c11b0
              try clear c12
              try clear c12b0
              try clear c14
              try clear c14b0
              try clear c19
              try clear c19b0
              try clear hx297_0
              try clear hx303_0
              try clear p2
              try clear p297
              try clear p303
              try clear p6
              try clear q297
              try clear q303
              obtain ⟨kq, x35_14, rfl, HA, HJ14, HI0, HK, HB⟩ := hcut
              cases kq with
              | zero => exact absurd HA.out (by simp [goprompt_Document_TranslateRowColToIndex.j1])
              | succ kj14 =>
                have H := HA.out
                clear HA
                simp only [goprompt_Document_TranslateRowColToIndex.j1] at H
                have HC20 := Aside0.mk H
                clear H
                go_upto_if 35 with (fail)
                go_cut [6] (fun v6 wc => ∃ (kq : Nat) (x6_19 : Int), v6 = .int .i64 x6_19 ∧ Aside0 (goprompt_Document_TranslateRowColToIndex.j2 kq x6_19 t301 t302 = some (r1, r2, r3)) ∧ Aside0 (kq ≤ kj14) ∧ Aside0 (IsS67 w0 wc g t301 t302) ∧ Aside0 (KeepBut w wc g none) ∧ Aside0 (Below w0.heap.size w0 wc))
                case first =>
                  have H := HC20.out
                  clear HC20
                  by_cases c21 : x35_14 = true
                  · subst c21
                    have H1 : (if a2 > ((rdOf ByteArray.empty t298 x1_4).size : Int) then (goprompt_Document_TranslateRowColToIndex.j2 kj14 (wrap64 ((rd t292 x1_4) + ((rdOf ByteArray.empty t298 x1_4).size : Int))) t301 t302) else (goprompt_Document_TranslateRowColToIndex.j2 kj14 (wrap64 ((rd t292 x1_4) + a2)) t301 t302)) = some (r1, r2, r3) := by rw [if_pos rfl] at H; exact H
                    clear H
                    have H := H1
                    clear H1
                    by_cases c22 : a2 > ((rdOf ByteArray.empty t298 x1_4).size : Int)
                    · rw [if_pos c22] at H
                      have c22b0 : decide (((rdOf ByteArray.empty t298 x1_4).size : Int) < a2) = true := decide_eq_true c22
                      clear c22
                      (first | rw [c22b0] | (simp only [i64_w, i32_w]; rw [c22b0]) | skip)
                      have H' := Aside0.mk H
                      clear H
                      go_wp2
                      go_meet
                      case rel => exact ⟨_, (wrap64 ((rd t292 x1_4) + ((rdOf ByteArray.empty t298 x1_4).size : Int))), (by first | rfl | (simp; done) | (simp [*]; done)), H', ⟨by have := HJ4.out; have := HJ14.out; first | omega | exact Nat.le_refl _⟩, ⟨by repeat (first | (with_reducible first | exact HI0.out | apply IsS67.alloc | apply IsS67.drewN | apply IsS67.drew | apply IsS67.set_0 | apply IsS67.set_1) | exact HI0.out)⟩, ⟨by repeat (first | (with_reducible first | exact HK.out | apply KeepBut.set_ | apply keep_drewN | apply keep_drew | apply keep_alloc) | exact HK.out)⟩, ⟨by repeat (first | (with_reducible first | exact HB.out | apply below_alloc | apply pw_below_drewN | apply below_drew1 | refine below_set ?_ (IsS67.ge HI0.out)) | exact HB.out)⟩⟩
                    · rw [if_neg c22] at H
                      have c22b0 : decide (((rdOf ByteArray.empty t298 x1_4).size : Int) < a2) = false := decide_eq_false c22
                      clear c22
                      (first | rw [c22b0] | (simp only [i64_w, i32_w]; rw [c22b0]) | skip)
                      have H' := Aside0.mk H
                      clear H
                      go_wp2
                      go_meet
                      case rel => exact ⟨_, (wrap64 ((rd t292 x1_4) + a2)), (by first | rfl | (simp; done) | (simp [*]; done)), H', ⟨by have := HJ4.out; have := HJ14.out; first | omega | exact Nat.le_refl _⟩, ⟨by repeat (first | (with_reducible first | exact HI0.out | apply IsS67.alloc | apply IsS67.drewN | apply IsS67.drew | apply IsS67.set_0 | apply IsS67.set_1) | exact HI0.out)⟩, ⟨by repeat (first | (with_reducible first | exact HK.out | apply KeepBut.set_ | apply keep_drewN | apply keep_drew | apply keep_alloc) | exact HK.out)⟩, ⟨by repeat (first | (with_reducible first | exact HB.out | apply below_alloc | apply pw_below_drewN | apply below_drew1 | refine below_set ?_ (IsS67.ge HI0.out)) | exact HB.out)⟩⟩
                  · replace c21 := Bool.eq_false_iff.mpr c21
                    subst c21
                    have H1 : (goprompt_Document_TranslateRowColToIndex.j2 kj14 (rd t292 x1_4) t301 t302) = some (r1, r2, r3) := by rw [if_neg (show ¬ (false = true) by decide)] at H; exact H
                    clear H
                    have H := H1
                    clear H1
                    have H' := Aside0.mk H
                    clear H
                    go_wp2
                    go_meet
                    case rel => exact ⟨_, ((rd t292 x1_4)), (by first | rfl | (simp; done) | (simp [*]; done)), H', ⟨by have := HJ4.out; have := HJ14.out; first | omega | exact Nat.le_refl _⟩, ⟨by repeat (first | (with_reducible first | exact HI0.out | apply IsS67.alloc | apply IsS67.drewN | apply IsS67.drew | apply IsS67.set_0 | apply IsS67.set_1) | exact HI0.out)⟩, ⟨by repeat (first | (with_reducible first | exact HK.out | apply KeepBut.set_ | apply keep_drewN | apply keep_drew | apply keep_alloc) | exact HK.out)⟩, ⟨by repeat (first | (with_reducible first | exact HB.out | apply below_alloc | apply pw_below_drewN | apply below_drew1 | refine below_set ?_ (IsS67.ge HI0.out)) | exact HB.out)⟩⟩
                case rest =>
                  clear HC20
                  try clear c1
                  try clear c2
                  try clear p2
                  try clear q2
                  try clear hx2
                  try clear c3
                  try clear p3
                  try clear q3
                  try clear hx3
                  try clear p6
                  try clear c7
                  try clear c7b0
                  try clear c8
                  try clear c8b0
                  try clear c9
                  try clear c11
                  try clear c11b0
                  try clear c12
                  try clear c12b0
                  try clear c14
                  try clear c14b0
                  try clear c19
                  try clear c19b0
                  try clear c21
                  try clear c22
                  try clear c22b0
                  try clear hx297_0
                  try clear hx303_0
                  try clear p2
                  try clear p297
                  try clear p3
                  try clear p303
                  try clear p6
                  try clear q2
                  try clear q297
                  try clear q3
                  try clear q303
                  obtain ⟨kq, x6_19, rfl, HA, HJ19, HI0, HK, HB⟩ := hcut
                  cases kq with
                  | zero => exact absurd HA.out (by simp [goprompt_Document_TranslateRowColToIndex.j2])
                  | succ kj19 =>
                    have H := HA.out
                    clear HA
                    simp only [goprompt_Document_TranslateRowColToIndex.j2] at H
                    by_cases c23 : x6_19 > (t301.size : Int)
                    · rw [if_pos c23] at H
                      have c23b0 : decide ((t301.size : Int) < x6_19) = true := decide_eq_true c23
                      clear c23
                      by_cases c24 : (t301.size : Int) < 0
                      · rw [if_pos c24] at H
                        have c24b0 : decide ((t301.size : Int) < 0) = true := decide_eq_true c24
                        have c24b1 : decide (t301.size < 0) = true := decide_eq_true (by omega)
                        clear c24
                        simp only [Option.some.injEq, Prod.mk.injEq] at H
                        obtain ⟨rfl, rfl, rfl⟩ := H
                        obtain ⟨HGz25, hgz25⟩ := HI0.out
                        have hcz25_0 := cellS67_0 HGz25
                        have hcz25_1 := cellS67_1 HGz25
                        have hfz25_0 := blk_frozen HGz25 0
                        have hfz25_1 := blk_frozen HGz25 1
                        clear HGz25 hgz25
                        go_wp2
                        go_ret
                        exact ⟨by first | rfl | (simp [errW_none, errW_some] <;> rfl) | (simp [*, errW_none, errW_some] <;> rfl), by repeat (first | (with_reducible first | exact HI0.out | apply IsS67.alloc | apply IsS67.drewN | apply IsS67.drew | apply IsS67.set_0 | apply IsS67.set_1) | exact HI0.out), by repeat (first | (with_reducible first | exact HB.out | apply below_alloc | apply pw_below_drewN | apply below_drew1 | refine below_set ?_ (IsS67.ge HI0.out)) | exact HB.out), by repeat (first | (with_reducible first | exact HK.out | apply KeepBut.set_ | apply keep_drewN | apply keep_drew | apply keep_alloc) | exact HK.out)⟩
                      · rw [if_neg c24] at H
                        have c24b0 : decide ((t301.size : Int) < 0) = false := decide_eq_false c24
                        have c24b1 : decide (t301.size < 0) = false := decide_eq_false (by omega)
                        clear c24
                        simp only [Option.some.injEq, Prod.mk.injEq] at H
                        obtain ⟨rfl, rfl, rfl⟩ := H
                        obtain ⟨HGz26, hgz26⟩ := HI0.out
                        have hcz26_0 := cellS67_0 HGz26
                        have hcz26_1 := cellS67_1 HGz26
                        have hfz26_0 := blk_frozen HGz26 0
                        have hfz26_1 := blk_frozen HGz26 1
                        clear HGz26 hgz26
                        go_wp2
                        go_ret
                        exact ⟨by first | rfl | (simp [errW_none, errW_some] <;> rfl) | (simp [*, errW_none, errW_some] <;> rfl), by repeat (first | (with_reducible first | exact HI0.out | apply IsS67.alloc | apply IsS67.drewN | apply IsS67.drew | apply IsS67.set_0 | apply IsS67.set_1) | exact HI0.out), by repeat (first | (with_reducible first | exact HB.out | apply below_alloc | apply pw_below_drewN | apply below_drew1 | refine below_set ?_ (IsS67.ge HI0.out)) | exact HB.out), by repeat (first | (with_reducible first | exact HK.out | apply KeepBut.set_ | apply keep_drewN | apply keep_drew | apply keep_alloc) | exact HK.out)⟩
                    · rw [if_neg c23] at H
                      have c23b0 : decide ((t301.size : Int) < x6_19) = false := decide_eq_false c23
                      clear c23
                      by_cases c27 : x6_19 < 0
                      · rw [if_pos c27] at H
                        have c27b0 : decide (x6_19 < 0) = true := decide_eq_true c27
                        clear c27
                        simp only [Option.some.injEq, Prod.mk.injEq] at H
                        obtain ⟨rfl, rfl, rfl⟩ := H
                        obtain ⟨HGz28, hgz28⟩ := HI0.out
                        have hcz28_0 := cellS67_0 HGz28
                        have hcz28_1 := cellS67_1 HGz28
                        have hfz28_0 := blk_frozen HGz28 0
                        have hfz28_1 := blk_frozen HGz28 1
                        clear HGz28 hgz28
                        go_wp2
                        go_ret
                        exact ⟨by first | rfl | (simp [errW_none, errW_some] <;> rfl) | (simp [*, errW_none, errW_some] <;> rfl), by repeat (first | (with_reducible first | exact HI0.out | apply IsS67.alloc | apply IsS67.drewN | apply IsS67.drew | apply IsS67.set_0 | apply IsS67.set_1) | exact HI0.out), by repeat (first | (with_reducible first | exact HB.out | apply below_alloc | apply pw_below_drewN | apply below_drew1 | refine below_set ?_ (IsS67.ge HI0.out)) | exact HB.out), by repeat (first | (with_reducible first | exact HK.out | apply KeepBut.set_ | apply keep_drewN | apply keep_drew | apply keep_alloc) | exact HK.out)⟩
                      · rw [if_neg c27] at H
                        have c27b0 : decide (x6_19 < 0) = false := decide_eq_false c27
                        clear c27
                        simp only [Option.some.injEq, Prod.mk.injEq] at H
                        obtain ⟨rfl, rfl, rfl⟩ := H
                        obtain ⟨HGz29, hgz29⟩ := HI0.out
                        have hcz29_0 := cellS67_0 HGz29
                        have hcz29_1 := cellS67_1 HGz29
                        have hfz29_0 := blk_frozen HGz29 0
                        have hfz29_1 := blk_frozen HGz29 1
                        clear HGz29 hgz29
                        go_wp2
                        go_ret
                        exact ⟨by first | rfl | (simp [errW_none, errW_some] <;> rfl) | (simp [*, errW_none, errW_some] <;> rfl), by repeat (first | (with_reducible first | exact HI0.out | apply IsS67.alloc | apply IsS67.drewN | apply IsS67.drew | apply IsS67.set_0 | apply IsS67.set_1) | exact HI0.out), by repeat (first | (with_reducible first | exact HB.out | apply below_alloc | apply pw_below_drewN | apply below_drew1 | refine below_set ?_ (IsS67.ge HI0.out)) | exact HB.out), by repeat (first | (with_reducible first | exact HK.out | apply KeepBut.set_ | apply keep_drewN | apply keep_drew | apply keep_alloc) | exact HK.out)⟩
          · rw [if_neg c14] at H
            exact absurd H (by simp)
        · rw [if_neg c12] at H
          exact absurd H (by simp)
      · rw [if_neg c11] at H
        exact absurd H (by simp)
end Go.Proofs.YtkfmjkiefckgoaaGreatDoor.PAroundOf
