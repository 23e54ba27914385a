/- Printed by a program of this seat (xprint) out of the translation: Go functions as plain functions, and the walks that show them; no condition. -/
import Derived.Test.YtkfmjkiefckgoaaGreatDoorQPAroundOfx0
import Derived.Test.YtkfmjkiefckgoaaGreatDoorQHBisectR
import Derived.Test.YtkfmjkiefckgoaaGreatDoorQHIndexByte
import Derived.Test.YtkfmjkiefckgoaaGreatDoorQHDocument
import Derived.Test.YtkfmjkiefckgoaaGreatDoorQPAroundOfx1
namespace Go.Proofs.YtkfmjkiefckgoaaGreatDoor.PAroundOf
open Go.RowKit Go.Proofs.YtkfmjkiefckgoaaGreatDoor.H Go.Proofs.YtkfmjkiefckgoaaGreatDoor.R Go.Proofs.YtkfmjkiefckgoaaGreatDoorW.PrintWords Go.Proofs.YtkfmjkiefckgoaaGreatDoorW.PrintLast Go.Proofs.YtkfmjkiefckgoaaGreatDoorW.PrintMore
attribute [local go_sem] max2_int min2_int max_two min_two max_three min_three max_four min_four   -- for this text's walks alone
set_option linter.unusedVariables false
set_option linter.unusedSimpArgs false
/-! ### goprompt_Document_lineStartIndexes: function 90 -/
mutual
def goprompt_Document_lineStartIndexes.l0 : Nat → Int → List Int → List ByteArray → Int → Int → ByteArray → Int → Option (List Int × ByteArray × Int)
  | 0, _, _, _, _, _, _, _ => none
  | k + 1, x3, x4, x16, x17, x18, x1000, x1001 => if x18 < x17 then (if 0 ≤ x18 then (if x18 < (x16.length : Int) then (if x18 < (x4.length : Int) then (goprompt_Document_lineStartIndexes.l0 k x3 (x4.set (x18 : Int).toNat ((rdOf ByteArray.empty x16 x18).size : Int)) x16 x17 (wrap64 (x18 + 1)) x1000 x1001) else (none)) else (none)) else (none)) else (if 0 ≤ (wrap64 (x3 + 1)) then (if (wrap64 (x3 + 1) : Int).toNat ≤ 35184372088832 then ((some (List.replicate (wrap64 (x3 + 1) : Int).toNat 0 : List Int)).bind fun y163 => (if 0 < (y163.length : Int) then (goprompt_Document_lineStartIndexes.l1 k x3 (y163.set (0 : Int).toNat 0) 0 x4 (x4.length : Int) 0 x1000 x1001) else (none))) else (none)) else (none))
def goprompt_Document_lineStartIndexes.l1 : Nat → Int → List Int → Int → List Int → Int → Int → ByteArray → Int → Option (List Int × ByteArray × Int)
  | 0, _, _, _, _, _, _, _, _ => none
  | k + 1, x3, x7, x8, x34, x35, x36, x1000, x1001 => if x36 < x35 then (if 0 ≤ x36 then (if x36 < (x34.length : Int) then (if 0 ≤ (wrap64 (x36 + 1)) then (if (wrap64 (x36 + 1)) < (x7.length : Int) then (goprompt_Document_lineStartIndexes.l1 k x3 (x7.set ((wrap64 (x36 + 1)) : Int).toNat (wrap64 (x8 + (wrap64 ((rd x34 x36) + 1))))) (wrap64 (x8 + (wrap64 ((rd x34 x36) + 1)))) x34 x35 (wrap64 (x36 + 1)) x1000 x1001) else (none)) else (none)) else (none)) else (none)) else (if x3 > 1 then (if 0 ≤ x3 then (if x3 ≤ (x7.length : Int) then (some ((x7.take (x3 : Int).toNat), x1000, x1001)) else (none)) else (none)) else (some (x7, x1000, x1001)))
end
def goprompt_Document_lineStartIndexes.f (k : Nat) (s0_0 : ByteArray) (s0_1 : Int) : Option (List Int × ByteArray × Int) := (goprompt_Document_LineCount.f k s0_0 s0_1).bind fun bt150 => (if 0 ≤ bt150.1 then (if (bt150.1 : Int).toNat ≤ 35184372088832 then ((goprompt_Document_Lines.f k bt150.2.1 bt150.2.2).bind fun bt156 => (goprompt_Document_lineStartIndexes.l0 k bt150.1 (List.replicate (bt150.1 : Int).toNat 0) bt156.1 (bt156.1.length : Int) 0 bt156.2.1 bt156.2.2)) else (none)) else (none))
theorem goprompt_Document_lineStartIndexes.mono_l : ∀ k, (∀ y0 y1 y2 y3 y4 y5 y6, LeO (goprompt_Document_lineStartIndexes.l0 k y0 y1 y2 y3 y4 y5 y6) (goprompt_Document_lineStartIndexes.l0 (k + 1) y0 y1 y2 y3 y4 y5 y6)) ∧ (∀ y0 y1 y2 y3 y4 y5 y6 y7, LeO (goprompt_Document_lineStartIndexes.l1 k y0 y1 y2 y3 y4 y5 y6 y7) (goprompt_Document_lineStartIndexes.l1 (k + 1) y0 y1 y2 y3 y4 y5 y6 y7))
  | 0 => ⟨fun _ _ _ _ _ _ _ r h => by simp [goprompt_Document_lineStartIndexes.l0] at h, fun _ _ _ _ _ _ _ _ r h => by simp [goprompt_Document_lineStartIndexes.l1] at h⟩
  | k + 1 => by
    obtain ⟨ih0, ih1⟩ := goprompt_Document_lineStartIndexes.mono_l k
    refine ⟨?_, ?_⟩
    · intro y0 y1 y2 y3 y4 y5 y6
      unfold goprompt_Document_lineStartIndexes.l0
      repeat' first
      | (with_reducible exact ih0 _ _ _ _ _ _ _)
      | (with_reducible exact ih1 _ _ _ _ _ _ _ _)
      | (with_reducible exact goprompt_Document_LineCount.mono _ _ _)
      | (with_reducible exact goprompt_Document_Lines.mono _ _ _)
      | (with_reducible exact LeO.refl _)
      | (with_reducible exact LeO.none _)
      | (with_reducible refine LeO.ite ?_ ?_)
      | (with_reducible refine LeO.bind ?_ (fun _ => ?_))
      | exact ih0 _ _ _ _ _ _ _
      | exact ih1 _ _ _ _ _ _ _ _
      | exact goprompt_Document_LineCount.mono _ _ _
      | exact goprompt_Document_Lines.mono _ _ _
      | exact LeO.none _
      | refine LeO.ite ?_ ?_
      | refine LeO.bind ?_ (fun _ => ?_)
    · intro y0 y1 y2 y3 y4 y5 y6 y7
      unfold goprompt_Document_lineStartIndexes.l1
      repeat' first
      | (with_reducible exact ih0 _ _ _ _ _ _ _)
      | (with_reducible exact ih1 _ _ _ _ _ _ _ _)
      | (with_reducible exact goprompt_Document_LineCount.mono _ _ _)
      | (with_reducible exact goprompt_Document_Lines.mono _ _ _)
      | (with_reducible exact LeO.refl _)
      | (with_reducible exact LeO.none _)
      | (with_reducible refine LeO.ite ?_ ?_)
      | (with_reducible refine LeO.bind ?_ (fun _ => ?_))
      | exact ih0 _ _ _ _ _ _ _
      | exact ih1 _ _ _ _ _ _ _ _
      | exact goprompt_Document_LineCount.mono _ _ _
      | exact goprompt_Document_Lines.mono _ _ _
      | exact LeO.none _
      | refine LeO.ite ?_ ?_
      | refine LeO.bind ?_ (fun _ => ?_)
theorem goprompt_Document_lineStartIndexes.mono : ∀ a0 a1 k, LeO (goprompt_Document_lineStartIndexes.f k a0 a1) (goprompt_Document_lineStartIndexes.f (k + 1) a0 a1) := by
  intro a0 a1 k
  obtain ⟨ih0, ih1⟩ := goprompt_Document_lineStartIndexes.mono_l k
  unfold goprompt_Document_lineStartIndexes.f
  repeat' first
      | (with_reducible exact ih0 _ _ _ _ _ _ _)
      | (with_reducible exact ih1 _ _ _ _ _ _ _ _)
      | (with_reducible exact goprompt_Document_LineCount.mono _ _ _)
      | (with_reducible exact goprompt_Document_Lines.mono _ _ _)
      | (with_reducible exact LeO.refl _)
      | (with_reducible exact LeO.none _)
      | (with_reducible refine LeO.ite ?_ ?_)
      | (with_reducible refine LeO.bind ?_ (fun _ => ?_))
      | exact ih0 _ _ _ _ _ _ _
      | exact ih1 _ _ _ _ _ _ _ _
      | exact goprompt_Document_LineCount.mono _ _ _
      | exact goprompt_Document_Lines.mono _ _ _
      | exact LeO.none _
      | refine LeO.ite ?_ ?_
      | refine LeO.bind ?_ (fun _ => ?_)
set_option maxHeartbeats 8000000 in
set_option maxRecDepth 100000 in
theorem goprompt_Document_lineStartIndexes.calls (k : Nat) (g : Nat) (s0_0 : ByteArray) (s0_1 : Int) (r1 : List Int) (r2 : ByteArray) (r3 : Int) (w0 w : World) (hI : IsS67 w0 w g s0_0 s0_1) (hB : Below w0.heap.size w0 w) (h : goprompt_Document_lineStartIndexes.f k s0_0 s0_1 = some (r1, r2, r3)) :
    Calls Tryz.prog 90 #[.pointer (some ⟨g, 0, none⟩)] w fun e w' => ∃ v0_ : Value, e = .returned (v0_) ∧ Kd.R (Kd.int .i64) 3 w' w.heap.size (fun _ => True) v0_ r1 ∧ IsS67 w0 w' g r2 r3 ∧ Below w0.heap.size w0 w' ∧ KeepBut w w' g none := by
  have HI0 := Aside0.mk hI
  have HK := Aside0.mk (KeepBut.refl w g none)
  have HL := Aside0.mk hB.size
  clear hI
  have HW0 := Aside0.mk hB.size
  have HB := Aside0.mk hB
  clear hB
  have H : ((goprompt_Document_LineCount.f k s0_0 s0_1).bind fun bt150 => (if 0 ≤ bt150.1 then (if (bt150.1 : Int).toNat ≤ 35184372088832 then ((goprompt_Document_Lines.f k bt150.2.1 bt150.2.2).bind fun bt156 => (goprompt_Document_lineStartIndexes.l0 k bt150.1 (List.replicate (bt150.1 : Int).toNat 0) bt156.1 (bt156.1.length : Int) 0 bt156.2.1 bt156.2.2)) else (none)) else (none))) = some (r1, r2, r3) := h
  clear h
  replace H := Option.bind_eq_some_iff.mp H
  obtain ⟨⟨t150, t151, t152⟩, A20, H⟩ := H
  replace H : (if 0 ≤ t150 then (if (t150 : Int).toNat ≤ 35184372088832 then ((goprompt_Document_Lines.f k t151 t152).bind fun bt156 => (goprompt_Document_lineStartIndexes.l0 k t150 (List.replicate (t150 : Int).toNat 0) bt156.1 (bt156.1.length : Int) 0 bt156.2.1 bt156.2.2)) else (none)) else (none)) = some (r1, r2, r3) := H
  have A2 := Aside0.mk A20
  clear A20
  by_cases c3 : 0 ≤ t150
  · rw [if_pos c3] at H
    have c3b0 := eq_true c3
    have c3b1 : decide (0 ≤ t150) = true := decide_eq_true c3
    clear c3
    by_cases c4 : (t150 : Int).toNat ≤ 35184372088832
    · rw [if_pos c4] at H
      have c4b0 := eq_true c4
      have c4b1 : decide ((t150 : Int).toNat ≤ 35184372088832) = true := decide_eq_true c4
      clear c4
      obtain ⟨y153, hy153⟩ : ∃ y_ : List Int, y_ = (List.replicate (t150 : Int).toNat 0) := ⟨_, rfl⟩
      replace H : ((goprompt_Document_Lines.f k t151 t152).bind fun bt156 => (goprompt_Document_lineStartIndexes.l0 k t150 y153 bt156.1 (bt156.1.length : Int) 0 bt156.2.1 bt156.2.2)) = some (r1, r2, r3) := by first | (rw [hy153]; with_reducible exact H) | (have H2_ := (Option.bind_some _ _).symm.trans H; rw [hy153]; with_reducible exact H2_) | (have H2_ := (Option.bind_some _ _).symm.trans H; with_reducible exact H2_) | with_reducible exact H | (rw [hy153]; exact H) | exact H
      have Ny153 := Aside0.mk hy153
      clear hy153
      replace H := Option.bind_eq_some_iff.mp H
      obtain ⟨⟨t156, t159, t160⟩, A50, H⟩ := H
      replace H : (goprompt_Document_lineStartIndexes.l0 k t150 y153 t156 (t156.length : Int) 0 t159 t160) = some (r1, r2, r3) := H
      have A5 := Aside0.mk A50
      clear A50
      have H' := Aside0.mk H
      clear H
      go_enter Tryz.func90, Tryz.ntmps90
      go_wp2_with (first | ((with_reducible refine gate_callee (f := 58) rfl ?_); refine goesL_ (some 12) rfl rfl Tryz.func58 (by kernel_rfl) rfl #[.pointer (some ⟨g, 0, none⟩)] rfl (by (try simp only [List.map_toArray, List.map_cons, List.map_nil]); first | done | rfl | (simp only [List.length_drop, List.length_take]; rfl) | (simp only [Int.toNat_natCast, ByteArray.extract_zero_size]; rfl)) ?_; (with_reducible refine (goprompt_Document_LineCount.calls k g s0_0 s0_1 t150 t151 t152 w0 _ ?side1 ?side2 A2.out).mono ?_); (case side1 => repeat (first | (with_reducible first | exact HI0.out | apply IsS67.alloc | apply IsS67.drewN | apply IsS67.drew | apply IsS67.set_0 | apply IsS67.set_1) | exact HI0.out)); (case side2 => repeat (first | (with_reducible first | exact HB.out | apply below_alloc | apply pw_below_drewN | apply below_drew1 | refine below_set ?_ (IsS67.ge HI0.out)) | exact HB.out)); rintro e w6 ⟨rfl, hi, hb, hk⟩; refine ⟨_, rfl, ?_⟩; have n0_ := Aside0.mk (KeepBut.trans (by repeat (first | (with_reducible first | exact HK.out | apply KeepBut.set_ | apply keep_drewN | apply keep_drew | apply keep_alloc) | exact HK.out)) hk (.inl rfl)); have n1_ := Aside0.mk (hb); have n2_ := Aside0.mk (hi); clear HK; clear HB; clear HI0; have HK := n0_; have HB := n1_; have HI0 := n2_; clear n0_ n1_ n2_; (try clear hb); (try clear hb2); (try clear hk); (try clear hi)) | ((with_reducible refine gate_dst (N := 14) rfl ?_); refine Kd.R_make (Kd.int .i64) _ 3 rfl (N := 14) rfl 87 _ _ rfl t150 rfl rfl Tryz.underlying87 (.int .i64 0) 8 info3 rfl (by decide) (by omega) 0 (ok := fun _ => True) (okp := fun _ => True) rfl (fun _ hk => hk) trivial (of_decide_eq_true (by first | (with_reducible assumption) | assumption)) (Nat.le_trans (Nat.mul_le_mul_right _ (of_decide_eq_true (by first | (with_reducible assumption) | assumption) : t150.toNat ≤ 35184372088832)) (by omega)) (Below.refl _ _) (Nat.le_refl _) ?_; intro v154 w7 ho8 hb hg_ hnew_; clear hg_ hnew_; (first | rw [← Ny153.out] at ho8 | (simp only [Int.reduceToNat] at ho8; rw [← Ny153.out] at ho8)); have n0_ := Aside0.mk (Kd.R_lower ho8 (keep_size (w := w) (g := g) (row := none) (by repeat (first | (with_reducible first | exact HK.out | apply KeepBut.set_ | apply keep_drewN | apply keep_drew | apply keep_alloc) | exact HK.out)))); have n1_ := Aside0.mk (IsS67.below (by repeat (first | (with_reducible first | exact HI0.out | apply IsS67.alloc | apply IsS67.drewN | apply IsS67.drew | apply IsS67.set_0 | apply IsS67.set_1) | exact HI0.out)) hb); have n2_ := Aside0.mk (KeepBut.trans (by repeat (first | (with_reducible first | exact HK.out | apply KeepBut.set_ | apply keep_drewN | apply keep_drew | apply keep_alloc) | exact HK.out)) (KeepBut.of_below hb g none) (.inl rfl)); have n3_ := Aside0.mk (below_step (by repeat (first | (with_reducible first | exact HB.out | apply below_alloc | apply pw_below_drewN | apply below_drew1 | refine below_set ?_ (IsS67.ge HI0.out)) | exact HB.out)) hb); clear HI0; clear HK; clear HB; have HO155 := n0_; have HI0 := n1_; have HK := n2_; have HB := n3_; clear n0_ n1_ n2_ n3_; clear hb ho8) | ((with_reducible refine gate_callee (f := 36) rfl ?_); refine goesL_ (some 16) rfl rfl Tryz.func36 (by kernel_rfl) rfl #[.pointer (some ⟨g, 0, none⟩)] rfl (by (try simp only [List.map_toArray, List.map_cons, List.map_nil]); first | done | rfl | (simp only [List.length_drop, List.length_take]; rfl) | (simp only [Int.toNat_natCast, ByteArray.extract_zero_size]; rfl)) ?_; (with_reducible refine (goprompt_Document_Lines.calls k g t151 t152 t156 t159 t160 w0 _ ?side1 ?side2 A5.out).mono ?_); (case side1 => repeat (first | (with_reducible first | exact HI0.out | apply IsS67.alloc | apply IsS67.drewN | apply IsS67.drew | apply IsS67.set_0 | apply IsS67.set_1) | exact HI0.out)); (case side2 => repeat (first | (with_reducible first | exact HB.out | apply below_alloc | apply pw_below_drewN | apply below_drew1 | refine below_set ?_ (IsS67.ge HI0.out)) | exact HB.out)); rintro e w9 ⟨v157, rfl, ho0, hi, hb, hk⟩; refine ⟨_, rfl, ?_⟩; have n0_ := Aside0.mk (Kd.R_mono (Kd.R_keep (IsS67.apart (show IsS67 w0 _ g t151 t152 from by repeat (first | (with_reducible first | exact HI0.out | apply IsS67.alloc | apply IsS67.drewN | apply IsS67.drew | apply IsS67.set_0 | apply IsS67.set_1) | exact HI0.out)) (by (with_reducible repeat (first | apply Kd.R_alloc | apply Kd.R_drewN | apply Kd.R_drew)); exact HO155.out) (by decide)) hk (fun _ h => h.2)) (fun _ h => h.1)); have n1_ := Aside0.mk (Kd.R_lower ho0 (keep_size (w := w) (g := g) (row := none) (by repeat (first | (with_reducible first | exact HK.out | apply KeepBut.set_ | apply keep_drewN | apply keep_drew | apply keep_alloc) | exact HK.out)))); have n2_ := Aside0.mk (KeepBut.trans (by repeat (first | (with_reducible first | exact HK.out | apply KeepBut.set_ | apply keep_drewN | apply keep_drew | apply keep_alloc) | exact HK.out)) hk (.inl rfl)); have n3_ := Aside0.mk (hb); have n4_ := Aside0.mk (hi); clear HO155; clear HK; clear HB; clear HI0; have HO155 := n0_; have HO158 := n1_; have HK := n2_; have HB := n3_; have HI0 := n4_; clear n0_ n1_ n2_ n3_ n4_; (try clear hb); (try clear hb2); (try clear hk); (try clear hi); (try clear ho0); obtain ⟨Ao10, co10, eo10⟩ := Kd.R_slice HO158.out; subst eo10))
      go_loopg [18] k (fun kq v18 w' => ∃ (x4_1 : List Int) (x18_1 : Int), v18 = .int .i64 x18_1 ∧ Aside0 (goprompt_Document_lineStartIndexes.l0 kq t150 x4_1 t156 (t156.length : Int) x18_1 t159 t160 = some (r1, r2, r3)) ∧ Aside0 (kq ≤ k) ∧ Aside0 (Kd.R (Kd.int .i64) 3 w' w.heap.size (fun _ => True) v154 x4_1) ∧ Aside0 (Kd.R Kd.string 9 w' w.heap.size (fun _ => True) (.slice Ao10 t156.length co10) t156) ∧ Aside0 (IsS67 w0 w' g t159 t160) ∧ Aside0 (KeepBut w w' g none) ∧ Aside0 (Below w0.heap.size w0 w'))
      case atStart => exact ⟨(y153), (0), (by first | rfl | (simp; done) | (simp [*]; done)), H', ⟨Nat.le_refl _⟩, ⟨by (with_reducible repeat (first | apply Kd.R_alloc | apply Kd.R_drewN | apply Kd.R_drew)); exact HO155.out⟩, ⟨by (with_reducible repeat (first | apply Kd.R_alloc | apply Kd.R_drewN | apply Kd.R_drew)); exact HO158.out⟩, ⟨by repeat (first | (with_reducible first | exact HI0.out | apply IsS67.alloc | apply IsS67.drewN | apply IsS67.drew | apply IsS67.set_0 | apply IsS67.set_1) | exact HI0.out)⟩, ⟨by repeat (first | (with_reducible first | exact HK.out | apply KeepBut.set_ | apply keep_drewN | apply keep_drew | apply keep_alloc) | exact HK.out)⟩, ⟨by repeat (first | (with_reducible first | exact HB.out | apply below_alloc | apply pw_below_drewN | apply below_drew1 | refine below_set ?_ (IsS67.ge HI0.out)) | exact HB.out)⟩⟩
      case round =>
        clear H'
        try clear p2
        try clear c3
        try clear c3b0
        try clear c3b1
        try clear c4
        try clear c4b0
        try clear c4b1
        try clear c5
        try clear c9
        obtain ⟨x4_1, x18_1, rfl, HA, HK1, HO_4, HO_16, HI0, HK, HB⟩ := hrel
        cases gk with
        | zero => exact absurd HA.out (by simp [goprompt_Document_lineStartIndexes.l0])
        | succ k1 =>
          have H := HA.out
          clear HA
          simp only [goprompt_Document_lineStartIndexes.l0] at H
          by_cases c11 : x18_1 < (t156.length : Int)
          · rw [if_pos c11] at H
            have c11b0 : decide (x18_1 < (t156.length : Int)) = true := decide_eq_true c11
            clear c11
            by_cases c12 : 0 ≤ x18_1
            · rw [if_pos c12] at H
              have c12b0 : decide (0 ≤ x18_1) = true := decide_eq_true c12
              clear c12
              by_cases c13 : x18_1 < (t156.length : Int)
              · rw [if_pos c13] at H
                have c13b0 : decide (x18_1 < (t156.length : Int)) = true := decide_eq_true c13
                clear c13
                by_cases c14 : x18_1 < (x4_1.length : Int)
                · rw [if_pos c14] at H
                  have c14b0 : decide (x18_1 < (x4_1.length : Int)) = true := decide_eq_true c14
                  clear c14
                  obtain ⟨y162, hy162⟩ : ∃ y_ : List Int, y_ = (x4_1.set (x18_1 : Int).toNat ((rdOf ByteArray.empty t156 x18_1).size : Int)) := ⟨_, rfl⟩
                  replace H : (goprompt_Document_lineStartIndexes.l0 k1 t150 y162 t156 (t156.length : Int) (wrap64 (x18_1 + 1)) t159 t160) = some (r1, r2, r3) := by first | (rw [hy162]; with_reducible exact H) | (have H2_ := (Option.bind_some _ _).symm.trans H; rw [hy162]; with_reducible exact H2_) | (have H2_ := (Option.bind_some _ _).symm.trans H; with_reducible exact H2_) | with_reducible exact H | (rw [hy162]; exact H) | exact H
                  have Ny162 := Aside0.mk hy162
                  clear hy162
                  have H' := Aside0.mk H
                  clear H
                  have p161 : 0 ≤ (x18_1 : Int) := of_decide_eq_true (by first | (with_reducible assumption) | assumption)
                  have q161 : x18_1 < (t156.length : Int) := of_decide_eq_true (by first | (with_reducible assumption) | assumption)
                  obtain ⟨ad161, e161, hx161_0⟩ := Kd.at_string (Kd.R_reads' HO_16.out).2.2 x18_1 p161 q161
                  cases e161
                  replace p161 := eq_true p161
                  replace q161 := eq_true q161
                  have p15 : 0 ≤ (x18_1 : Int) := of_decide_eq_true (by first | (with_reducible assumption) | assumption)
                  have q15 : (x18_1 : Int) < ((x4_1.length : Int) : Int) := of_decide_eq_true (by first | (with_reducible assumption) | assumption)
                  obtain ⟨go15, co15, eo15, gb15, gl15, cl15, HG15⟩ := Kd.R_form HO_4.out (by omega)
                  (first | cases eo15 | (injection eo15 with ea_ en_ ec_; (first | subst ea_ | (injection ea_ with ea_; subst ea_)); subst ec_; clear en_))
                  have GB15 := Aside0.mk gb15
                  have GG15 := Aside0.mk HG15
                  clear gb15 gl15 HG15
                  obtain ⟨hx15_0, hf15_0⟩ := Kd.R_celln 0 HO_4.out (x18_1 : Int) p15 q15
                  replace p15 := eq_true p15
                  replace q15 := eq_true q15
                  have HP16 := Kd.R_putg HO_4.out (x18_1 : Int) ((rdOf ByteArray.empty t156 x18_1).size : Int)
                  go_wp2_with (first | ((with_reducible refine gate_store (t := 3) (p := 27) rfl ?_); refine store_event (t := 3) (p := 27) (v := ?vo_w17) (w1 := (wr.setCell ⟨go15, (x18_1 : Int).toNat, none⟩ (.int .i64 ((rdOf ByteArray.empty t156 x18_1).size : Int)))) ?hg ?ho ?hn ?hr ?_; (case ho => rfl); (case hg => rfl); (case hn => rfl); (case hr => first | (go_simp; done) | (go_simp; rfl)); intro w17 hw; have hg : wr.grownBy w17 (some go15) := (by rw [hw]; exact HP16.2); have hp_ : Kd.R (Kd.int .i64) 3 w17 w.heap.size (fun _ => True) (.slice (some ⟨go15, 0, none⟩) x4_1.length co15) y162 := (by rw [hw, Ny162.out]; exact HP16.1); clear HP16; have n0_ := Aside0.mk (hp_); have n1_ := Aside0.mk (Kd.R_over' (v := (.slice (some ⟨go15, 0, none⟩) x4_1.length co15)) (by (with_reducible repeat (first | apply Kd.R_alloc | apply Kd.R_drewN | apply Kd.R_drew)); exact HO_16.out) (Kd.R_typed HO_4.out) (by decide) hg); have n2_ := Aside0.mk (IsS67.grown (by repeat (first | (with_reducible first | exact HI0.out | apply IsS67.alloc | apply IsS67.drewN | apply IsS67.drew | apply IsS67.set_0 | apply IsS67.set_1) | exact HI0.out)) hg (IsS67.own_ne HI0.out HO_4.out (by decide))); have n3_ := Aside0.mk ((by rw [hw]; exact below_set (HB.out) (Nat.le_trans HL.out GB15.out) : Below w0.heap.size w0 w17)); have n4_ := Aside0.mk (KeepBut.trans (by repeat (first | (with_reducible first | exact HK.out | apply KeepBut.set_ | apply keep_drewN | apply keep_drew | apply keep_alloc) | exact HK.out)) (KeepBut.of_grown hg g) (Kd.R_base2 HO_4.out)); clear HO_4; clear HO_16; clear HI0; clear HB; clear HK; have HO_4 := n0_; have HO_16 := n1_; have HI0 := n2_; have HB := n3_; have HK := n4_; clear n0_ n1_ n2_ n3_ n4_; clear hg hw hp_))
                  go_roundg k1
                  case measure => have := HK1.out; omega
                  case rel => exact ⟨(y162), (wrap64 (x18_1 + 1)), (by first | rfl | (simp; done) | (simp [*]; done)), H', ⟨by have := HK1.out; omega⟩, ⟨by (with_reducible repeat (first | apply Kd.R_alloc | apply Kd.R_drewN | apply Kd.R_drew)); exact HO_4.out⟩, ⟨by (with_reducible repeat (first | apply Kd.R_alloc | apply Kd.R_drewN | apply Kd.R_drew)); exact HO_16.out⟩, ⟨by repeat (first | (with_reducible first | exact HI0.out | apply IsS67.alloc | apply IsS67.drewN | apply IsS67.drew | apply IsS67.set_0 | apply IsS67.set_1) | exact HI0.out)⟩, ⟨by repeat (first | (with_reducible first | exact HK.out | apply KeepBut.set_ | apply keep_drewN | apply keep_drew | apply keep_alloc) | exact HK.out)⟩, ⟨by repeat (first | (with_reducible first | exact HB.out | apply below_alloc | apply pw_below_drewN | apply below_drew1 | refine below_set ?_ (IsS67.ge HI0.out)) | exact HB.out)⟩⟩
                · rw [if_neg c14] at H
                  exact absurd H (by simp)
              · rw [if_neg c13] at H
                exact absurd H (by simp)
            · rw [if_neg c12] at H
              exact absurd H (by simp)
          · rw [if_neg c11] at H
            have c11b0 : decide (x18_1 < (t156.length : Int)) = false := decide_eq_false c11
            clear c11
            obtain ⟨ji18, hji18⟩ : ∃ j_ : Int, (wrap64 (t150 + 1)) = j_ := ⟨_, rfl⟩
            replace H : (if 0 ≤ (ji18) then (if (ji18 : Int).toNat ≤ 35184372088832 then ((some (List.replicate (ji18 : Int).toNat 0 : List Int)).bind fun y163 => (if 0 < (y163.length : Int) then (goprompt_Document_lineStartIndexes.l1 k1 t150 (y163.set (0 : Int).toNat 0) 0 x4_1 (x4_1.length : Int) 0 t159 t160) else (none))) else (none)) else (none)) = some (r1, r2, r3) := by first | (rw [hji18] at H; exact H) | (simp only [hji18] at H ⊢; exact H)
            have hji18w : (IntKind.i64.wrap (t150 + 1)) = ji18 := (i64_w _).trans hji18
            by_cases c19 : 0 ≤ (ji18)
            · rw [if_pos c19] at H
              have c19b0 := eq_true c19
              have c19b1 : decide (0 ≤ (ji18)) = true := decide_eq_true c19
              clear c19
              by_cases c20 : (ji18 : Int).toNat ≤ 35184372088832
              · rw [if_pos c20] at H
                have c20b0 := eq_true c20
                have c20b1 : decide ((ji18 : Int).toNat ≤ 35184372088832) = true := decide_eq_true c20
                clear c20
                obtain ⟨y163, hy163⟩ : ∃ y_ : List Int, y_ = (List.replicate (ji18 : Int).toNat 0) := ⟨_, rfl⟩
                replace H : (if 0 < (y163.length : Int) then (goprompt_Document_lineStartIndexes.l1 k1 t150 (y163.set (0 : Int).toNat 0) 0 x4_1 (x4_1.length : Int) 0 t159 t160) else (none)) = some (r1, r2, r3) := by first | (rw [hy163]; with_reducible exact H) | (have H2_ := (Option.bind_some _ _).symm.trans H; rw [hy163]; with_reducible exact H2_) | (have H2_ := (Option.bind_some _ _).symm.trans H; with_reducible exact H2_) | with_reducible exact H | (rw [hy163]; exact H) | exact H
                have Ny163 := Aside0.mk hy163
                clear hy163
                by_cases c21 : 0 < (y163.length : Int)
                · rw [if_pos c21] at H
                  have c21b0 : decide (0 < (y163.length : Int)) = true := decide_eq_true c21
                  have c21b1 : decide (0 < y163.length) = true := decide_eq_true (by omega)
                  clear c21
                  obtain ⟨y166, hy166⟩ : ∃ y_ : List Int, y_ = (y163.set (0 : Int).toNat 0) := ⟨_, rfl⟩
                  replace H : (goprompt_Document_lineStartIndexes.l1 k1 t150 y166 0 x4_1 (x4_1.length : Int) 0 t159 t160) = some (r1, r2, r3) := by first | (rw [hy166]; with_reducible exact H) | (have H2_ := (Option.bind_some _ _).symm.trans H; rw [hy166]; with_reducible exact H2_) | (have H2_ := (Option.bind_some _ _).symm.trans H; with_reducible exact H2_) | with_reducible exact H | (rw [hy166]; exact H) | exact H
                  have Ny166 := Aside0.mk hy166
                  clear hy166
                  have H' := Aside0.mk H
                  clear H
                  go_wp2_with (first | ((with_reducible refine gate_dst (N := 31) rfl ?_); refine Kd.R_make (Kd.int .i64) _ 3 rfl (N := 31) rfl 87 _ _ rfl ji18 rfl rfl Tryz.underlying87 (.int .i64 0) 8 info3 rfl (by decide) (by omega) 0 (ok := fun _ => True) (okp := fun _ => True) rfl (fun _ hk => hk) trivial (of_decide_eq_true (by first | (with_reducible assumption) | assumption)) (Nat.le_trans (Nat.mul_le_mul_right _ (of_decide_eq_true (by first | (with_reducible assumption) | assumption) : ji18.toNat ≤ 35184372088832)) (by omega)) (Below.refl _ _) (Nat.le_refl _) ?_; intro v164 w23 ho24 hb hg_ hnew_; clear hg_ hnew_; (first | rw [← Ny163.out] at ho24 | (simp only [Int.reduceToNat] at ho24; rw [← Ny163.out] at ho24)); have n0_ := Aside0.mk (Kd.R_elder' (by (with_reducible repeat (first | apply Kd.R_alloc | apply Kd.R_drewN | apply Kd.R_drew)); exact HO_4.out) (Kd.R_base ho24) hb); have n1_ := Aside0.mk (Kd.R_below (by (with_reducible repeat (first | apply Kd.R_alloc | apply Kd.R_drewN | apply Kd.R_drew)); exact HO_16.out) hb); have n2_ := Aside0.mk (Kd.R_lower (Kd.R_new' ho24 (Kd.R_lt (by (with_reducible repeat (first | apply Kd.R_alloc | apply Kd.R_drewN | apply Kd.R_drew)); exact HO_4.out))) (keep_size (w := w) (g := g) (row := none) (by repeat (first | (with_reducible first | exact HK.out | apply KeepBut.set_ | apply keep_drewN | apply keep_drew | apply keep_alloc) | exact HK.out)))); have n3_ := Aside0.mk (IsS67.below (by repeat (first | (with_reducible first | exact HI0.out | apply IsS67.alloc | apply IsS67.drewN | apply IsS67.drew | apply IsS67.set_0 | apply IsS67.set_1) | exact HI0.out)) hb); have n4_ := Aside0.mk (KeepBut.trans (by repeat (first | (with_reducible first | exact HK.out | apply KeepBut.set_ | apply keep_drewN | apply keep_drew | apply keep_alloc) | exact HK.out)) (KeepBut.of_below hb g none) (.inl rfl)); have n5_ := Aside0.mk (below_step (by repeat (first | (with_reducible first | exact HB.out | apply below_alloc | apply pw_below_drewN | apply below_drew1 | refine below_set ?_ (IsS67.ge HI0.out)) | exact HB.out)) hb); clear HO_4; clear HO_16; clear HI0; clear HK; clear HB; have HO_4 := n0_; have HO_16 := n1_; have HO165 := n2_; have HI0 := n3_; have HK := n4_; have HB := n5_; clear n0_ n1_ n2_ n3_ n4_ n5_; clear hb ho24; have p22 : 0 ≤ (0 : Int) := (by omega); have q22 : (0 : Int) < ((y163.length : Int) : Int) := of_decide_eq_true (by first | (with_reducible assumption) | assumption); have qi22 : (0 < y163.length) = True := eq_true (by omega); obtain ⟨go22, co22, eo22, gb22, gl22, cl22, HG22⟩ := Kd.R_form HO165.out (by omega); (first | cases eo22 | (injection eo22 with ea_ en_ ec_; (first | subst ea_ | (injection ea_ with ea_; subst ea_)); subst ec_; clear en_)); have GB22 := Aside0.mk gb22; have GG22 := Aside0.mk HG22; clear gb22 gl22 HG22; obtain ⟨hx22_0, hf22_0⟩ := Kd.R_celln 0 HO165.out (0 : Int) p22 q22; (try rw [show ((0 : Int)).toNat = 0 from rfl] at hx22_0); (try simp only [Nat.reduceMul, Nat.zero_mul, Nat.zero_add, Nat.reduceAdd] at hx22_0); (try rw [show ((0 : Int)).toNat = 0 from rfl] at hf22_0); (try simp only [Nat.reduceMul, Nat.zero_mul, Nat.zero_add, Nat.reduceAdd] at hf22_0); replace p22 := eq_true p22; replace q22 := eq_true q22; have n_ := Aside0.mk (Kd.R_mono (ok' := (fun k_ => some k_ ≠ (v154 : Value).ownBlock)) HO165.out (fun k_ hk => hk.2)); clear HO165; have HO165 := n_; clear n_; obtain ⟨hy25_, hz25_⟩ := Kd.R_celln 0 HO165.out (0 : Int) (by omega) (of_decide_eq_true (by first | (with_reducible assumption) | assumption)); (try simp only [Int.reduceToNat, Int.toNat_zero, Int.toNat_ofNat, Nat.reduceMul, Nat.zero_mul, Nat.zero_add] at hy25_ hz25_); (try rw [show ((0 : Int)).toNat = 0 from rfl] at hy25_); (try rw [show ((0 : Int)).toNat = 0 from rfl] at hz25_); have HP25 := Kd.R_putg HO165.out (0 : Int) 0) | ((with_reducible refine gate_store (t := 3) (p := 33) rfl ?_); refine store_event (t := 3) (p := 33) (v := ?vo_w26) (w1 := (w23.setCell ⟨go22, (0 : Int).toNat, none⟩ (.int .i64 0))) ?hg ?ho ?hn ?hr ?_; (case ho => rfl); (case hg => rfl); (case hn => rfl); (case hr => first | (go_simp; done) | (go_simp; rfl)); intro w26 hw; have hg : w23.grownBy w26 (some go22) := (by rw [hw]; exact HP25.2); have hp_ : Kd.R (Kd.int .i64) 3 w26 w.heap.size (fun k_ => some k_ ≠ (v154 : Value).ownBlock) (.slice (some ⟨go22, 0, none⟩) y163.length co22) y166 := (by rw [hw, Ny166.out]; exact HP25.1); clear HP25; have n0_ := Aside0.mk (Kd.R_after (v := (.slice (some ⟨go22, 0, none⟩) y163.length co22)) (v1 := (.slice (some ⟨go22, 0, none⟩) y163.length co22)) (ok := (fun _ => True)) (by (with_reducible repeat (first | apply Kd.R_alloc | apply Kd.R_drewN | apply Kd.R_drew)); exact HO_4.out) hg (.inl rfl)); have n1_ := Aside0.mk (Kd.R_over' (v := (.slice (some ⟨go22, 0, none⟩) y163.length co22)) (by (with_reducible repeat (first | apply Kd.R_alloc | apply Kd.R_drewN | apply Kd.R_drew)); exact HO_16.out) (Kd.R_typed HO165.out) (by decide) hg); have n2_ := Aside0.mk (IsS67.grown (by repeat (first | (with_reducible first | exact HI0.out | apply IsS67.alloc | apply IsS67.drewN | apply IsS67.drew | apply IsS67.set_0 | apply IsS67.set_1) | exact HI0.out)) hg (IsS67.own_ne HI0.out HO165.out (by decide))); have n3_ := Aside0.mk (hp_); have n4_ := Aside0.mk ((by rw [hw]; exact below_set (HB.out) (Nat.le_trans HL.out GB22.out) : Below w0.heap.size w0 w26)); have n5_ := Aside0.mk (KeepBut.trans (by repeat (first | (with_reducible first | exact HK.out | apply KeepBut.set_ | apply keep_drewN | apply keep_drew | apply keep_alloc) | exact HK.out)) (KeepBut.of_grown hg g) (Kd.R_base2 HO165.out)); clear HO_4; clear HO_16; clear HI0; clear HO165; clear HB; clear HK; have HO_4 := n0_; have HO_16 := n1_; have HI0 := n2_; have HO165 := n3_; have HB := n4_; have HK := n5_; clear n0_ n1_ n2_ n3_ n4_ n5_; clear hg hw hp_; obtain ⟨Ao27, co27, eo27⟩ := Kd.R_slice HO_4.out; subst eo27))
                  go_loopg [8, 36] k1 (fun kq v8 v36 w' => ∃ (x7_2 : List Int) (x8_2 : Int) (x36_2 : Int), v8 = .int .i64 x8_2 ∧ v36 = .int .i64 x36_2 ∧ Aside0 (goprompt_Document_lineStartIndexes.l1 kq t150 x7_2 x8_2 x4_1 (x4_1.length : Int) x36_2 t159 t160 = some (r1, r2, r3)) ∧ Aside0 (kq ≤ k1) ∧ Aside0 (Kd.R (Kd.int .i64) 3 w' w.heap.size (fun k_ => some k_ ≠ ((.slice Ao27 x4_1.length co27) : Value).ownBlock) (.slice (some ⟨go22, 0, none⟩) y163.length co22) x7_2) ∧ Aside0 (Kd.R (Kd.int .i64) 3 w' w.heap.size (fun k_ => some k_ ≠ ((.slice (some ⟨go22, 0, none⟩) y163.length co22) : Value).ownBlock) (.slice Ao27 x4_1.length co27) x4_1) ∧ Aside0 (IsS67 w0 w' g t159 t160) ∧ Aside0 (KeepBut w w' g none) ∧ Aside0 (Below w0.heap.size w0 w'))
                  case atStart => exact ⟨(y166), (0), (0), (by first | rfl | (simp; done) | (simp [*]; done)), (by first | rfl | (simp; done) | (simp [*]; done)), H', ⟨Nat.le_refl _⟩, ⟨by (with_reducible repeat (first | apply Kd.R_alloc | apply Kd.R_drewN | apply Kd.R_drew)); exact HO165.out⟩, ⟨by (with_reducible repeat (first | apply Kd.R_alloc | apply Kd.R_drewN | apply Kd.R_drew)); exact Kd.R_mono HO_4.out (fun _ hk => hk.2)⟩, ⟨by repeat (first | (with_reducible first | exact HI0.out | apply IsS67.alloc | apply IsS67.drewN | apply IsS67.drew | apply IsS67.set_0 | apply IsS67.set_1) | exact HI0.out)⟩, ⟨by repeat (first | (with_reducible first | exact HK.out | apply KeepBut.set_ | apply keep_drewN | apply keep_drew | apply keep_alloc) | exact HK.out)⟩, ⟨by repeat (first | (with_reducible first | exact HB.out | apply below_alloc | apply pw_below_drewN | apply below_drew1 | refine below_set ?_ (IsS67.ge HI0.out)) | exact HB.out)⟩⟩
                  case round =>
                    clear H'
                    try clear c1
                    try clear p1
                    try clear q1
                    try clear hx1
                    try clear hf1
                    try clear c2
                    try clear p2
                    try clear q2
                    try clear hx2
                    try clear qi2
                    try clear hf2
                    try clear c3
                    try clear c3b0
                    try clear c3b1
                    try clear c4
                    try clear c4b0
                    try clear c4b1
                    try clear c5
                    try clear p6
                    try clear c9
                    try clear c11
                    try clear c11b0
                    try clear c12
                    try clear c12b0
                    try clear c13
                    try clear c13b0
                    try clear c14
                    try clear c14b0
                    try clear p15
                    try clear q15
                    try clear hx15
                    try clear hf15
                    try clear p16
                    try clear q16
                    try clear hx16
                    try clear c19
                    try clear c19b0
                    try clear c19b1
                    try clear c20
                    try clear c20b0
                    try clear c20b1
                    try clear c21
                    try clear c21b0
                    try clear c21b1
                    try clear p22
                    try clear q22
                    try clear hx22
                    try clear qi22
                    try clear hf22
                    try clear hx15_0
                    try clear hx161_0
                    try clear hx22_0
                    try clear p15
                    try clear p161
                    try clear p2
                    try clear p22
                    try clear q15
                    try clear q161
                    try clear q22
                    obtain ⟨x7_2, x8_2, x36_2, rfl, rfl, HA, HK2, HO_7, HO_34, HI0, HK, HB⟩ := hrel
                    have hl7_2 := (Kd.R_reads' HO_7.out).1
                    rw [hl7_2] at HO_7
                    (try simp only [hl7_2])
                    (try simp only [hl7_2] at HO_34)
                    cases gk with
                    | zero => exact absurd HA.out (by simp [goprompt_Document_lineStartIndexes.l1])
                    | succ k2 =>
                      have H := HA.out
                      clear HA
                      simp only [goprompt_Document_lineStartIndexes.l1] at H
                      by_cases c28 : x36_2 < (x4_1.length : Int)
                      · rw [if_pos c28] at H
                        have c28b0 : decide (x36_2 < (x4_1.length : Int)) = true := decide_eq_true c28
                        clear c28
                        by_cases c29 : 0 ≤ x36_2
                        · rw [if_pos c29] at H
                          have c29b0 : decide (0 ≤ x36_2) = true := decide_eq_true c29
                          clear c29
                          by_cases c30 : x36_2 < (x4_1.length : Int)
                          · rw [if_pos c30] at H
                            have c30b0 : decide (x36_2 < (x4_1.length : Int)) = true := decide_eq_true c30
                            clear c30
                            obtain ⟨ji31, hji31⟩ : ∃ j_ : Int, (wrap64 (x36_2 + 1)) = j_ := ⟨_, rfl⟩
                            replace H : (if 0 ≤ (ji31) then (if (ji31) < (x7_2.length : Int) then (goprompt_Document_lineStartIndexes.l1 k2 t150 (x7_2.set ((ji31) : Int).toNat (wrap64 (x8_2 + (wrap64 ((rd x4_1 x36_2) + 1))))) (wrap64 (x8_2 + (wrap64 ((rd x4_1 x36_2) + 1)))) x4_1 (x4_1.length : Int) ji31 t159 t160) else (none)) else (none)) = some (r1, r2, r3) := by first | (rw [hji31] at H; exact H) | (simp only [hji31] at H ⊢; exact H)
                            have hji31w : (IntKind.i64.wrap (x36_2 + 1)) = ji31 := (i64_w _).trans hji31
                            by_cases c32 : 0 ≤ (ji31)
                            · rw [if_pos c32] at H
                              have c32b0 : decide (0 ≤ (ji31)) = true := decide_eq_true c32
                              clear c32
                              by_cases c33 : (ji31) < (x7_2.length : Int)
                              · rw [if_pos c33] at H
                                have c33b0 : decide ((ji31) < (x7_2.length : Int)) = true := decide_eq_true c33
                                clear c33
                                obtain ⟨y168, hy168⟩ : ∃ y_ : List Int, y_ = (x7_2.set ((ji31) : Int).toNat (wrap64 (x8_2 + (wrap64 ((rd x4_1 x36_2) + 1))))) := ⟨_, rfl⟩
                                replace H : (goprompt_Document_lineStartIndexes.l1 k2 t150 y168 (wrap64 (x8_2 + (wrap64 ((rd x4_1 x36_2) + 1)))) x4_1 (x4_1.length : Int) ji31 t159 t160) = some (r1, r2, r3) := by first | (rw [hy168]; with_reducible exact H) | (have H2_ := (Option.bind_some _ _).symm.trans H; rw [hy168]; with_reducible exact H2_) | (have H2_ := (Option.bind_some _ _).symm.trans H; with_reducible exact H2_) | with_reducible exact H | (rw [hy168]; exact H) | exact H
                                have Ny168 := Aside0.mk hy168
                                clear hy168
                                have H' := Aside0.mk H
                                clear H
                                have p167 : 0 ≤ (x36_2 : Int) := of_decide_eq_true (by first | (with_reducible assumption) | assumption)
                                have q167 : x36_2 < (x4_1.length : Int) := of_decide_eq_true (by first | (with_reducible assumption) | assumption)
                                obtain ⟨ad167, e167, hx167_0⟩ := Kd.at_int (Kd.R_reads' HO_34.out).2.2 x36_2 p167 q167
                                cases e167
                                replace p167 := eq_true p167
                                replace q167 := eq_true q167
                                have p34 : 0 ≤ ((ji31) : Int) := of_decide_eq_true (by first | (with_reducible assumption) | assumption)
                                have q34 : ((ji31) : Int) < ((x7_2.length : Int) : Int) := of_decide_eq_true (by first | (with_reducible assumption) | assumption)
                                obtain ⟨hx34_0, hf34_0⟩ := Kd.R_celln 0 HO_7.out ((ji31) : Int) p34 q34
                                replace p34 := eq_true p34
                                replace q34 := eq_true q34
                                have HP35 := Kd.R_putg HO_7.out ((ji31) : Int) (wrap64 (x8_2 + (wrap64 ((rd x4_1 x36_2) + 1))))
                                go_wp2_with (first | ((with_reducible refine gate_store (t := 3) (p := 49) rfl ?_); refine store_event (t := 3) (p := 49) (v := ?vo_w36) (w1 := (wr.setCell ⟨go22, ((ji31) : Int).toNat, none⟩ (.int .i64 (wrap64 (x8_2 + (wrap64 ((rd x4_1 x36_2) + 1))))))) ?hg ?ho ?hn ?hr ?_; (case ho => rfl); (case hg => rfl); (case hn => rfl); (case hr => first | (go_simp; done) | (go_simp; rfl)); intro w36 hw; have hg : wr.grownBy w36 (some go22) := (by rw [hw]; exact HP35.2); have hp_ : Kd.R (Kd.int .i64) 3 w36 w.heap.size (fun k_ => some k_ ≠ (.slice (some ad167) x4_1.length co27 : Value).ownBlock) (.slice (some ⟨go22, 0, none⟩) x7_2.length co22) y168 := (by rw [hw, Ny168.out]; exact HP35.1); clear HP35; have n0_ := Aside0.mk (hp_); have n1_ := Aside0.mk (Kd.R_after (v := (.slice (some ⟨go22, 0, none⟩) x7_2.length co22)) (v1 := (.slice (some ⟨go22, 0, none⟩) x7_2.length co22)) (ok := (fun _ => True)) (by (with_reducible repeat (first | apply Kd.R_alloc | apply Kd.R_drewN | apply Kd.R_drew)); exact Kd.R_mono HO_34.out (fun _ hk => ⟨trivial, hk⟩)) hg (.inl rfl)); have n2_ := Aside0.mk (IsS67.grown (by repeat (first | (with_reducible first | exact HI0.out | apply IsS67.alloc | apply IsS67.drewN | apply IsS67.drew | apply IsS67.set_0 | apply IsS67.set_1) | exact HI0.out)) hg (IsS67.own_ne HI0.out HO_7.out (by decide))); have n3_ := Aside0.mk ((by rw [hw]; exact below_set (HB.out) (Nat.le_trans HL.out GB22.out) : Below w0.heap.size w0 w36)); have n4_ := Aside0.mk (KeepBut.trans (by repeat (first | (with_reducible first | exact HK.out | apply KeepBut.set_ | apply keep_drewN | apply keep_drew | apply keep_alloc) | exact HK.out)) (KeepBut.of_grown hg g) (Kd.R_base2 HO_7.out)); clear HO_7; clear HO_34; clear HI0; clear HB; clear HK; have HO_7 := n0_; have HO_34 := n1_; have HI0 := n2_; have HB := n3_; have HK := n4_; clear n0_ n1_ n2_ n3_ n4_; clear hg hw hp_))
                                (try simp only [← hl7_2])
                                go_roundg k2
                                case measure => have := HK1.out; have := HK2.out; omega
                                case rel => exact ⟨(y168), (wrap64 (x8_2 + (wrap64 ((rd x4_1 x36_2) + 1)))), (ji31), (by first | rfl | (simp; done) | (simp [*]; done)), (by first | rfl | (simp; done) | (simp only [← hji31] <;> (first | rfl | simp)) | (simp [*]; done)), (by first | exact H' | (rw [hji31]; exact H')), ⟨by have := HK1.out; have := HK2.out; omega⟩, ⟨by (try simp only [hl7_2]); (with_reducible repeat (first | apply Kd.R_alloc | apply Kd.R_drewN | apply Kd.R_drew)); exact HO_7.out⟩, ⟨by (try simp only [hl7_2]); (with_reducible repeat (first | apply Kd.R_alloc | apply Kd.R_drewN | apply Kd.R_drew)); exact Kd.R_mono HO_34.out (fun _ hk => hk.2)⟩, ⟨by repeat (first | (with_reducible first | exact HI0.out | apply IsS67.alloc | apply IsS67.drewN | apply IsS67.drew | apply IsS67.set_0 | apply IsS67.set_1) | exact HI0.out)⟩, ⟨by repeat (first | (with_reducible first | exact HK.out | apply KeepBut.set_ | apply keep_drewN | apply keep_drew | apply keep_alloc) | exact HK.out)⟩, ⟨by repeat (first | (with_reducible first | exact HB.out | apply below_alloc | apply pw_below_drewN | apply below_drew1 | refine below_set ?_ (IsS67.ge HI0.out)) | exact HB.out)⟩⟩
                              · rw [if_neg c33] at H
                                exact absurd H (by simp)
                            · rw [if_neg c32] at H
                              exact absurd H (by simp)
                          · rw [if_neg c30] at H
                            exact absurd H (by simp)
                        · rw [if_neg c29] at H
                          exact absurd H (by simp)
                      · rw [if_neg c28] at H
                        have c28b0 : decide (x36_2 < (x4_1.length : Int)) = false := decide_eq_false c28
                        clear c28
                        by_cases c37 : t150 > 1
                        · rw [if_pos c37] at H
                          have c37b0 : decide (1 < t150) = true := decide_eq_true c37
                          clear c37
                          by_cases c38 : 0 ≤ t150
                          · rw [if_pos c38] at H
                            have c38b0 := eq_true c38
                            have c38b1 : decide (0 ≤ t150) = true := decide_eq_true c38
                            clear c38
                            by_cases c39 : t150 ≤ (x7_2.length : Int)
                            · rw [if_pos c39] at H
                              have c39b0 := eq_true c39
                              have c39b1 : decide (t150 ≤ (x7_2.length : Int)) = true := decide_eq_true c39
                              clear c39
                              obtain ⟨y169, hy169⟩ : ∃ y_ : List Int, y_ = (x7_2.take (t150 : Int).toNat) := ⟨_, rfl⟩
                              replace H : (some (y169, t159, t160)) = some (r1, r2, r3) := by first | (rw [hy169]; with_reducible exact H) | (have H2_ := (Option.bind_some _ _).symm.trans H; rw [hy169]; with_reducible exact H2_) | (have H2_ := (Option.bind_some _ _).symm.trans H; with_reducible exact H2_) | with_reducible exact H | (rw [hy169]; exact H) | exact H
                              have Ny169 := Aside0.mk hy169
                              clear hy169
                              simp only [Option.some.injEq, Prod.mk.injEq] at H
                              obtain ⟨rfl, rfl, rfl⟩ := H
                              have q40 : (t150 : Int) ≤ ((x7_2.length : Int) : Int) := of_decide_eq_true (by first | (with_reducible assumption) | assumption)
                              obtain ⟨i040, hi040, _, hsz40, _⟩ := info_parts info3
                              have hcut40 := cut_to (P := Tryz.prog) 87 3 .i64 Tryz.underlying87 hi040 (some ⟨go22, 0, none⟩) x7_2.length co22 t150 (of_decide_eq_true (by first | (with_reducible assumption) | assumption)) q40 (Kd.R_reads' HO_7.out).2.1
                              have hr40 := Kd.R_take (m := (t150 : Int).toNat) HO_7.out (by omega)
                              have hy40 : y169.length = (t150 : Int).toNat := (by rw [Ny169.out, List.length_take]; omega)
                              rw [← Ny169.out] at hr40
                              rw [← hy40] at hr40 hcut40
                              clear hy40 hi040 hsz40 HO_7
                              have HO171 := Aside0.mk hr40
                              clear hr40
                              replace q40 := eq_true q40
                              go_wp2
                              go_ret
                              exact ⟨_, by first | rfl | (simp [errW_none, errW_some] <;> rfl) | (simp only [← hji18]; first | rfl | (simp [errW_none, errW_some] <;> rfl)) | (simp [*, errW_none, errW_some] <;> rfl), by (with_reducible repeat (first | apply Kd.R_alloc | apply Kd.R_drewN | apply Kd.R_drew)); exact Kd.R_mono HO171.out (fun _ hk => trivial), by repeat (first | (with_reducible first | exact HI0.out | apply IsS67.alloc | apply IsS67.drewN | apply IsS67.drew | apply IsS67.set_0 | apply IsS67.set_1) | exact HI0.out), by repeat (first | (with_reducible first | exact HB.out | apply below_alloc | apply pw_below_drewN | apply below_drew1 | refine below_set ?_ (IsS67.ge HI0.out)) | exact HB.out), by repeat (first | (with_reducible first | exact HK.out | apply KeepBut.set_ | apply keep_drewN | apply keep_drew | apply keep_alloc) | exact HK.out)⟩
                            · rw [if_neg c39] at H
                              exact absurd H (by simp)
                          · rw [if_neg c38] at H
                            exact absurd H (by simp)
                        · rw [if_neg c37] at H
                          have c37b0 : decide (1 < t150) = false := decide_eq_false c37
                          clear c37
                          simp only [Option.some.injEq, Prod.mk.injEq] at H
                          obtain ⟨rfl, rfl, rfl⟩ := H
                          go_wp2
                          go_ret
                          exact ⟨_, by first | rfl | (simp [errW_none, errW_some] <;> rfl) | (simp only [← hji18]; first | rfl | (simp [errW_none, errW_some] <;> rfl)) | (simp [*, errW_none, errW_some] <;> rfl), by (with_reducible repeat (first | apply Kd.R_alloc | apply Kd.R_drewN | apply Kd.R_drew)); exact Kd.R_mono HO_7.out (fun _ hk => trivial), by repeat (first | (with_reducible first | exact HI0.out | apply IsS67.alloc | apply IsS67.drewN | apply IsS67.drew | apply IsS67.set_0 | apply IsS67.set_1) | exact HI0.out), by repeat (first | (with_reducible first | exact HB.out | apply below_alloc | apply pw_below_drewN | apply below_drew1 | refine below_set ?_ (IsS67.ge HI0.out)) | exact HB.out), by repeat (first | (with_reducible first | exact HK.out | apply KeepBut.set_ | apply keep_drewN | apply keep_drew | apply keep_alloc) | exact HK.out)⟩
                · rw [if_neg c21] at H
                  exact absurd H (by simp)
              · rw [if_neg c20] at H
                exact absurd H (by simp)
            · rw [if_neg c19] at H
              exact absurd H (by simp)
    · rw [if_neg c4] at H
      exact absurd H (by simp)
  · rw [if_neg c3] at H
    exact absurd H (by simp)
/-! ### goprompt_Document_findLineStartIndex: function 57 -/
def goprompt_Document_findLineStartIndex.f (k : Nat) (s0_0 : ByteArray) (s0_1 : Int) (a1 : Int) : Option (Int × Int × ByteArray × Int) := (goprompt_Document_lineStartIndexes.f k s0_0 s0_1).bind fun bt172 => ((bisect_Right.f bt172.1 a1).bind fun t177 => (if 0 ≤ (wrap64 (t177 - 1)) then (if (wrap64 (t177 - 1)) < (bt172.1.length : Int) then (some (wrap64 (t177 - 1), rd bt172.1 (wrap64 (t177 - 1)), bt172.2.1, bt172.2.2)) else (none)) else (none)))
theorem goprompt_Document_findLineStartIndex.mono : ∀ a0 a1 a2 k, LeO (goprompt_Document_findLineStartIndex.f k a0 a1 a2) (goprompt_Document_findLineStartIndex.f (k + 1) a0 a1 a2) := by
  intro a0 a1 a2 k
  unfold goprompt_Document_findLineStartIndex.f
  repeat' first
      | (with_reducible exact goprompt_Document_lineStartIndexes.mono _ _ _)
      | (with_reducible exact LeO.refl _)
      | (with_reducible exact LeO.none _)
      | (with_reducible refine LeO.ite ?_ ?_)
      | (with_reducible refine LeO.bind ?_ (fun _ => ?_))
      | exact goprompt_Document_lineStartIndexes.mono _ _ _
      | exact LeO.none _
      | refine LeO.ite ?_ ?_
      | refine LeO.bind ?_ (fun _ => ?_)
set_option maxHeartbeats 8000000 in
set_option maxRecDepth 100000 in
theorem goprompt_Document_findLineStartIndex.calls (k : Nat) (g : Nat) (s0_0 : ByteArray) (s0_1 : Int) (a1 : Int) (r1 : Int) (r2 : Int) (r3 : ByteArray) (r4 : Int) (w0 w : World) (hI : IsS67 w0 w g s0_0 s0_1) (hB : Below w0.heap.size w0 w) (h : goprompt_Document_findLineStartIndex.f k s0_0 s0_1 a1 = some (r1, r2, r3, r4)) :
    Calls Tryz.prog 57 #[.pointer (some ⟨g, 0, none⟩), .int .i64 a1] w fun e w' => e = .returned (.tuple #[.int .i64 r1, .int .i64 r2]) ∧ IsS67 w0 w' g r3 r4 ∧ Below w0.heap.size w0 w' ∧ KeepBut w w' g none := by
  have HI0 := Aside0.mk hI
  have HK := Aside0.mk (KeepBut.refl w g none)
  have HL := Aside0.mk hB.size
  clear hI
  have HW0 := Aside0.mk hB.size
  have HB := Aside0.mk hB
  clear hB
  have H : ((goprompt_Document_lineStartIndexes.f k s0_0 s0_1).bind fun bt172 => ((bisect_Right.f bt172.1 a1).bind fun t177 => (if 0 ≤ (wrap64 (t177 - 1)) then (if (wrap64 (t177 - 1)) < (bt172.1.length : Int) then (some (wrap64 (t177 - 1), rd bt172.1 (wrap64 (t177 - 1)), bt172.2.1, bt172.2.2)) else (none)) else (none)))) = some (r1, r2, r3, r4) := h
  clear h
  replace H := Option.bind_eq_some_iff.mp H
  obtain ⟨⟨t172, t175, t176⟩, A30, H⟩ := H
  replace H : ((bisect_Right.f t172 a1).bind fun t177 => (if 0 ≤ (wrap64 (t177 - 1)) then (if (wrap64 (t177 - 1)) < (t172.length : Int) then (some (wrap64 (t177 - 1), rd t172 (wrap64 (t177 - 1)), t175, t176)) else (none)) else (none))) = some (r1, r2, r3, r4) := H
  have A3 := Aside0.mk A30
  clear A30
  replace H := Option.bind_eq_some_iff.mp H
  obtain ⟨t177, A40, H⟩ := H
  replace H : (if 0 ≤ (wrap64 (t177 - 1)) then (if (wrap64 (t177 - 1)) < (t172.length : Int) then (some (wrap64 (t177 - 1), rd t172 (wrap64 (t177 - 1)), t175, t176)) else (none)) else (none)) = some (r1, r2, r3, r4) := H
  have A4 := Aside0.mk A40
  clear A40
  obtain ⟨ji5, hji5⟩ : ∃ j_ : Int, (wrap64 (t177 - 1)) = j_ := ⟨_, rfl⟩
  replace H : (if 0 ≤ (ji5) then (if (ji5) < (t172.length : Int) then (some (ji5, rd t172 (ji5), t175, t176)) else (none)) else (none)) = some (r1, r2, r3, r4) := by first | (rw [hji5] at H; exact H) | (simp only [hji5] at H ⊢; exact H)
  (try rw [hji5] at A3)
  (try rw [hji5] at A4)
  have hji5w : (IntKind.i64.wrap (t177 - 1)) = ji5 := (i64_w _).trans hji5
  by_cases c6 : 0 ≤ (ji5)
  · rw [if_pos c6] at H
    have c6b0 : decide (0 ≤ (ji5)) = true := decide_eq_true c6
    clear c6
    by_cases c7 : (ji5) < (t172.length : Int)
    · rw [if_pos c7] at H
      have c7b0 : decide ((ji5) < (t172.length : Int)) = true := decide_eq_true c7
      clear c7
      simp only [Option.some.injEq, Prod.mk.injEq] at H
      obtain ⟨rfl, rfl, rfl, rfl⟩ := H
      go_enter Tryz.func57, Tryz.ntmps57
      go_wp2_with (first | ((with_reducible refine gate_callee (f := 90) rfl ?_); refine goesL_ (some 8) rfl rfl Tryz.func90 (by kernel_rfl) rfl #[.pointer (some ⟨g, 0, none⟩)] rfl (by (try simp only [List.map_toArray, List.map_cons, List.map_nil]); first | done | rfl | (simp only [List.length_drop, List.length_take]; rfl) | (simp only [Int.toNat_natCast, ByteArray.extract_zero_size]; rfl)) ?_; (with_reducible refine (goprompt_Document_lineStartIndexes.calls k g s0_0 s0_1 t172 t175 t176 w0 _ ?side1 ?side2 A3.out).mono ?_); (case side1 => repeat (first | (with_reducible first | exact HI0.out | apply IsS67.alloc | apply IsS67.drewN | apply IsS67.drew | apply IsS67.set_0 | apply IsS67.set_1) | exact HI0.out)); (case side2 => repeat (first | (with_reducible first | exact HB.out | apply below_alloc | apply pw_below_drewN | apply below_drew1 | refine below_set ?_ (IsS67.ge HI0.out)) | exact HB.out)); rintro e w8 ⟨v173, rfl, ho0, hi, hb, hk⟩; refine ⟨_, rfl, ?_⟩; have n0_ := Aside0.mk (Kd.R_lower ho0 (keep_size (w := w) (g := g) (row := none) (by repeat (first | (with_reducible first | exact HK.out | apply KeepBut.set_ | apply keep_drewN | apply keep_drew | apply keep_alloc) | exact HK.out)))); have n1_ := Aside0.mk (KeepBut.trans (by repeat (first | (with_reducible first | exact HK.out | apply KeepBut.set_ | apply keep_drewN | apply keep_drew | apply keep_alloc) | exact HK.out)) hk (.inl rfl)); have n2_ := Aside0.mk (hb); have n3_ := Aside0.mk (hi); clear HK; clear HB; clear HI0; have HO174 := n0_; have HK := n1_; have HB := n2_; have HI0 := n3_; clear n0_ n1_ n2_ n3_; (try clear hb); (try clear hb2); (try clear hk); (try clear hi); (try clear ho0); obtain ⟨Ao9, co9, eo9⟩ := Kd.R_slice HO174.out; subst eo9) | ((with_reducible refine gate_callee (f := 91) rfl ?_); refine goesL_ (some 11) rfl rfl Tryz.func91 (by kernel_rfl) rfl #[.slice Ao9 t172.length co9, .int .i64 a1] rfl (by (try simp only [List.map_toArray, List.map_cons, List.map_nil]); first | done | rfl | (simp only [List.length_drop, List.length_take]; rfl) | (simp only [Int.toNat_natCast, ByteArray.extract_zero_size]; rfl)) ?_; (with_reducible refine (bisect_Right.calls _ _ t172 a1 t177 _ ?side1 ?side2 A4.out).mono ?_); (case side1 => repeat (first | exact (Kd.R_reads' HO174.out).2.2 | (with_reducible refine Kd.C_alloc ?_ _) | (with_reducible refine Kd.C_drewN ?_ _) | (with_reducible refine Kd.C_drew ?_))); (case side2 => exact (Kd.R_reads' HO174.out).2.1); rintro e w10 ⟨rfl, hb⟩; refine ⟨_, rfl, ?_⟩; have n0_ := Aside0.mk (Kd.R_below (by (with_reducible repeat (first | apply Kd.R_alloc | apply Kd.R_drewN | apply Kd.R_drew)); exact HO174.out) hb); have n1_ := Aside0.mk (IsS67.below (by repeat (first | (with_reducible first | exact HI0.out | apply IsS67.alloc | apply IsS67.drewN | apply IsS67.drew | apply IsS67.set_0 | apply IsS67.set_1) | exact HI0.out)) hb); have n2_ := Aside0.mk (KeepBut.trans (by repeat (first | (with_reducible first | exact HK.out | apply KeepBut.set_ | apply keep_drewN | apply keep_drew | apply keep_alloc) | exact HK.out)) (KeepBut.of_below hb g none) (.inl rfl)); have n3_ := Aside0.mk (below_step (by repeat (first | (with_reducible first | exact HB.out | apply below_alloc | apply pw_below_drewN | apply below_drew1 | refine below_set ?_ (IsS67.ge HI0.out)) | exact HB.out)) hb); clear HO174; clear HI0; clear HK; clear HB; have HO174 := n0_; have HI0 := n1_; have HK := n2_; have HB := n3_; clear n0_ n1_ n2_ n3_; (try clear hb); (try clear hb2); (try clear hk); (try clear hi); have p178 : 0 ≤ ((ji5) : Int) := of_decide_eq_true (by first | (with_reducible assumption) | assumption); have q178 : (ji5) < (t172.length : Int) := of_decide_eq_true (by first | (with_reducible assumption) | assumption); obtain ⟨ad178, e178, hx178_0⟩ := Kd.at_int (Kd.R_reads' HO174.out).2.2 (ji5) p178 q178; cases e178; replace p178 := eq_true p178; replace q178 := eq_true q178))
      go_ret2
      exact ⟨by first | rfl | (simp [errW_none, errW_some] <;> rfl) | (simp only [← hji5]; first | rfl | (simp [errW_none, errW_some] <;> rfl)) | (simp [*, errW_none, errW_some] <;> rfl), by repeat (first | (with_reducible first | exact HI0.out | apply IsS67.alloc | apply IsS67.drewN | apply IsS67.drew | apply IsS67.set_0 | apply IsS67.set_1) | exact HI0.out), by repeat (first | (with_reducible first | exact HB.out | apply below_alloc | apply pw_below_drewN | apply below_drew1 | refine below_set ?_ (IsS67.ge HI0.out)) | exact HB.out), by repeat (first | (with_reducible first | exact HK.out | apply KeepBut.set_ | apply keep_drewN | apply keep_drew | apply keep_alloc) | exact HK.out)⟩
    · rw [if_neg c7] at H
      exact absurd H (by simp)
  · rw [if_neg c6] at H
    exact absurd H (by simp)
/-! ### goprompt_Document_CursorPositionRow: function 34 -/
def goprompt_Document_CursorPositionRow.f (k : Nat) (s0_0 : ByteArray) (s0_1 : Int) : Option (Int × ByteArray × Int) := (goprompt_Document_findLineStartIndex.f k s0_0 s0_1 s0_1).bind fun bt179 => (some (bt179.1, bt179.2.2.1, bt179.2.2.2))
theorem goprompt_Document_CursorPositionRow.mono : ∀ a0 a1 k, LeO (goprompt_Document_CursorPositionRow.f k a0 a1) (goprompt_Document_CursorPositionRow.f (k + 1) a0 a1) := by
  intro a0 a1 k
  unfold goprompt_Document_CursorPositionRow.f
  repeat' first
      | (with_reducible exact goprompt_Document_findLineStartIndex.mono _ _ _ _)
      | (with_reducible exact LeO.refl _)
      | (with_reducible exact LeO.none _)
      | (with_reducible refine LeO.ite ?_ ?_)
      | (with_reducible refine LeO.bind ?_ (fun _ => ?_))
      | exact goprompt_Document_findLineStartIndex.mono _ _ _ _
      | exact LeO.none _
      | refine LeO.ite ?_ ?_
      | refine LeO.bind ?_ (fun _ => ?_)
set_option maxHeartbeats 8000000 in
set_option maxRecDepth 100000 in
theorem goprompt_Document_CursorPositionRow.calls (k : Nat) (g : Nat) (s0_0 : ByteArray) (s0_1 : Int) (r1 : Int) (r2 : ByteArray) (r3 : Int) (w0 w : World) (hI : IsS67 w0 w g s0_0 s0_1) (hB : Below w0.heap.size w0 w) (h : goprompt_Document_CursorPositionRow.f k s0_0 s0_1 = some (r1, r2, r3)) :
    Calls Tryz.prog 34 #[.pointer (some ⟨g, 0, none⟩)] w fun e w' => e = .returned (.int .i64 r1) ∧ IsS67 w0 w' g r2 r3 ∧ Below w0.heap.size w0 w' ∧ KeepBut w w' g none := by
  have HI0 := Aside0.mk hI
  have HK := Aside0.mk (KeepBut.refl w g none)
  have HL := Aside0.mk hB.size
  clear hI
  have HW0 := Aside0.mk hB.size
  have HB := Aside0.mk hB
  clear hB
  have H : ((goprompt_Document_findLineStartIndex.f k s0_0 s0_1 s0_1).bind fun bt179 => (some (bt179.1, bt179.2.2.1, bt179.2.2.2))) = some (r1, r2, r3) := h
  clear h
  replace H := Option.bind_eq_some_iff.mp H
  obtain ⟨⟨t179, t180, t181, t182⟩, A20, H⟩ := H
  replace H : (some (t179, t181, t182)) = some (r1, r2, r3) := H
  have A2 := Aside0.mk A20
  clear A20
  simp only [Option.some.injEq, Prod.mk.injEq] at H
  obtain ⟨rfl, rfl, rfl⟩ := H
  obtain ⟨HGz3, hgz3⟩ := HI0.out
  have hcz3_0 := cellS67_0 HGz3
  have hcz3_1 := cellS67_1 HGz3
  have hfz3_0 := blk_frozen HGz3 0
  have hfz3_1 := blk_frozen HGz3 1
  clear HGz3 hgz3
  go_enter Tryz.func34, Tryz.ntmps34
  go_wp2_with (first | ((with_reducible refine gate_callee (f := 57) rfl ?_); refine goesL_ (some 9) rfl rfl Tryz.func57 (by kernel_rfl) rfl #[.pointer (some ⟨g, 0, none⟩), .int .i64 s0_1] rfl (by (try simp only [List.map_toArray, List.map_cons, List.map_nil]); first | done | rfl | (simp only [List.length_drop, List.length_take]; rfl) | (simp only [Int.toNat_natCast, ByteArray.extract_zero_size]; rfl)) ?_; (with_reducible refine (goprompt_Document_findLineStartIndex.calls k g s0_0 s0_1 s0_1 t179 t180 t181 t182 w0 _ ?side1 ?side2 A2.out).mono ?_); (case side1 => repeat (first | (with_reducible first | exact HI0.out | apply IsS67.alloc | apply IsS67.drewN | apply IsS67.drew | apply IsS67.set_0 | apply IsS67.set_1) | exact HI0.out)); (case side2 => repeat (first | (with_reducible first | exact HB.out | apply below_alloc | apply pw_below_drewN | apply below_drew1 | refine below_set ?_ (IsS67.ge HI0.out)) | exact HB.out)); rintro e w4 ⟨rfl, hi, hb, hk⟩; refine ⟨_, rfl, ?_⟩; have n0_ := Aside0.mk (KeepBut.trans (by repeat (first | (with_reducible first | exact HK.out | apply KeepBut.set_ | apply keep_drewN | apply keep_drew | apply keep_alloc) | exact HK.out)) hk (.inl rfl)); have n1_ := Aside0.mk (hb); have n2_ := Aside0.mk (hi); clear HK; clear HB; clear HI0; have HK := n0_; have HB := n1_; have HI0 := n2_; clear n0_ n1_ n2_; (try clear hb); (try clear hb2); (try clear hk); (try clear hi)))
  go_ret
  exact ⟨by first | rfl | (simp [errW_none, errW_some] <;> rfl) | (simp [*, errW_none, errW_some] <;> rfl), by repeat (first | (with_reducible first | exact HI0.out | apply IsS67.alloc | apply IsS67.drewN | apply IsS67.drew | apply IsS67.set_0 | apply IsS67.set_1) | exact HI0.out), by repeat (first | (with_reducible first | exact HB.out | apply below_alloc | apply pw_below_drewN | apply below_drew1 | refine below_set ?_ (IsS67.ge HI0.out)) | exact HB.out), by repeat (first | (with_reducible first | exact HK.out | apply KeepBut.set_ | apply keep_drewN | apply keep_drew | apply keep_alloc) | exact HK.out)⟩
/-! ### goprompt_Document_CursorPositionCol: function 35 -/
def goprompt_Document_CursorPositionCol.f (k : Nat) (s0_0 : ByteArray) (s0_1 : Int) : Option (Int × ByteArray × Int) := (goprompt_Document_findLineStartIndex.f k s0_0 s0_1 s0_1).bind fun bt183 => (some (wrap64 (bt183.2.2.2 - bt183.2.1), bt183.2.2.1, bt183.2.2.2))
theorem goprompt_Document_CursorPositionCol.mono : ∀ a0 a1 k, LeO (goprompt_Document_CursorPositionCol.f k a0 a1) (goprompt_Document_CursorPositionCol.f (k + 1) a0 a1) := by
  intro a0 a1 k
  unfold goprompt_Document_CursorPositionCol.f
  repeat' first
      | (with_reducible exact goprompt_Document_findLineStartIndex.mono _ _ _ _)
      | (with_reducible exact LeO.refl _)
      | (with_reducible exact LeO.none _)
      | (with_reducible refine LeO.ite ?_ ?_)
      | (with_reducible refine LeO.bind ?_ (fun _ => ?_))
      | exact goprompt_Document_findLineStartIndex.mono _ _ _ _
      | exact LeO.none _
      | refine LeO.ite ?_ ?_
      | refine LeO.bind ?_ (fun _ => ?_)
set_option maxHeartbeats 8000000 in
set_option maxRecDepth 100000 in
theorem goprompt_Document_CursorPositionCol.calls (k : Nat) (g : Nat) (s0_0 : ByteArray) (s0_1 : Int) (r1 : Int) (r2 : ByteArray) (r3 : Int) (w0 w : World) (hI : IsS67 w0 w g s0_0 s0_1) (hB : Below w0.heap.size w0 w) (h : goprompt_Document_CursorPositionCol.f k s0_0 s0_1 = some (r1, r2, r3)) :
    Calls Tryz.prog 35 #[.pointer (some ⟨g, 0, none⟩)] w fun e w' => e = .returned (.int .i64 r1) ∧ IsS67 w0 w' g r2 r3 ∧ Below w0.heap.size w0 w' ∧ KeepBut w w' g none := by
  have HI0 := Aside0.mk hI
  have HK := Aside0.mk (KeepBut.refl w g none)
  have HL := Aside0.mk hB.size
  clear hI
  have HW0 := Aside0.mk hB.size
  have HB := Aside0.mk hB
  clear hB
  have H : ((goprompt_Document_findLineStartIndex.f k s0_0 s0_1 s0_1).bind fun bt183 => (some (wrap64 (bt183.2.2.2 - bt183.2.1), bt183.2.2.1, bt183.2.2.2))) = some (r1, r2, r3) := h
  clear h
  replace H := Option.bind_eq_some_iff.mp H
  obtain ⟨⟨t183, t184, t185, t186⟩, A20, H⟩ := H
  replace H : (some (wrap64 (t186 - t184), t185, t186)) = some (r1, r2, r3) := H
  have A2 := Aside0.mk A20
  clear A20
  simp only [Option.some.injEq, Prod.mk.injEq] at H
  obtain ⟨rfl, rfl, rfl⟩ := H
  obtain ⟨HGz3, hgz3⟩ := HI0.out
  have hcz3_0 := cellS67_0 HGz3
  have hcz3_1 := cellS67_1 HGz3
  have hfz3_0 := blk_frozen HGz3 0
  have hfz3_1 := blk_frozen HGz3 1
  clear HGz3 hgz3
  go_enter Tryz.func35, Tryz.ntmps35
  go_wp2_with (first | ((with_reducible refine gate_callee (f := 57) rfl ?_); refine goesL_ (some 11) rfl rfl Tryz.func57 (by kernel_rfl) rfl #[.pointer (some ⟨g, 0, none⟩), .int .i64 s0_1] rfl (by (try simp only [List.map_toArray, List.map_cons, List.map_nil]); first | done | rfl | (simp only [List.length_drop, List.length_take]; rfl) | (simp only [Int.toNat_natCast, ByteArray.extract_zero_size]; rfl)) ?_; (with_reducible refine (goprompt_Document_findLineStartIndex.calls k g s0_0 s0_1 s0_1 t183 t184 t185 t186 w0 _ ?side1 ?side2 A2.out).mono ?_); (case side1 => repeat (first | (with_reducible first | exact HI0.out | apply IsS67.alloc | apply IsS67.drewN | apply IsS67.drew | apply IsS67.set_0 | apply IsS67.set_1) | exact HI0.out)); (case side2 => repeat (first | (with_reducible first | exact HB.out | apply below_alloc | apply pw_below_drewN | apply below_drew1 | refine below_set ?_ (IsS67.ge HI0.out)) | exact HB.out)); rintro e w4 ⟨rfl, hi, hb, hk⟩; refine ⟨_, rfl, ?_⟩; have n0_ := Aside0.mk (KeepBut.trans (by repeat (first | (with_reducible first | exact HK.out | apply KeepBut.set_ | apply keep_drewN | apply keep_drew | apply keep_alloc) | exact HK.out)) hk (.inl rfl)); have n1_ := Aside0.mk (hb); have n2_ := Aside0.mk (hi); clear HK; clear HB; clear HI0; have HK := n0_; have HB := n1_; have HI0 := n2_; clear n0_ n1_ n2_; (try clear hb); (try clear hb2); (try clear hk); (try clear hi); obtain ⟨HGz5, hgz5⟩ := HI0.out; have hcz5_0 := cellS67_0 HGz5; have hcz5_1 := cellS67_1 HGz5; have hfz5_0 := blk_frozen HGz5 0; have hfz5_1 := blk_frozen HGz5 1; clear HGz5 hgz5))
  go_ret
  exact ⟨by first | rfl | (simp [errW_none, errW_some] <;> rfl) | (simp [*, errW_none, errW_some] <;> rfl), by repeat (first | (with_reducible first | exact HI0.out | apply IsS67.alloc | apply IsS67.drewN | apply IsS67.drew | apply IsS67.set_0 | apply IsS67.set_1) | exact HI0.out), by repeat (first | (with_reducible first | exact HB.out | apply below_alloc | apply pw_below_drewN | apply below_drew1 | refine below_set ?_ (IsS67.ge HI0.out)) | exact HB.out), by repeat (first | (with_reducible first | exact HK.out | apply KeepBut.set_ | apply keep_drewN | apply keep_drew | apply keep_alloc) | exact HK.out)⟩
/-! ### goprompt_Document_OnLastLine: function 37 -/
def goprompt_Document_OnLastLine.f (k : Nat) (s0_0 : ByteArray) (s0_1 : Int) : Option (Bool × ByteArray × Int) := (goprompt_Document_CursorPositionRow.f k s0_0 s0_1).bind fun bt187 => ((goprompt_Document_LineCount.f k bt187.2.1 bt187.2.2).bind fun bt190 => (some ((bt187.1 == (wrap64 (bt190.1 - 1))), bt190.2.1, bt190.2.2)))
theorem goprompt_Document_OnLastLine.mono : ∀ a0 a1 k, LeO (goprompt_Document_OnLastLine.f k a0 a1) (goprompt_Document_OnLastLine.f (k + 1) a0 a1) := by
  intro a0 a1 k
  unfold goprompt_Document_OnLastLine.f
  repeat' first
      | (with_reducible exact goprompt_Document_CursorPositionRow.mono _ _ _)
      | (with_reducible exact goprompt_Document_LineCount.mono _ _ _)
      | (with_reducible exact LeO.refl _)
      | (with_reducible exact LeO.none _)
      | (with_reducible refine LeO.ite ?_ ?_)
      | (with_reducible refine LeO.bind ?_ (fun _ => ?_))
      | exact goprompt_Document_CursorPositionRow.mono _ _ _
      | exact goprompt_Document_LineCount.mono _ _ _
      | exact LeO.none _
      | refine LeO.ite ?_ ?_
      | refine LeO.bind ?_ (fun _ => ?_)
set_option maxHeartbeats 8000000 in
set_option maxRecDepth 100000 in
theorem goprompt_Document_OnLastLine.calls (k : Nat) (g : Nat) (s0_0 : ByteArray) (s0_1 : Int) (r1 : Bool) (r2 : ByteArray) (r3 : Int) (w0 w : World) (hI : IsS67 w0 w g s0_0 s0_1) (hB : Below w0.heap.size w0 w) (h : goprompt_Document_OnLastLine.f k s0_0 s0_1 = some (r1, r2, r3)) :
    Calls Tryz.prog 37 #[.pointer (some ⟨g, 0, none⟩)] w fun e w' => e = .returned (.bool r1) ∧ IsS67 w0 w' g r2 r3 ∧ Below w0.heap.size w0 w' ∧ KeepBut w w' g none := by
  have HI0 := Aside0.mk hI
  have HK := Aside0.mk (KeepBut.refl w g none)
  have HL := Aside0.mk hB.size
  clear hI
  have HW0 := Aside0.mk hB.size
  have HB := Aside0.mk hB
  clear hB
  have H : ((goprompt_Document_CursorPositionRow.f k s0_0 s0_1).bind fun bt187 => ((goprompt_Document_LineCount.f k bt187.2.1 bt187.2.2).bind fun bt190 => (some ((bt187.1 == (wrap64 (bt190.1 - 1))), bt190.2.1, bt190.2.2)))) = some (r1, r2, r3) := h
  clear h
  replace H := Option.bind_eq_some_iff.mp H
  obtain ⟨⟨t187, t188, t189⟩, A20, H⟩ := H
  replace H : ((goprompt_Document_LineCount.f k t188 t189).bind fun bt190 => (some ((t187 == (wrap64 (bt190.1 - 1))), bt190.2.1, bt190.2.2))) = some (r1, r2, r3) := H
  have A2 := Aside0.mk A20
  clear A20
  replace H := Option.bind_eq_some_iff.mp H
  obtain ⟨⟨t190, t191, t192⟩, A30, H⟩ := H
  replace H : (some ((t187 == (wrap64 (t190 - 1))), t191, t192)) = some (r1, r2, r3) := H
  have A3 := Aside0.mk A30
  clear A30
  simp only [Option.some.injEq, Prod.mk.injEq] at H
  obtain ⟨rfl, rfl, rfl⟩ := H
  go_enter Tryz.func37, Tryz.ntmps37
  go_wp2_with (first | ((with_reducible refine gate_callee (f := 34) rfl ?_); refine goesL_ (some 4) rfl rfl Tryz.func34 (by kernel_rfl) rfl #[.pointer (some ⟨g, 0, none⟩)] rfl (by (try simp only [List.map_toArray, List.map_cons, List.map_nil]); first | done | rfl | (simp only [List.length_drop, List.length_take]; rfl) | (simp only [Int.toNat_natCast, ByteArray.extract_zero_size]; rfl)) ?_; (with_reducible refine (goprompt_Document_CursorPositionRow.calls k g s0_0 s0_1 t187 t188 t189 w0 _ ?side1 ?side2 A2.out).mono ?_); (case side1 => repeat (first | (with_reducible first | exact HI0.out | apply IsS67.alloc | apply IsS67.drewN | apply IsS67.drew | apply IsS67.set_0 | apply IsS67.set_1) | exact HI0.out)); (case side2 => repeat (first | (with_reducible first | exact HB.out | apply below_alloc | apply pw_below_drewN | apply below_drew1 | refine below_set ?_ (IsS67.ge HI0.out)) | exact HB.out)); rintro e w4 ⟨rfl, hi, hb, hk⟩; refine ⟨_, rfl, ?_⟩; have n0_ := Aside0.mk (KeepBut.trans (by repeat (first | (with_reducible first | exact HK.out | apply KeepBut.set_ | apply keep_drewN | apply keep_drew | apply keep_alloc) | exact HK.out)) hk (.inl rfl)); have n1_ := Aside0.mk (hb); have n2_ := Aside0.mk (hi); clear HK; clear HB; clear HI0; have HK := n0_; have HB := n1_; have HI0 := n2_; clear n0_ n1_ n2_; (try clear hb); (try clear hb2); (try clear hk); (try clear hi)) | ((with_reducible refine gate_callee (f := 58) rfl ?_); refine goesL_ (some 6) rfl rfl Tryz.func58 (by kernel_rfl) rfl #[.pointer (some ⟨g, 0, none⟩)] rfl (by (try simp only [List.map_toArray, List.map_cons, List.map_nil]); first | done | rfl | (simp only [List.length_drop, List.length_take]; rfl) | (simp only [Int.toNat_natCast, ByteArray.extract_zero_size]; rfl)) ?_; (with_reducible refine (goprompt_Document_LineCount.calls k g t188 t189 t190 t191 t192 w0 _ ?side1 ?side2 A3.out).mono ?_); (case side1 => repeat (first | (with_reducible first | exact HI0.out | apply IsS67.alloc | apply IsS67.drewN | apply IsS67.drew | apply IsS67.set_0 | apply IsS67.set_1) | exact HI0.out)); (case side2 => repeat (first | (with_reducible first | exact HB.out | apply below_alloc | apply pw_below_drewN | apply below_drew1 | refine below_set ?_ (IsS67.ge HI0.out)) | exact HB.out)); rintro e w5 ⟨rfl, hi, hb, hk⟩; refine ⟨_, rfl, ?_⟩; have n0_ := Aside0.mk (KeepBut.trans (by repeat (first | (with_reducible first | exact HK.out | apply KeepBut.set_ | apply keep_drewN | apply keep_drew | apply keep_alloc) | exact HK.out)) hk (.inl rfl)); have n1_ := Aside0.mk (hb); have n2_ := Aside0.mk (hi); clear HK; clear HB; clear HI0; have HK := n0_; have HB := n1_; have HI0 := n2_; clear n0_ n1_ n2_; (try clear hb); (try clear hb2); (try clear hk); (try clear hi)))
  go_ret
  exact ⟨by first | rfl | (simp [errW_none, errW_some] <;> rfl) | (simp [*, errW_none, errW_some] <;> rfl), by repeat (first | (with_reducible first | exact HI0.out | apply IsS67.alloc | apply IsS67.drewN | apply IsS67.drew | apply IsS67.set_0 | apply IsS67.set_1) | exact HI0.out), by repeat (first | (with_reducible first | exact HB.out | apply below_alloc | apply pw_below_drewN | apply below_drew1 | refine below_set ?_ (IsS67.ge HI0.out)) | exact HB.out), by repeat (first | (with_reducible first | exact HK.out | apply KeepBut.set_ | apply keep_drewN | apply keep_drew | apply keep_alloc) | exact HK.out)⟩
/-! ### goprompt_Document_GetEndOfLinePosition: function 38 -/
def goprompt_Document_GetEndOfLinePosition.f (k : Nat) (s0_0 : ByteArray) (s0_1 : Int) : Option (Int × ByteArray × Int) := (goprompt_Document_CurrentLineAfterCursor.f k s0_0 s0_1).bind fun bt193 => (if (runesOf bt193.1).length ≤ 70368744177664 then (some (((runesOf bt193.1).length : Int), bt193.2.1, bt193.2.2)) else (none))
theorem goprompt_Document_GetEndOfLinePosition.mono : ∀ a0 a1 k, LeO (goprompt_Document_GetEndOfLinePosition.f k a0 a1) (goprompt_Document_GetEndOfLinePosition.f (k + 1) a0 a1) := by
  intro a0 a1 k
  unfold goprompt_Document_GetEndOfLinePosition.f
  repeat' first
      | (with_reducible exact goprompt_Document_CurrentLineAfterCursor.mono _ _ _)
      | (with_reducible exact LeO.refl _)
      | (with_reducible exact LeO.none _)
      | (with_reducible refine LeO.ite ?_ ?_)
      | (with_reducible refine LeO.bind ?_ (fun _ => ?_))
      | exact goprompt_Document_CurrentLineAfterCursor.mono _ _ _
      | exact LeO.none _
      | refine LeO.ite ?_ ?_
      | refine LeO.bind ?_ (fun _ => ?_)
set_option maxHeartbeats 8000000 in
set_option maxRecDepth 100000 in
theorem goprompt_Document_GetEndOfLinePosition.calls (k : Nat) (g : Nat) (s0_0 : ByteArray) (s0_1 : Int) (r1 : Int) (r2 : ByteArray) (r3 : Int) (w0 w : World) (hI : IsS67 w0 w g s0_0 s0_1) (hB : Below w0.heap.size w0 w) (h : goprompt_Document_GetEndOfLinePosition.f k s0_0 s0_1 = some (r1, r2, r3)) :
    Calls Tryz.prog 38 #[.pointer (some ⟨g, 0, none⟩)] w fun e w' => e = .returned (.int .i64 r1) ∧ IsS67 w0 w' g r2 r3 ∧ Below w0.heap.size w0 w' ∧ KeepBut w w' g none := by
  have HI0 := Aside0.mk hI
  have HK := Aside0.mk (KeepBut.refl w g none)
  have HL := Aside0.mk hB.size
  clear hI
  have HW0 := Aside0.mk hB.size
  have HB := Aside0.mk hB
  clear hB
  have H : ((goprompt_Document_CurrentLineAfterCursor.f k s0_0 s0_1).bind fun bt193 => (if (runesOf bt193.1).length ≤ 70368744177664 then (some (((runesOf bt193.1).length : Int), bt193.2.1, bt193.2.2)) else (none))) = some (r1, r2, r3) := h
  clear h
  replace H := Option.bind_eq_some_iff.mp H
  obtain ⟨⟨t193, t194, t195⟩, A20, H⟩ := H
  replace H : (if (runesOf t193).length ≤ 70368744177664 then (some (((runesOf t193).length : Int), t194, t195)) else (none)) = some (r1, r2, r3) := H
  have A2 := Aside0.mk A20
  clear A20
  by_cases c3 : (runesOf t193).length ≤ 70368744177664
  · rw [if_pos c3] at H
    have c3b0 := eq_true c3
    have c3b1 : decide ((runesOf t193).length ≤ 70368744177664) = true := decide_eq_true c3
    clear c3
    obtain ⟨y196, hy196⟩ : ∃ y_ : List Int, y_ = (runesOf t193) := ⟨_, rfl⟩
    replace H : (some ((y196.length : Int), t194, t195)) = some (r1, r2, r3) := by first | (rw [hy196]; with_reducible exact H) | (have H2_ := (Option.bind_some _ _).symm.trans H; rw [hy196]; with_reducible exact H2_) | (have H2_ := (Option.bind_some _ _).symm.trans H; with_reducible exact H2_) | with_reducible exact H | (rw [hy196]; exact H) | exact H
    have Ny196 := Aside0.mk hy196
    clear hy196
    simp only [Option.some.injEq, Prod.mk.injEq] at H
    obtain ⟨rfl, rfl, rfl⟩ := H
    go_enter Tryz.func38, Tryz.ntmps38
    go_wp2_with (first | ((with_reducible refine gate_callee (f := 32) rfl ?_); refine goesL_ (some 4) rfl rfl Tryz.func32 (by kernel_rfl) rfl #[.pointer (some ⟨g, 0, none⟩)] rfl (by (try simp only [List.map_toArray, List.map_cons, List.map_nil]); first | done | rfl | (simp only [List.length_drop, List.length_take]; rfl) | (simp only [Int.toNat_natCast, ByteArray.extract_zero_size]; rfl)) ?_; (with_reducible refine (goprompt_Document_CurrentLineAfterCursor.calls k g s0_0 s0_1 t193 t194 t195 w0 _ ?side1 ?side2 A2.out).mono ?_); (case side1 => repeat (first | (with_reducible first | exact HI0.out | apply IsS67.alloc | apply IsS67.drewN | apply IsS67.drew | apply IsS67.set_0 | apply IsS67.set_1) | exact HI0.out)); (case side2 => repeat (first | (with_reducible first | exact HB.out | apply below_alloc | apply pw_below_drewN | apply below_drew1 | refine below_set ?_ (IsS67.ge HI0.out)) | exact HB.out)); rintro e w4 ⟨rfl, hi, hb, hk⟩; refine ⟨_, rfl, ?_⟩; have n0_ := Aside0.mk (KeepBut.trans (by repeat (first | (with_reducible first | exact HK.out | apply KeepBut.set_ | apply keep_drewN | apply keep_drew | apply keep_alloc) | exact HK.out)) hk (.inl rfl)); have n1_ := Aside0.mk (hb); have n2_ := Aside0.mk (hi); clear HK; clear HB; clear HI0; have HK := n0_; have HB := n1_; have HI0 := n2_; clear n0_ n1_ n2_; (try clear hb); (try clear hb2); (try clear hk); (try clear hi)) | ((with_reducible refine gate_dst (N := 5) rfl ?_); refine R_runes _ 21 rfl (N := 5) rfl 9 58 _ rfl t193 rfl Tryz.underlying9 Tryz.underlying58 Tryz.underlying21 (ok := fun _ => True) (okp := fun _ => True) (fun _ hk => hk) trivial (of_decide_eq_true (by first | (with_reducible assumption) | assumption)) (Below.refl _ _) (Nat.le_refl _) ?_; intro v197 w5 ho6 hb hg_ hnew_; clear hg_ hnew_; (first | rw [← Ny196.out] at ho6 | (simp only [Int.reduceToNat] at ho6; rw [← Ny196.out] at ho6)); have n0_ := Aside0.mk (Kd.R_lower ho6 (keep_size (w := w) (g := g) (row := none) (by repeat (first | (with_reducible first | exact HK.out | apply KeepBut.set_ | apply keep_drewN | apply keep_drew | apply keep_alloc) | exact HK.out)))); have n1_ := Aside0.mk (IsS67.below (by repeat (first | (with_reducible first | exact HI0.out | apply IsS67.alloc | apply IsS67.drewN | apply IsS67.drew | apply IsS67.set_0 | apply IsS67.set_1) | exact HI0.out)) hb); have n2_ := Aside0.mk (KeepBut.trans (by repeat (first | (with_reducible first | exact HK.out | apply KeepBut.set_ | apply keep_drewN | apply keep_drew | apply keep_alloc) | exact HK.out)) (KeepBut.of_below hb g none) (.inl rfl)); have n3_ := Aside0.mk (below_step (by repeat (first | (with_reducible first | exact HB.out | apply below_alloc | apply pw_below_drewN | apply below_drew1 | refine below_set ?_ (IsS67.ge HI0.out)) | exact HB.out)) hb); clear HI0; clear HK; clear HB; have HO198 := n0_; have HI0 := n1_; have HK := n2_; have HB := n3_; clear n0_ n1_ n2_ n3_; clear hb ho6; obtain ⟨Ao7, co7, eo7⟩ := Kd.R_slice HO198.out; subst eo7))
    go_ret
    exact ⟨by first | rfl | (simp [errW_none, errW_some] <;> rfl) | (simp [*, errW_none, errW_some] <;> rfl), by repeat (first | (with_reducible first | exact HI0.out | apply IsS67.alloc | apply IsS67.drewN | apply IsS67.drew | apply IsS67.set_0 | apply IsS67.set_1) | exact HI0.out), by repeat (first | (with_reducible first | exact HB.out | apply below_alloc | apply pw_below_drewN | apply below_drew1 | refine below_set ?_ (IsS67.ge HI0.out)) | exact HB.out), by repeat (first | (with_reducible first | exact HK.out | apply KeepBut.set_ | apply keep_drewN | apply keep_drew | apply keep_alloc) | exact HK.out)⟩
  · rw [if_neg c3] at H
    exact absurd H (by simp)
/-! ### bytealg_LastIndexByteString: function 118 -/
def bytealg_LastIndexByteString.l0 : Nat → ByteArray → Int → Int → Option (Int)
  | 0, _, _, _ => none
  | k + 1, x0, x1, x5 => if x5 ≥ 0 then (if 0 ≤ x5 then (if x5 < (x0.size : Int) then (if (bt x0 x5) = x1 then (some x5) else (bytealg_LastIndexByteString.l0 k x0 x1 (wrap64 (x5 - 1)))) else (none)) else (none)) else (some (-1))
def bytealg_LastIndexByteString.f (k : Nat) (a0 : ByteArray) (a1 : Int) : Option (Int) := bytealg_LastIndexByteString.l0 k a0 a1 (wrap64 ((a0.size : Int) - 1))
theorem bytealg_LastIndexByteString.mono_l : ∀ k, (∀ y0 y1 y2, LeO (bytealg_LastIndexByteString.l0 k y0 y1 y2) (bytealg_LastIndexByteString.l0 (k + 1) y0 y1 y2))
  | 0 => fun _ _ _ r h => by simp [bytealg_LastIndexByteString.l0] at h
  | k + 1 => by
    have ih0 := bytealg_LastIndexByteString.mono_l k
    · intro y0 y1 y2
      unfold bytealg_LastIndexByteString.l0
      repeat' first
      | (with_reducible exact ih0 _ _ _)
      | (with_reducible exact LeO.refl _)
      | (with_reducible exact LeO.none _)
      | (with_reducible refine LeO.ite ?_ ?_)
      | (with_reducible refine LeO.bind ?_ (fun _ => ?_))
      | exact ih0 _ _ _
      | exact LeO.none _
      | refine LeO.ite ?_ ?_
      | refine LeO.bind ?_ (fun _ => ?_)
theorem bytealg_LastIndexByteString.mono : ∀ a0 a1 k, LeO (bytealg_LastIndexByteString.f k a0 a1) (bytealg_LastIndexByteString.f (k + 1) a0 a1) := by
  intro a0 a1 k
  have ih0 := bytealg_LastIndexByteString.mono_l k
  unfold bytealg_LastIndexByteString.f
  repeat' first
      | (with_reducible exact ih0 _ _ _)
      | (with_reducible exact LeO.refl _)
      | (with_reducible exact LeO.none _)
      | (with_reducible refine LeO.ite ?_ ?_)
      | (with_reducible refine LeO.bind ?_ (fun _ => ?_))
      | exact ih0 _ _ _
      | exact LeO.none _
      | refine LeO.ite ?_ ?_
      | refine LeO.bind ?_ (fun _ => ?_)
set_option maxHeartbeats 8000000 in
set_option maxRecDepth 100000 in
theorem bytealg_LastIndexByteString.calls (k : Nat) (a0 : ByteArray) (a1 : Int) (r : Int) (w : World) (h : bytealg_LastIndexByteString.f k a0 a1 = some r) :
    Calls Tryz.prog 118 #[.string a0, .int .u8 a1] w fun e w' => e = .returned (.int .i64 r) ∧ Drawn0 w w' := by
  have H : (bytealg_LastIndexByteString.l0 k a0 a1 (wrap64 ((a0.size : Int) - 1))) = some r := h
  clear h
  have H' := Aside0.mk H
  clear H
  go_enter Tryz.func118, Tryz.ntmps118
  go_wp2
  go_loopg [5] k (fun kq v5 w' => ∃ (x5_1 : Int), v5 = .int .i64 x5_1 ∧ Aside0 (bytealg_LastIndexByteString.l0 kq a0 a1 x5_1 = some r) ∧ Aside0 (kq ≤ k) ∧ Drawn0 w w')
  case atStart => exact ⟨(wrap64 ((a0.size : Int) - 1)), (by first | rfl | (simp; done) | (simp [*]; done)), H', ⟨Nat.le_refl _⟩, by repeat (first | exact Drawn0.refl _ | apply Drawn0.step)⟩
  case round =>
    clear H'
    try clear c1
    try clear p2
    obtain ⟨x5_1, rfl, HA, HK1, ⟨m1, rfl⟩⟩ := hrel
    cases gk with
    | zero => exact absurd HA.out (by simp [bytealg_LastIndexByteString.l0])
    | succ k1 =>
      have H := HA.out
      clear HA
      simp only [bytealg_LastIndexByteString.l0] at H
      by_cases c3 : x5_1 ≥ 0
      · rw [if_pos c3] at H
        have c3b0 : decide (0 ≤ x5_1) = true := decide_eq_true c3
        clear c3
        by_cases c4 : 0 ≤ x5_1
        · rw [if_pos c4] at H
          have c4b0 : decide (0 ≤ x5_1) = true := decide_eq_true c4
          clear c4
          by_cases c5 : x5_1 < (a0.size : Int)
          · rw [if_pos c5] at H
            have c5b0 : decide (x5_1 < (a0.size : Int)) = true := decide_eq_true c5
            clear c5
            by_cases c7 : (bt a0 x5_1) = a1
            · rw [if_pos c7] at H
              have c7b0 : ((bt a0 x5_1) == a1) = true := beq_iff_eq.mpr c7
              have c7b1 : ((bt a0 x5_1) != a1) = false := bne_eq_false_iff_eq.mpr c7
              clear c7
              obtain rfl := Option.some.inj H
              have p6 : 0 ≤ (x5_1 : Int) := of_decide_eq_true (by first | (with_reducible assumption) | assumption)
              have q6 : x5_1 < (a0.size : Int) := of_decide_eq_true (by first | (with_reducible assumption) | assumption)
              have hx6 := bt_at a0 x5_1
              replace p6 := eq_true p6
              replace q6 := eq_true q6
              go_wp2
              go_ret
              exact ⟨by first | rfl | (simp; done) | (simp [*]; done), by repeat (first | exact Drawn0.refl _ | apply Drawn0.step)⟩
            · rw [if_neg c7] at H
              have c7b0 : ((bt a0 x5_1) == a1) = false := beq_eq_false_iff_ne.mpr c7
              have c7b1 : ((bt a0 x5_1) != a1) = true := bne_iff_ne.mpr c7
              have H' := Aside0.mk H
              clear H
              have p6 : 0 ≤ (x5_1 : Int) := of_decide_eq_true (by first | (with_reducible assumption) | assumption)
              have q6 : x5_1 < (a0.size : Int) := of_decide_eq_true (by first | (with_reducible assumption) | assumption)
              have hx6 := bt_at a0 x5_1
              replace p6 := eq_true p6
              replace q6 := eq_true q6
              go_wp2
              go_roundg k1
              case measure => have := HK1.out; omega
              case rel => exact ⟨(wrap64 (x5_1 - 1)), (by first | rfl | (simp; done) | (simp [*]; done)), H', ⟨by have := HK1.out; omega⟩, by repeat (first | exact Drawn0.refl _ | apply Drawn0.step)⟩
          · rw [if_neg c5] at H
            exact absurd H (by simp)
        · rw [if_neg c4] at H
          exact absurd H (by simp)
      · rw [if_neg c3] at H
        have c3b0 : decide (0 ≤ x5_1) = false := decide_eq_false c3
        clear c3
        obtain rfl := Option.some.inj H
        go_wp2
        go_ret
        exact ⟨by first | rfl | (simp; done) | (simp [*]; done), by repeat (first | exact Drawn0.refl _ | apply Drawn0.step)⟩
/-! ### strings_LastIndexByte: function 92 -/
def strings_LastIndexByte.f (k : Nat) (a0 : ByteArray) (a1 : Int) : Option (Int) := (bytealg_LastIndexByteString.f k a0 a1).bind fun t199 => (some t199)
theorem strings_LastIndexByte.mono : ∀ a0 a1 k, LeO (strings_LastIndexByte.f k a0 a1) (strings_LastIndexByte.f (k + 1) a0 a1) := by
  intro a0 a1 k
  unfold strings_LastIndexByte.f
  repeat' first
      | (with_reducible exact bytealg_LastIndexByteString.mono _ _ _)
      | (with_reducible exact LeO.refl _)
      | (with_reducible exact LeO.none _)
      | (with_reducible refine LeO.ite ?_ ?_)
      | (with_reducible refine LeO.bind ?_ (fun _ => ?_))
      | exact bytealg_LastIndexByteString.mono _ _ _
      | exact LeO.none _
      | refine LeO.ite ?_ ?_
      | refine LeO.bind ?_ (fun _ => ?_)
set_option maxHeartbeats 8000000 in
set_option maxRecDepth 100000 in
theorem strings_LastIndexByte.calls (k : Nat) (a0 : ByteArray) (a1 : Int) (r : Int) (w : World) (h : strings_LastIndexByte.f k a0 a1 = some r) :
    Calls Tryz.prog 92 #[.string a0, .int .u8 a1] w fun e w' => e = .returned (.int .i64 r) ∧ Drawn0 w w' := by
  have H : ((bytealg_LastIndexByteString.f k a0 a1).bind fun t199 => (some t199)) = some r := h
  clear h
  replace H := Option.bind_eq_some_iff.mp H
  obtain ⟨t199, A30, H⟩ := H
  replace H : (some t199) = some r := H
  have A3 := Aside0.mk A30
  clear A30
  obtain rfl := Option.some.inj H
  go_enter Tryz.func92, Tryz.ntmps92
  go_wp2_with (first | ((with_reducible refine gate_callee (f := 118) rfl ?_); refine goesL_ (some 7) rfl rfl Tryz.func118 (by kernel_rfl) rfl #[.string a0, .int .u8 a1] rfl (by (try simp only [List.map_toArray, List.map_cons, List.map_nil]); first | done | rfl | (simp only [List.length_drop, List.length_take]; rfl) | (simp only [Int.toNat_natCast, ByteArray.extract_zero_size]; rfl)) ?_; (with_reducible refine (bytealg_LastIndexByteString.calls k a0 a1 t199 _ A3.out).mono ?_); rintro e w' ⟨rfl, ⟨nd, rfl⟩⟩; refine ⟨_, rfl, ?_⟩))
  go_ret
  exact ⟨by first | rfl | (simp; done) | (simp [*]; done), by repeat (first | exact Drawn0.refl _ | apply Drawn0.step)⟩
/-! ### goprompt_Document_FindStartOfPreviousWord: function 59 -/
def goprompt_Document_FindStartOfPreviousWord.f (k : Nat) (s0_0 : ByteArray) (s0_1 : Int) : Option (Int × ByteArray × Int) := (goprompt_Document_TextBeforeCursor.f s0_0 s0_1).bind fun bt200 => ((strings_LastIndexByte.f k bt200.1 32).bind fun t203 => (if t203 = (-1) then (some (0, bt200.2.1, bt200.2.2)) else (some (wrap64 (t203 + 1), bt200.2.1, bt200.2.2))))
theorem goprompt_Document_FindStartOfPreviousWord.mono : ∀ a0 a1 k, LeO (goprompt_Document_FindStartOfPreviousWord.f k a0 a1) (goprompt_Document_FindStartOfPreviousWord.f (k + 1) a0 a1) := by
  intro a0 a1 k
  unfold goprompt_Document_FindStartOfPreviousWord.f
  repeat' first
      | (with_reducible exact strings_LastIndexByte.mono _ _ _)
      | (with_reducible exact LeO.refl _)
      | (with_reducible exact LeO.none _)
      | (with_reducible refine LeO.ite ?_ ?_)
      | (with_reducible refine LeO.bind ?_ (fun _ => ?_))
      | exact strings_LastIndexByte.mono _ _ _
      | exact LeO.none _
      | refine LeO.ite ?_ ?_
      | refine LeO.bind ?_ (fun _ => ?_)
set_option maxHeartbeats 8000000 in
set_option maxRecDepth 100000 in
theorem goprompt_Document_FindStartOfPreviousWord.calls (k : Nat) (g : Nat) (s0_0 : ByteArray) (s0_1 : Int) (r1 : Int) (r2 : ByteArray) (r3 : Int) (w0 w : World) (hI : IsS67 w0 w g s0_0 s0_1) (hB : Below w0.heap.size w0 w) (h : goprompt_Document_FindStartOfPreviousWord.f k s0_0 s0_1 = some (r1, r2, r3)) :
    Calls Tryz.prog 59 #[.pointer (some ⟨g, 0, none⟩)] w fun e w' => e = .returned (.int .i64 r1) ∧ IsS67 w0 w' g r2 r3 ∧ Below w0.heap.size w0 w' ∧ KeepBut w w' g none := by
  have HI0 := Aside0.mk hI
  have HK := Aside0.mk (KeepBut.refl w g none)
  have HL := Aside0.mk hB.size
  clear hI
  have HW0 := Aside0.mk hB.size
  have HB := Aside0.mk hB
  clear hB
  have H : ((goprompt_Document_TextBeforeCursor.f s0_0 s0_1).bind fun bt200 => ((strings_LastIndexByte.f k bt200.1 32).bind fun t203 => (if t203 = (-1) then (some (0, bt200.2.1, bt200.2.2)) else (some (wrap64 (t203 + 1), bt200.2.1, bt200.2.2))))) = some (r1, r2, r3) := h
  clear h
  replace H := Option.bind_eq_some_iff.mp H
  obtain ⟨⟨t200, t201, t202⟩, A20, H⟩ := H
  replace H : ((strings_LastIndexByte.f k t200 32).bind fun t203 => (if t203 = (-1) then (some (0, t201, t202)) else (some (wrap64 (t203 + 1), t201, t202)))) = some (r1, r2, r3) := H
  have A2 := Aside0.mk A20
  clear A20
  replace H := Option.bind_eq_some_iff.mp H
  obtain ⟨t203, A30, H⟩ := H
  replace H : (if t203 = (-1) then (some (0, t201, t202)) else (some (wrap64 (t203 + 1), t201, t202))) = some (r1, r2, r3) := H
  have A3 := Aside0.mk A30
  clear A30
  by_cases c4 : t203 = (-1)
  · rw [if_pos c4] at H
    have c4b0 : (t203 == (-1)) = true := beq_iff_eq.mpr c4
    have c4b1 : (t203 != (-1)) = false := bne_eq_false_iff_eq.mpr c4
    clear c4
    simp only [Option.some.injEq, Prod.mk.injEq] at H
    obtain ⟨rfl, rfl, rfl⟩ := H
    go_enter Tryz.func59, Tryz.ntmps59
    go_wp2_with (first | ((with_reducible refine gate_callee (f := 29) rfl ?_); refine goesL_ (some 6) rfl rfl Tryz.func29 (by kernel_rfl) rfl #[.pointer (some ⟨g, 0, none⟩)] rfl (by (try simp only [List.map_toArray, List.map_cons, List.map_nil]); first | done | rfl | (simp only [List.length_drop, List.length_take]; rfl) | (simp only [Int.toNat_natCast, ByteArray.extract_zero_size]; rfl)) ?_; (with_reducible refine (goprompt_Document_TextBeforeCursor.calls g s0_0 s0_1 t200 t201 t202 w0 _ ?side1 ?side2 A2.out).mono ?_); (case side1 => repeat (first | (with_reducible first | exact HI0.out | apply IsS67.alloc | apply IsS67.drewN | apply IsS67.drew | apply IsS67.set_0 | apply IsS67.set_1) | exact HI0.out)); (case side2 => repeat (first | (with_reducible first | exact HB.out | apply below_alloc | apply pw_below_drewN | apply below_drew1 | refine below_set ?_ (IsS67.ge HI0.out)) | exact HB.out)); rintro e w5 ⟨rfl, hi, hb, hk⟩; refine ⟨_, rfl, ?_⟩; have n0_ := Aside0.mk (KeepBut.trans (by repeat (first | (with_reducible first | exact HK.out | apply KeepBut.set_ | apply keep_drewN | apply keep_drew | apply keep_alloc) | exact HK.out)) hk (.inl rfl)); have n1_ := Aside0.mk (hb); have n2_ := Aside0.mk (hi); clear HK; clear HB; clear HI0; have HK := n0_; have HB := n1_; have HI0 := n2_; clear n0_ n1_ n2_; (try clear hb); (try clear hb2); (try clear hk); (try clear hi)) | ((with_reducible refine gate_callee (f := 92) rfl ?_); refine goesL_ (some 8) rfl rfl Tryz.func92 (by kernel_rfl) rfl #[.string t200, .int .u8 32] rfl (by (try simp only [List.map_toArray, List.map_cons, List.map_nil]); first | done | rfl | (simp only [List.length_drop, List.length_take]; rfl) | (simp only [Int.toNat_natCast, ByteArray.extract_zero_size]; rfl)) ?_; (with_reducible refine (strings_LastIndexByte.calls k t200 32 t203 _ A3.out).mono ?_); rintro e w' ⟨rfl, ⟨nd, rfl⟩⟩; refine ⟨_, rfl, ?_⟩))
    go_ret
    exact ⟨by first | rfl | (simp [errW_none, errW_some] <;> rfl) | (simp [*, errW_none, errW_some] <;> rfl), by repeat (first | (with_reducible first | exact HI0.out | apply IsS67.alloc | apply IsS67.drewN | apply IsS67.drew | apply IsS67.set_0 | apply IsS67.set_1) | exact HI0.out), by repeat (first | (with_reducible first | exact HB.out | apply below_alloc | apply pw_below_drewN | apply below_drew1 | refine below_set ?_ (IsS67.ge HI0.out)) | exact HB.out), by repeat (first | (with_reducible first | exact HK.out | apply KeepBut.set_ | apply keep_drewN | apply keep_drew | apply keep_alloc) | exact HK.out)⟩
  · rw [if_neg c4] at H
    have c4b0 : (t203 == (-1)) = false := beq_eq_false_iff_ne.mpr c4
    have c4b1 : (t203 != (-1)) = true := bne_iff_ne.mpr c4
    simp only [Option.some.injEq, Prod.mk.injEq] at H
    obtain ⟨rfl, rfl, rfl⟩ := H
    go_enter Tryz.func59, Tryz.ntmps59
    go_wp2_with (first | ((with_reducible refine gate_callee (f := 29) rfl ?_); refine goesL_ (some 6) rfl rfl Tryz.func29 (by kernel_rfl) rfl #[.pointer (some ⟨g, 0, none⟩)] rfl (by (try simp only [List.map_toArray, List.map_cons, List.map_nil]); first | done | rfl | (simp only [List.length_drop, List.length_take]; rfl) | (simp only [Int.toNat_natCast, ByteArray.extract_zero_size]; rfl)) ?_; (with_reducible refine (goprompt_Document_TextBeforeCursor.calls g s0_0 s0_1 t200 t201 t202 w0 _ ?side1 ?side2 A2.out).mono ?_); (case side1 => repeat (first | (with_reducible first | exact HI0.out | apply IsS67.alloc | apply IsS67.drewN | apply IsS67.drew | apply IsS67.set_0 | apply IsS67.set_1) | exact HI0.out)); (case side2 => repeat (first | (with_reducible first | exact HB.out | apply below_alloc | apply pw_below_drewN | apply below_drew1 | refine below_set ?_ (IsS67.ge HI0.out)) | exact HB.out)); rintro e w6 ⟨rfl, hi, hb, hk⟩; refine ⟨_, rfl, ?_⟩; have n0_ := Aside0.mk (KeepBut.trans (by repeat (first | (with_reducible first | exact HK.out | apply KeepBut.set_ | apply keep_drewN | apply keep_drew | apply keep_alloc) | exact HK.out)) hk (.inl rfl)); have n1_ := Aside0.mk (hb); have n2_ := Aside0.mk (hi); clear HK; clear HB; clear HI0; have HK := n0_; have HB := n1_; have HI0 := n2_; clear n0_ n1_ n2_; (try clear hb); (try clear hb2); (try clear hk); (try clear hi)) | ((with_reducible refine gate_callee (f := 92) rfl ?_); refine goesL_ (some 8) rfl rfl Tryz.func92 (by kernel_rfl) rfl #[.string t200, .int .u8 32] rfl (by (try simp only [List.map_toArray, List.map_cons, List.map_nil]); first | done | rfl | (simp only [List.length_drop, List.length_take]; rfl) | (simp only [Int.toNat_natCast, ByteArray.extract_zero_size]; rfl)) ?_; (with_reducible refine (strings_LastIndexByte.calls k t200 32 t203 _ A3.out).mono ?_); rintro e w' ⟨rfl, ⟨nd, rfl⟩⟩; refine ⟨_, rfl, ?_⟩))
    go_ret
    exact ⟨by first | rfl | (simp [errW_none, errW_some] <;> rfl) | (simp [*, errW_none, errW_some] <;> rfl), by repeat (first | (with_reducible first | exact HI0.out | apply IsS67.alloc | apply IsS67.drewN | apply IsS67.drew | apply IsS67.set_0 | apply IsS67.set_1) | exact HI0.out), by repeat (first | (with_reducible first | exact HB.out | apply below_alloc | apply pw_below_drewN | apply below_drew1 | refine below_set ?_ (IsS67.ge HI0.out)) | exact HB.out), by repeat (first | (with_reducible first | exact HK.out | apply KeepBut.set_ | apply keep_drewN | apply keep_drew | apply keep_alloc) | exact HK.out)⟩
end Go.Proofs.YtkfmjkiefckgoaaGreatDoor.PAroundOf
