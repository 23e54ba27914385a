/- Printed by a program of this seat (xprint) out of the translation: Go functions as plain functions, and the walks that show them; no condition. -/
import Derived.Test.YtkfmjkiefckgoaaGreatDoorQPAroundOfx0
import Derived.Test.YtkfmjkiefckgoaaGreatDoorQHBisectR
import Derived.Test.YtkfmjkiefckgoaaGreatDoorQHIndexByte
import Derived.Test.YtkfmjkiefckgoaaGreatDoorQHDocument
namespace Go.Proofs.YtkfmjkiefckgoaaGreatDoor.PAroundOf
open Go.RowKit Go.Proofs.YtkfmjkiefckgoaaGreatDoor.H Go.Proofs.YtkfmjkiefckgoaaGreatDoor.R Go.Proofs.YtkfmjkiefckgoaaGreatDoorW.PrintWords Go.Proofs.YtkfmjkiefckgoaaGreatDoorW.PrintLast Go.Proofs.YtkfmjkiefckgoaaGreatDoorW.PrintMore
attribute [local go_sem] max2_int min2_int max_two min_two max_three min_three max_four min_four   -- for this text's walks alone
set_option linter.unusedVariables false
set_option linter.unusedSimpArgs false
/-! ### goprompt_Document_TextBeforeCursor: function 29 -/
def goprompt_Document_TextBeforeCursor.f (s0_0 : ByteArray) (s0_1 : Int) : Option (ByteArray × ByteArray × Int) := if (runesOf s0_0).length ≤ 70368744177664 then ((some (runesOf s0_0 : List Int)).bind fun y101 => (if 0 ≤ s0_1 then (if s0_1 ≤ (y101.length : Int) then (some (runesBytes (y101.take (s0_1 : Int).toNat), s0_0, s0_1)) else (none)) else (none))) else (none)
set_option maxHeartbeats 8000000 in
set_option maxRecDepth 100000 in
theorem goprompt_Document_TextBeforeCursor.calls (g : Nat) (s0_0 : ByteArray) (s0_1 : Int) (r1 : ByteArray) (r2 : ByteArray) (r3 : Int) (w0 w : World) (hI : IsS67 w0 w g s0_0 s0_1) (hB : Below w0.heap.size w0 w) (h : goprompt_Document_TextBeforeCursor.f s0_0 s0_1 = some (r1, r2, r3)) :
    Calls Tryz.prog 29 #[.pointer (some ⟨g, 0, none⟩)] w fun e w' => e = .returned (.string r1) ∧ IsS67 w0 w' g r2 r3 ∧ Below w0.heap.size w0 w' ∧ KeepBut w w' g none := by
  have HI0 := Aside0.mk hI
  have HK := Aside0.mk (KeepBut.refl w g none)
  have HL := Aside0.mk hB.size
  clear hI
  have HW0 := Aside0.mk hB.size
  have HB := Aside0.mk hB
  clear hB
  have H : (if (runesOf s0_0).length ≤ 70368744177664 then ((some (runesOf s0_0 : List Int)).bind fun y101 => (if 0 ≤ s0_1 then (if s0_1 ≤ (y101.length : Int) then (some (runesBytes (y101.take (s0_1 : Int).toNat), s0_0, s0_1)) else (none)) else (none))) else (none)) = some (r1, r2, r3) := h
  clear h
  by_cases c2 : (runesOf s0_0).length ≤ 70368744177664
  · rw [if_pos c2] at H
    have c2b0 := eq_true c2
    have c2b1 : decide ((runesOf s0_0).length ≤ 70368744177664) = true := decide_eq_true c2
    clear c2
    obtain ⟨y101, hy101⟩ : ∃ y_ : List Int, y_ = (runesOf s0_0) := ⟨_, rfl⟩
    replace H : (if 0 ≤ s0_1 then (if s0_1 ≤ (y101.length : Int) then (some (runesBytes (y101.take (s0_1 : Int).toNat), s0_0, s0_1)) else (none)) else (none)) = some (r1, r2, r3) := by first | (rw [hy101]; with_reducible exact H) | (have H2_ := (Option.bind_some _ _).symm.trans H; rw [hy101]; with_reducible exact H2_) | (have H2_ := (Option.bind_some _ _).symm.trans H; with_reducible exact H2_) | with_reducible exact H | (rw [hy101]; exact H) | exact H
    have Ny101 := Aside0.mk hy101
    clear hy101
    by_cases c3 : 0 ≤ s0_1
    · rw [if_pos c3] at H
      have c3b0 := eq_true c3
      have c3b1 : decide (0 ≤ s0_1) = true := decide_eq_true c3
      clear c3
      by_cases c4 : s0_1 ≤ (y101.length : Int)
      · rw [if_pos c4] at H
        have c4b0 := eq_true c4
        have c4b1 : decide (s0_1 ≤ (y101.length : Int)) = true := decide_eq_true c4
        clear c4
        obtain ⟨y104, hy104⟩ : ∃ y_ : List Int, y_ = (y101.take (s0_1 : Int).toNat) := ⟨_, rfl⟩
        replace H : (some (runesBytes y104, s0_0, s0_1)) = some (r1, r2, r3) := by first | (rw [hy104]; with_reducible exact H) | (have H2_ := (Option.bind_some _ _).symm.trans H; rw [hy104]; with_reducible exact H2_) | (have H2_ := (Option.bind_some _ _).symm.trans H; with_reducible exact H2_) | with_reducible exact H | (rw [hy104]; exact H) | exact H
        have Ny104 := Aside0.mk hy104
        clear hy104
        simp only [Option.some.injEq, Prod.mk.injEq] at H
        obtain ⟨rfl, rfl, rfl⟩ := H
        obtain ⟨HGz5, hgz5⟩ := HI0.out
        have hcz5_0 := cellS67_0 HGz5
        have hcz5_1 := cellS67_1 HGz5
        have hfz5_0 := blk_frozen HGz5 0
        have hfz5_1 := blk_frozen HGz5 1
        clear HGz5 hgz5
        go_enter Tryz.func29, Tryz.ntmps29
        go_wp2_with (first | ((with_reducible refine gate_dst (N := 8) rfl ?_); refine R_runes _ 21 rfl (N := 8) rfl 9 58 _ rfl s0_0 rfl Tryz.underlying9 Tryz.underlying58 Tryz.underlying21 (ok := fun _ => True) (okp := fun _ => True) (fun _ hk => hk) trivial (of_decide_eq_true (by first | (with_reducible assumption) | assumption)) (Below.refl _ _) (Nat.le_refl _) ?_; intro v102 w6 ho7 hb hg_ hnew_; clear hg_ hnew_; (first | rw [← Ny101.out] at ho7 | (simp only [Int.reduceToNat] at ho7; rw [← Ny101.out] at ho7)); have n0_ := Aside0.mk (Kd.R_lower ho7 (keep_size (w := w) (g := g) (row := none) (by repeat (first | (with_reducible first | exact HK.out | apply KeepBut.set_ | apply keep_drewN | apply keep_drew | apply keep_alloc) | exact HK.out)))); have n1_ := Aside0.mk (IsS67.below (by repeat (first | (with_reducible first | exact HI0.out | apply IsS67.alloc | apply IsS67.drewN | apply IsS67.drew | apply IsS67.set_0 | apply IsS67.set_1) | exact HI0.out)) hb); have n2_ := Aside0.mk (KeepBut.trans (by repeat (first | (with_reducible first | exact HK.out | apply KeepBut.set_ | apply keep_drewN | apply keep_drew | apply keep_alloc) | exact HK.out)) (KeepBut.of_below hb g none) (.inl rfl)); have n3_ := Aside0.mk (below_step (by repeat (first | (with_reducible first | exact HB.out | apply below_alloc | apply pw_below_drewN | apply below_drew1 | refine below_set ?_ (IsS67.ge HI0.out)) | exact HB.out)) hb); clear HI0; clear HK; clear HB; have HO103 := n0_; have HI0 := n1_; have HK := n2_; have HB := n3_; clear n0_ n1_ n2_ n3_; clear hb ho7; obtain ⟨HGz8, hgz8⟩ := HI0.out; have hcz8_0 := cellS67_0 HGz8; have hcz8_1 := cellS67_1 HGz8; have hfz8_0 := blk_frozen HGz8 0; have hfz8_1 := blk_frozen HGz8 1; clear HGz8 hgz8; obtain ⟨Ao10, co10, eo10⟩ := Kd.R_slice HO103.out; subst eo10; have q9 : (s0_1 : Int) ≤ ((y101.length : Int) : Int) := of_decide_eq_true (by first | (with_reducible assumption) | assumption); obtain ⟨i09, hi09, _, hsz9, _⟩ := info_parts info21; have hroom9 : y101.length ≤ co10 := (Kd.R_reads' HO103.out).2.1; have hC9 : Kd.C (Kd.int .i32) _ Ao10 y101.length y101 := (Kd.R_reads' HO103.out).2.2; have hcut9 := cut_to (P := Tryz.prog) 58 21 .i64 Tryz.underlying58 hi09 Ao10 y101.length co10 s0_1 (of_decide_eq_true (by first | (with_reducible assumption) | assumption)) q9 hroom9; have hr9 := Kd.C_take (m := (s0_1 : Int).toNat) hC9 (by omega); have hy9 : y104.length = (s0_1 : Int).toNat := (by rw [Ny104.out, List.length_take]; omega); rw [← Ny104.out] at hr9; rw [← hy9] at hcut9; have HR107 := Aside0.mk hr9; have HC107 := Aside0.mk (show y104.length ≤ co10 from by omega); clear hr9 hC9 hroom9 hi09 hsz9; have KY9 := Aside0.mk hy9; clear hy9; have KL9 := Aside0.mk (show (s0_1 : Int).toNat ≤ y101.length from by omega); replace q9 := eq_true q9; have hcv11 := C_runes (P := Tryz.prog) (A := Ao10) (c := co10) Tryz.underlying58 Tryz.underlying21 Tryz.underlying9 (by repeat (first | (with_reducible exact HR107.out) | (with_reducible refine Kd.C_alloc ?_ _) | (with_reducible refine Kd.C_drewN ?_ _) | (with_reducible refine Kd.C_drew ?_) | exact HR107.out))))
        go_ret
        exact ⟨by first | rfl | (simp [errW_none, errW_some] <;> rfl) | (simp [*, errW_none, errW_some] <;> rfl), by repeat (first | (with_reducible first | exact HI0.out | apply IsS67.alloc | apply IsS67.drewN | apply IsS67.drew | apply IsS67.set_0 | apply IsS67.set_1) | exact HI0.out), by repeat (first | (with_reducible first | exact HB.out | apply below_alloc | apply pw_below_drewN | apply below_drew1 | refine below_set ?_ (IsS67.ge HI0.out)) | exact HB.out), by repeat (first | (with_reducible first | exact HK.out | apply KeepBut.set_ | apply keep_drewN | apply keep_drew | apply keep_alloc) | exact HK.out)⟩
      · rw [if_neg c4] at H
        exact absurd H (by simp)
    · rw [if_neg c3] at H
      exact absurd H (by simp)
  · rw [if_neg c2] at H
    exact absurd H (by simp)
/-! ### goprompt_Document_TextAfterCursor: function 30 -/
def goprompt_Document_TextAfterCursor.f (s0_0 : ByteArray) (s0_1 : Int) : Option (ByteArray × ByteArray × Int) := if (runesOf s0_0).length ≤ 70368744177664 then ((some (runesOf s0_0 : List Int)).bind fun y108 => (if 0 ≤ s0_1 then (if s0_1 ≤ (y108.length : Int) then (some (runesBytes (y108.drop (s0_1 : Int).toNat), s0_0, s0_1)) else (none)) else (none))) else (none)
set_option maxHeartbeats 8000000 in
set_option maxRecDepth 100000 in
theorem goprompt_Document_TextAfterCursor.calls (g : Nat) (s0_0 : ByteArray) (s0_1 : Int) (r1 : ByteArray) (r2 : ByteArray) (r3 : Int) (w0 w : World) (hI : IsS67 w0 w g s0_0 s0_1) (hB : Below w0.heap.size w0 w) (h : goprompt_Document_TextAfterCursor.f s0_0 s0_1 = some (r1, r2, r3)) :
    Calls Tryz.prog 30 #[.pointer (some ⟨g, 0, none⟩)] w fun e w' => e = .returned (.string r1) ∧ IsS67 w0 w' g r2 r3 ∧ Below w0.heap.size w0 w' ∧ KeepBut w w' g none := by
  have HI0 := Aside0.mk hI
  have HK := Aside0.mk (KeepBut.refl w g none)
  have HL := Aside0.mk hB.size
  clear hI
  have HW0 := Aside0.mk hB.size
  have HB := Aside0.mk hB
  clear hB
  have H : (if (runesOf s0_0).length ≤ 70368744177664 then ((some (runesOf s0_0 : List Int)).bind fun y108 => (if 0 ≤ s0_1 then (if s0_1 ≤ (y108.length : Int) then (some (runesBytes (y108.drop (s0_1 : Int).toNat), s0_0, s0_1)) else (none)) else (none))) else (none)) = some (r1, r2, r3) := h
  clear h
  by_cases c2 : (runesOf s0_0).length ≤ 70368744177664
  · rw [if_pos c2] at H
    have c2b0 := eq_true c2
    have c2b1 : decide ((runesOf s0_0).length ≤ 70368744177664) = true := decide_eq_true c2
    clear c2
    obtain ⟨y108, hy108⟩ : ∃ y_ : List Int, y_ = (runesOf s0_0) := ⟨_, rfl⟩
    replace H : (if 0 ≤ s0_1 then (if s0_1 ≤ (y108.length : Int) then (some (runesBytes (y108.drop (s0_1 : Int).toNat), s0_0, s0_1)) else (none)) else (none)) = some (r1, r2, r3) := by first | (rw [hy108]; with_reducible exact H) | (have H2_ := (Option.bind_some _ _).symm.trans H; rw [hy108]; with_reducible exact H2_) | (have H2_ := (Option.bind_some _ _).symm.trans H; with_reducible exact H2_) | with_reducible exact H | (rw [hy108]; exact H) | exact H
    have Ny108 := Aside0.mk hy108
    clear hy108
    by_cases c3 : 0 ≤ s0_1
    · rw [if_pos c3] at H
      have c3b0 := eq_true c3
      have c3b1 : decide (0 ≤ s0_1) = true := decide_eq_true c3
      clear c3
      by_cases c4 : s0_1 ≤ (y108.length : Int)
      · rw [if_pos c4] at H
        have c4b0 := eq_true c4
        have c4b1 : decide (s0_1 ≤ (y108.length : Int)) = true := decide_eq_true c4
        clear c4
        obtain ⟨y111, hy111⟩ : ∃ y_ : List Int, y_ = (y108.drop (s0_1 : Int).toNat) := ⟨_, rfl⟩
        replace H : (some (runesBytes y111, s0_0, s0_1)) = some (r1, r2, r3) := by first | (rw [hy111]; with_reducible exact H) | (have H2_ := (Option.bind_some _ _).symm.trans H; rw [hy111]; with_reducible exact H2_) | (have H2_ := (Option.bind_some _ _).symm.trans H; with_reducible exact H2_) | with_reducible exact H | (rw [hy111]; exact H) | exact H
        have Ny111 := Aside0.mk hy111
        clear hy111
        simp only [Option.some.injEq, Prod.mk.injEq] at H
        obtain ⟨rfl, rfl, rfl⟩ := H
        obtain ⟨HGz5, hgz5⟩ := HI0.out
        have hcz5_0 := cellS67_0 HGz5
        have hcz5_1 := cellS67_1 HGz5
        have hfz5_0 := blk_frozen HGz5 0
        have hfz5_1 := blk_frozen HGz5 1
        clear HGz5 hgz5
        go_enter Tryz.func30, Tryz.ntmps30
        go_wp2_with (first | ((with_reducible refine gate_dst (N := 8) rfl ?_); refine R_runes _ 21 rfl (N := 8) rfl 9 58 _ rfl s0_0 rfl Tryz.underlying9 Tryz.underlying58 Tryz.underlying21 (ok := fun _ => True) (okp := fun _ => True) (fun _ hk => hk) trivial (of_decide_eq_true (by first | (with_reducible assumption) | assumption)) (Below.refl _ _) (Nat.le_refl _) ?_; intro v109 w6 ho7 hb hg_ hnew_; clear hg_ hnew_; (first | rw [← Ny108.out] at ho7 | (simp only [Int.reduceToNat] at ho7; rw [← Ny108.out] at ho7)); have n0_ := Aside0.mk (Kd.R_lower ho7 (keep_size (w := w) (g := g) (row := none) (by repeat (first | (with_reducible first | exact HK.out | apply KeepBut.set_ | apply keep_drewN | apply keep_drew | apply keep_alloc) | exact HK.out)))); have n1_ := Aside0.mk (IsS67.below (by repeat (first | (with_reducible first | exact HI0.out | apply IsS67.alloc | apply IsS67.drewN | apply IsS67.drew | apply IsS67.set_0 | apply IsS67.set_1) | exact HI0.out)) hb); have n2_ := Aside0.mk (KeepBut.trans (by repeat (first | (with_reducible first | exact HK.out | apply KeepBut.set_ | apply keep_drewN | apply keep_drew | apply keep_alloc) | exact HK.out)) (KeepBut.of_below hb g none) (.inl rfl)); have n3_ := Aside0.mk (below_step (by repeat (first | (with_reducible first | exact HB.out | apply below_alloc | apply pw_below_drewN | apply below_drew1 | refine below_set ?_ (IsS67.ge HI0.out)) | exact HB.out)) hb); clear HI0; clear HK; clear HB; have HO110 := n0_; have HI0 := n1_; have HK := n2_; have HB := n3_; clear n0_ n1_ n2_ n3_; clear hb ho7; obtain ⟨HGz8, hgz8⟩ := HI0.out; have hcz8_0 := cellS67_0 HGz8; have hcz8_1 := cellS67_1 HGz8; have hfz8_0 := blk_frozen HGz8 0; have hfz8_1 := blk_frozen HGz8 1; clear HGz8 hgz8; obtain ⟨Ao10, co10, eo10⟩ := Kd.R_slice HO110.out; subst eo10; have q9 : (s0_1 : Int) ≤ ((y108.length : Int) : Int) := of_decide_eq_true (by first | (with_reducible assumption) | assumption); obtain ⟨i09, hi09, _, hsz9, _⟩ := info_parts info21; have hroom9 : y108.length ≤ co10 := (Kd.R_reads' HO110.out).2.1; have hC9 : Kd.C (Kd.int .i32) _ Ao10 y108.length y108 := (Kd.R_reads' HO110.out).2.2; have q09 : (0 : Int) ≤ (s0_1 : Int) := of_decide_eq_true (by first | (with_reducible assumption) | assumption); have hcut9 := cut_from (P := Tryz.prog) 58 21 .i64 Tryz.underlying58 hi09 1 hsz9 Ao10 y108.length co10 s0_1 q09 q9; have hr9 := Kd.C_drop (m := (s0_1 : Int).toNat) (c := co10) hC9 (by omega) hroom9; obtain ⟨A9, hA9⟩ : ∃ A1, A1 = (if co10 = (s0_1 : Int).toNat then Ao10 else (Ao10 : Option Addr).map (·.add ((s0_1 : Int).toNat * 1))) := ⟨_, rfl⟩; obtain ⟨c9, hc9⟩ : ∃ c1, c1 = co10 - (s0_1 : Int).toNat := ⟨_, rfl⟩; have hy9 : y111.length = y108.length - (s0_1 : Int).toNat := (by rw [Ny111.out, List.length_drop] <;> omega); rw [show (y108).drop (s0_1 : Int).toNat = y111 from Ny111.out.symm] at hr9; replace hr9 : Kd.C (Kd.int .i32) _ A9 y111.length y111 := (by rw [hA9]; exact hr9); rw [← hy9, ← hA9, ← hc9] at hcut9; have HR114 := Aside0.mk hr9; have HC114 := Aside0.mk (show y111.length ≤ c9 from by rw [hy9, hc9]; exact Nat.sub_le_sub_right hroom9 _); clear hr9 hC9 hroom9 hi09 hsz9 hc9; have KY9 := Aside0.mk hy9; have KA9 := Aside0.mk hA9; clear hy9 hA9; have KL9 := Aside0.mk (show (s0_1 : Int).toNat ≤ y108.length from by omega); replace q9 := eq_true q9; have hcv11 := C_runes (P := Tryz.prog) (A := A9) (c := c9) Tryz.underlying58 Tryz.underlying21 Tryz.underlying9 (by repeat (first | (with_reducible exact HR114.out) | (with_reducible refine Kd.C_alloc ?_ _) | (with_reducible refine Kd.C_drewN ?_ _) | (with_reducible refine Kd.C_drew ?_) | exact HR114.out))))
        go_ret
        exact ⟨by first | rfl | (simp [errW_none, errW_some] <;> rfl) | (simp [*, errW_none, errW_some] <;> rfl), by repeat (first | (with_reducible first | exact HI0.out | apply IsS67.alloc | apply IsS67.drewN | apply IsS67.drew | apply IsS67.set_0 | apply IsS67.set_1) | exact HI0.out), by repeat (first | (with_reducible first | exact HB.out | apply below_alloc | apply pw_below_drewN | apply below_drew1 | refine below_set ?_ (IsS67.ge HI0.out)) | exact HB.out), by repeat (first | (with_reducible first | exact HK.out | apply KeepBut.set_ | apply keep_drewN | apply keep_drew | apply keep_alloc) | exact HK.out)⟩
      · rw [if_neg c4] at H
        exact absurd H (by simp)
    · rw [if_neg c3] at H
      exact absurd H (by simp)
  · rw [if_neg c2] at H
    exact absurd H (by simp)
/-! ### goprompt_zzIndex: function 89 -/
def goprompt_zzIndex.l0 : Nat → ByteArray → ByteArray → Int → Option (Int)
  | 0, _, _, _ => none
  | k + 1, x0, x1, x5 => if (wrap64 (x5 + (x1.size : Int))) ≤ (x0.size : Int) then (if 0 ≤ x5 then (if x5 ≤ (wrap64 (x5 + (x1.size : Int))) then (if (x0.extract (x5 : Int).toNat ((wrap64 (x5 + (x1.size : Int))) : Int).toNat).toList = x1.toList then (some x5) else (goprompt_zzIndex.l0 k x0 x1 (wrap64 (x5 + 1)))) else (none)) else (none)) else (some (-1))
def goprompt_zzIndex.f (k : Nat) (a0 : ByteArray) (a1 : ByteArray) : Option (Int) := goprompt_zzIndex.l0 k a0 a1 0
theorem goprompt_zzIndex.mono_l : ∀ k, (∀ y0 y1 y2, LeO (goprompt_zzIndex.l0 k y0 y1 y2) (goprompt_zzIndex.l0 (k + 1) y0 y1 y2))
  | 0 => fun _ _ _ r h => by simp [goprompt_zzIndex.l0] at h
  | k + 1 => by
    have ih0 := goprompt_zzIndex.mono_l k
    · intro y0 y1 y2
      unfold goprompt_zzIndex.l0
      repeat' first
      | (with_reducible exact ih0 _ _ _)
      | (with_reducible exact LeO.refl _)
      | (with_reducible exact LeO.none _)
      | (with_reducible refine LeO.ite ?_ ?_)
      | (with_reducible refine LeO.bind ?_ (fun _ => ?_))
      | exact ih0 _ _ _
      | exact LeO.none _
      | refine LeO.ite ?_ ?_
      | refine LeO.bind ?_ (fun _ => ?_)
theorem goprompt_zzIndex.mono : ∀ a0 a1 k, LeO (goprompt_zzIndex.f k a0 a1) (goprompt_zzIndex.f (k + 1) a0 a1) := by
  intro a0 a1 k
  have ih0 := goprompt_zzIndex.mono_l k
  unfold goprompt_zzIndex.f
  repeat' first
      | (with_reducible exact ih0 _ _ _)
      | (with_reducible exact LeO.refl _)
      | (with_reducible exact LeO.none _)
      | (with_reducible refine LeO.ite ?_ ?_)
      | (with_reducible refine LeO.bind ?_ (fun _ => ?_))
      | exact ih0 _ _ _
      | exact LeO.none _
      | refine LeO.ite ?_ ?_
      | refine LeO.bind ?_ (fun _ => ?_)
set_option maxHeartbeats 8000000 in
set_option maxRecDepth 100000 in
theorem goprompt_zzIndex.calls (k : Nat) (a0 : ByteArray) (a1 : ByteArray) (r : Int) (w : World) (h : goprompt_zzIndex.f k a0 a1 = some r) :
    Calls Tryz.prog 89 #[.string a0, .string a1] w fun e w' => e = .returned (.int .i64 r) ∧ Drawn0 w w' := by
  have H : (goprompt_zzIndex.l0 k a0 a1 0) = some r := h
  clear h
  have H' := Aside0.mk H
  clear H
  go_enter Tryz.func89, Tryz.ntmps89
  go_wp2
  go_loopg [5] k (fun kq v5 w' => ∃ (x5_1 : Int), v5 = .int .i64 x5_1 ∧ Aside0 (goprompt_zzIndex.l0 kq a0 a1 x5_1 = some r) ∧ Aside0 (kq ≤ k) ∧ Drawn0 w w')
  case atStart => exact ⟨(0), (by first | rfl | (simp; done) | (simp [*]; done)), H', ⟨Nat.le_refl _⟩, by repeat (first | exact Drawn0.refl _ | apply Drawn0.step)⟩
  case round =>
    clear H'
    try clear p2
    obtain ⟨x5_1, rfl, HA, HK1, ⟨m1, rfl⟩⟩ := hrel
    cases gk with
    | zero => exact absurd HA.out (by simp [goprompt_zzIndex.l0])
    | succ k1 =>
      have H := HA.out
      clear HA
      simp only [goprompt_zzIndex.l0] at H
      by_cases c3 : (wrap64 (x5_1 + (a1.size : Int))) ≤ (a0.size : Int)
      · rw [if_pos c3] at H
        have c3b0 : decide ((wrap64 (x5_1 + (a1.size : Int))) ≤ (a0.size : Int)) = true := decide_eq_true c3
        clear c3
        by_cases c4 : 0 ≤ x5_1
        · rw [if_pos c4] at H
          have c4b0 := eq_true c4
          have c4b1 : decide (0 ≤ x5_1) = true := decide_eq_true c4
          clear c4
          by_cases c5 : x5_1 ≤ (wrap64 (x5_1 + (a1.size : Int)))
          · rw [if_pos c5] at H
            have c5b0 := eq_true c5
            have c5b1 : decide (x5_1 ≤ (wrap64 (x5_1 + (a1.size : Int)))) = true := decide_eq_true c5
            have c6b0 := eq_true (of_decide_eq_true (by first | (with_reducible assumption) | assumption) : (wrap64 (x5_1 + (a1.size : Int))) ≤ (a0.size : Int))
            by_cases c7 : (a0.extract (x5_1 : Int).toNat ((wrap64 (x5_1 + (a1.size : Int))) : Int).toNat).toList = a1.toList
            · rw [if_pos c7] at H
              have c7b0 : ((a0.extract (x5_1 : Int).toNat ((wrap64 (x5_1 + (a1.size : Int))) : Int).toNat).toList == a1.toList) = true := beq_iff_eq.mpr c7
              have c7b1 : ((a0.extract (x5_1 : Int).toNat ((wrap64 (x5_1 + (a1.size : Int))) : Int).toNat).toList != a1.toList) = false := bne_eq_false_iff_eq.mpr c7
              clear c7
              obtain rfl := Option.some.inj H
              go_wp2
              go_ret
              exact ⟨by first | rfl | (simp; done) | (simp [*]; done), by repeat (first | exact Drawn0.refl _ | apply Drawn0.step)⟩
            · rw [if_neg c7] at H
              have c7b0 : ((a0.extract (x5_1 : Int).toNat ((wrap64 (x5_1 + (a1.size : Int))) : Int).toNat).toList == a1.toList) = false := beq_eq_false_iff_ne.mpr c7
              have c7b1 : ((a0.extract (x5_1 : Int).toNat ((wrap64 (x5_1 + (a1.size : Int))) : Int).toNat).toList != a1.toList) = true := bne_iff_ne.mpr c7
              have H' := Aside0.mk H
              clear H
              go_wp2
              go_roundg k1
              case measure => have := HK1.out; omega
              case rel => exact ⟨(wrap64 (x5_1 + 1)), (by first | rfl | (simp; done) | (simp [*]; done)), H', ⟨by have := HK1.out; omega⟩, by repeat (first | exact Drawn0.refl _ | apply Drawn0.step)⟩
          · rw [if_neg c5] at H
            exact absurd H (by simp)
        · rw [if_neg c4] at H
          exact absurd H (by simp)
      · rw [if_neg c3] at H
        have c3b0 : decide ((wrap64 (x5_1 + (a1.size : Int))) ≤ (a0.size : Int)) = false := decide_eq_false c3
        clear c3
        obtain rfl := Option.some.inj H
        go_wp2
        go_ret
        exact ⟨by first | rfl | (simp; done) | (simp [*]; done), by repeat (first | exact Drawn0.refl _ | apply Drawn0.step)⟩
/-! ### goprompt_zzSplit: function 56 -/
def goprompt_zzSplit.l1 : Nat → ByteArray → ByteArray → List ByteArray → Option (List ByteArray)
  | 0, _, _, _ => none
  | k + 1, x0, x1, x5 => (goprompt_zzIndex.f k x0 x1).bind fun t115 => (if t115 < 0 then (if x5.length < 8796093022208 then (some (x5 ++ [x0])) else (none)) else (if 0 ≤ t115 then (if t115 ≤ (x0.size : Int) then (if x5.length < 8796093022208 then (if 0 ≤ (wrap64 (t115 + (x1.size : Int))) then (if (wrap64 (t115 + (x1.size : Int))) ≤ (x0.size : Int) then (goprompt_zzSplit.l1 k (x0.extract ((wrap64 (t115 + (x1.size : Int))) : Int).toNat x0.size) x1 (x5 ++ [x0.extract 0 (t115 : Int).toNat])) else (none)) else (none)) else (none)) else (none)) else (none)))
def goprompt_zzSplit.f (k : Nat) (a0 : ByteArray) (a1 : ByteArray) : Option (List ByteArray) := if (a1.size : Int) = 0 then (none) else (goprompt_zzSplit.l1 k a0 a1 ([] : List ByteArray))
theorem goprompt_zzSplit.mono_l : ∀ k, (∀ y0 y1 y2, LeO (goprompt_zzSplit.l1 k y0 y1 y2) (goprompt_zzSplit.l1 (k + 1) y0 y1 y2))
  | 0 => fun _ _ _ r h => by simp [goprompt_zzSplit.l1] at h
  | k + 1 => by
    have ih0 := goprompt_zzSplit.mono_l k
    · intro y0 y1 y2
      unfold goprompt_zzSplit.l1
      repeat' first
      | (with_reducible exact ih0 _ _ _)
      | (with_reducible exact goprompt_zzIndex.mono _ _ _)
      | (with_reducible exact LeO.refl _)
      | (with_reducible exact LeO.none _)
      | (with_reducible refine LeO.ite ?_ ?_)
      | (with_reducible refine LeO.bind ?_ (fun _ => ?_))
      | exact ih0 _ _ _
      | exact goprompt_zzIndex.mono _ _ _
      | exact LeO.none _
      | refine LeO.ite ?_ ?_
      | refine LeO.bind ?_ (fun _ => ?_)
theorem goprompt_zzSplit.mono : ∀ a0 a1 k, LeO (goprompt_zzSplit.f k a0 a1) (goprompt_zzSplit.f (k + 1) a0 a1) := by
  intro a0 a1 k
  have ih0 := goprompt_zzSplit.mono_l k
  unfold goprompt_zzSplit.f
  repeat' first
      | (with_reducible exact ih0 _ _ _)
      | (with_reducible exact goprompt_zzIndex.mono _ _ _)
      | (with_reducible exact LeO.refl _)
      | (with_reducible exact LeO.none _)
      | (with_reducible refine LeO.ite ?_ ?_)
      | (with_reducible refine LeO.bind ?_ (fun _ => ?_))
      | exact ih0 _ _ _
      | exact goprompt_zzIndex.mono _ _ _
      | exact LeO.none _
      | refine LeO.ite ?_ ?_
      | refine LeO.bind ?_ (fun _ => ?_)
set_option maxHeartbeats 8000000 in
set_option maxRecDepth 100000 in
theorem goprompt_zzSplit.calls (k : Nat) (a0 : ByteArray) (a1 : ByteArray) (r : List ByteArray) (w : World) (h : goprompt_zzSplit.f k a0 a1 = some r) :
    Calls Tryz.prog 56 #[.string a0, .string a1] w fun e w' => ∃ v0_ : Value, e = .returned (v0_) ∧ Kd.R Kd.string 9 w' w.heap.size (fun _ => True) v0_ r ∧ Below w.heap.size w w' := by
  have HB := Aside0.mk (Below.refl w.heap.size w)
  have H : (if (a1.size : Int) = 0 then (none) else (goprompt_zzSplit.l1 k a0 a1 ([] : List ByteArray))) = some r := h
  clear h
  by_cases c3 : (a1.size : Int) = 0
  · rw [if_pos c3] at H
    exact absurd H (by simp)
  · rw [if_neg c3] at H
    have c3b0 : ((a1.size : Int) == 0) = false := beq_eq_false_iff_ne.mpr c3
    have c3b1 : ((a1.size : Int) != 0) = true := bne_iff_ne.mpr c3
    have H' := Aside0.mk H
    clear H
    go_enter Tryz.func56, Tryz.ntmps56
    go_wp2
    go_loopg [0, 5] k (fun kq v0 v5 w' => ∃ (x0_1 : ByteArray) (x5_1 : List ByteArray), v0 = .string x0_1 ∧ Aside0 (goprompt_zzSplit.l1 kq x0_1 a1 x5_1 = some r) ∧ Aside0 (kq ≤ k) ∧ Aside0 (Kd.R Kd.string 9 w' w.heap.size (fun _ => True) v5 x5_1) ∧ Aside0 (Below w.heap.size w w'))
    case atStart => exact ⟨(a0), (([] : List ByteArray)), (by first | rfl | (simp; done) | (simp [*]; done)), H', ⟨Nat.le_refl _⟩, ⟨by first | exact Kd.R_nil _ _ _ _ _ | exact Kd.N_nil _ _ _ _ _ | exact Kd.V_nil _ _ _ _ _ | exact Kd.Q_nil _ _ _ _ _ | exact Kd.S_nil _ _ _ _ _⟩, ⟨by repeat (first | (with_reducible first | exact HB.out | apply below_alloc | apply pw_below_drewN | apply below_drew1) | exact HB.out)⟩⟩
    case round =>
      clear H'
      try clear p2
      try clear c3
      try clear c3b0
      try clear c3b1
      obtain ⟨x0_1, x5_1, rfl, HA, HK1, HO_5, HB⟩ := hrel
      cases gk with
      | zero => exact absurd HA.out (by simp [goprompt_zzSplit.l1])
      | succ k1 =>
        have H := HA.out
        clear HA
        simp only [goprompt_zzSplit.l1] at H
        replace H := Option.bind_eq_some_iff.mp H
        obtain ⟨t115, A40, H⟩ := H
        replace H : (if t115 < 0 then (if x5_1.length < 8796093022208 then (some (x5_1 ++ [x0_1])) else (none)) else (if 0 ≤ t115 then (if t115 ≤ (x0_1.size : Int) then (if x5_1.length < 8796093022208 then (if 0 ≤ (wrap64 (t115 + (a1.size : Int))) then (if (wrap64 (t115 + (a1.size : Int))) ≤ (x0_1.size : Int) then (goprompt_zzSplit.l1 k1 (x0_1.extract ((wrap64 (t115 + (a1.size : Int))) : Int).toNat x0_1.size) a1 (x5_1 ++ [x0_1.extract 0 (t115 : Int).toNat])) else (none)) else (none)) else (none)) else (none)) else (none))) = some r := H
        have A4 := Aside0.mk A40
        clear A40
        by_cases c5 : t115 < 0
        · rw [if_pos c5] at H
          have c5b0 : decide (t115 < 0) = true := decide_eq_true c5
          clear c5
          by_cases c6 : x5_1.length < 8796093022208
          · rw [if_pos c6] at H
            have LMc6 := Aside0.mk c6
            clear c6
            obtain ⟨y116, hy116⟩ : ∃ y_ : List ByteArray, y_ = (x5_1 ++ [x0_1]) := ⟨_, rfl⟩
            replace H : (some y116) = some r := by first | (rw [hy116]; with_reducible exact H) | (have H2_ := (Option.bind_some _ _).symm.trans H; rw [hy116]; with_reducible exact H2_) | (have H2_ := (Option.bind_some _ _).symm.trans H; with_reducible exact H2_) | with_reducible exact H | (rw [hy116]; exact H) | exact H
            have Ny116 := Aside0.mk hy116
            clear hy116
            obtain rfl := Option.some.inj H
            go_wp2_with (first | ((with_reducible refine gate_callee (f := 89) rfl ?_); refine goesL_ (some 39) rfl rfl Tryz.func89 (by kernel_rfl) rfl #[.string x0_1, .string a1] rfl (by (try simp only [List.map_toArray, List.map_cons, List.map_nil]); first | done | rfl | (simp only [List.length_drop, List.length_take]; rfl) | (simp only [Int.toNat_natCast, ByteArray.extract_zero_size]; rfl)) ?_; (with_reducible refine (goprompt_zzIndex.calls k1 x0_1 a1 t115 _ A4.out).mono ?_); rintro e w' ⟨rfl, ⟨nd, rfl⟩⟩; refine ⟨_, rfl, ?_⟩) | ((with_reducible refine gate_builtin (b := .append) (xs := #[.tmp 42, .tmp 44]) rfl ?_); at_builtin; refine Kd.R_append Kd.string (w0 := w) w.heap.size rfl (.tmp 42) (.tmp 44) 27 9 (.string ⟨#[]⟩) 16 rfl Tryz.underlying27 info9 rfl (by decide) (by omega) u5 x5_1 x0_1 [.string x0_1] (fun _ => True) (fun _ => False) rfl rfl ?aP (fun _ hk => hk.elim) ?aF ?aO ?aB ?aS ?aL ?_; (case aP => exact rfl); (case aB => exact (by repeat (first | (with_reducible first | exact HB.out | apply below_alloc | apply pw_below_drewN | apply below_drew1) | exact HB.out))); (case aF => exact (fun _ _ => trivial)); (case aO => exact (by (with_reducible repeat (first | apply Kd.R_alloc | apply Kd.R_drewN | apply Kd.R_drew)); exact HO_5.out)); (case aS => exact (below_size (by repeat (first | (with_reducible first | exact HB.out | apply below_alloc | apply pw_below_drewN | apply below_drew1) | exact HB.out)))); (case aL => have := LMc6.out; omega); intro v117 w7 ho hb hg hat; rw [← Ny116.out] at ho; have n0_ := Aside0.mk (hb); have n1_ := Aside0.mk (ho); clear HB; clear HO_5; have HB := n0_; have HO118 := n1_; clear n0_ n1_; clear ho hb hg hat))
            go_ret
            exact ⟨_, by first | rfl | (simp [errW_none, errW_some] <;> rfl) | (simp [*, errW_none, errW_some] <;> rfl), by (with_reducible repeat (first | apply Kd.R_alloc | apply Kd.R_drewN | apply Kd.R_drew)); exact HO118.out, by repeat (first | (with_reducible first | exact HB.out | apply below_alloc | apply pw_below_drewN | apply below_drew1) | exact HB.out)⟩
          · rw [if_neg c6] at H
            exact absurd H (by simp)
        · rw [if_neg c5] at H
          have c5b0 : decide (t115 < 0) = false := decide_eq_false c5
          clear c5
          by_cases c8 : 0 ≤ t115
          · rw [if_pos c8] at H
            have c8b0 := eq_true c8
            have c8b1 : decide (0 ≤ t115) = true := decide_eq_true c8
            clear c8
            by_cases c9 : t115 ≤ (x0_1.size : Int)
            · rw [if_pos c9] at H
              have c9b0 := eq_true c9
              have c9b1 : decide (t115 ≤ (x0_1.size : Int)) = true := decide_eq_true c9
              clear c9
              by_cases c10 : x5_1.length < 8796093022208
              · rw [if_pos c10] at H
                have LMc10 := Aside0.mk c10
                clear c10
                obtain ⟨y119, hy119⟩ : ∃ y_ : List ByteArray, y_ = (x5_1 ++ [x0_1.extract 0 (t115 : Int).toNat]) := ⟨_, rfl⟩
                replace H : (if 0 ≤ (wrap64 (t115 + (a1.size : Int))) then (if (wrap64 (t115 + (a1.size : Int))) ≤ (x0_1.size : Int) then (goprompt_zzSplit.l1 k1 (x0_1.extract ((wrap64 (t115 + (a1.size : Int))) : Int).toNat x0_1.size) a1 y119) else (none)) else (none)) = some r := by first | (rw [hy119]; with_reducible exact H) | (have H2_ := (Option.bind_some _ _).symm.trans H; rw [hy119]; with_reducible exact H2_) | (have H2_ := (Option.bind_some _ _).symm.trans H; with_reducible exact H2_) | with_reducible exact H | (rw [hy119]; exact H) | exact H
                have Ny119 := Aside0.mk hy119
                clear hy119
                obtain ⟨ji11, hji11⟩ : ∃ j_ : Int, (wrap64 (t115 + (a1.size : Int))) = j_ := ⟨_, rfl⟩
                replace H : (if 0 ≤ (ji11) then (if (ji11) ≤ (x0_1.size : Int) then (goprompt_zzSplit.l1 k1 (x0_1.extract ((ji11) : Int).toNat x0_1.size) a1 y119) else (none)) else (none)) = some r := by first | (rw [hji11] at H; exact H) | (simp only [hji11] at H ⊢; exact H)
                (try rw [hji11] at A4)
                have hji11w : (IntKind.i64.wrap (t115 + (a1.size : Int))) = ji11 := (i64_w _).trans hji11
                by_cases c12 : 0 ≤ (ji11)
                · rw [if_pos c12] at H
                  have c12b0 := eq_true c12
                  have c12b1 : decide (0 ≤ (ji11)) = true := decide_eq_true c12
                  clear c12
                  by_cases c13 : (ji11) ≤ (x0_1.size : Int)
                  · rw [if_pos c13] at H
                    have c13b0 := eq_true c13
                    have c13b1 : decide ((ji11) ≤ (x0_1.size : Int)) = true := decide_eq_true c13
                    clear c13
                    have H' := Aside0.mk H
                    clear H
                    go_wp2_with (first | ((with_reducible refine gate_callee (f := 89) rfl ?_); refine goesL_ (some 39) rfl rfl Tryz.func89 (by kernel_rfl) rfl #[.string x0_1, .string a1] rfl (by (try simp only [List.map_toArray, List.map_cons, List.map_nil]); first | done | rfl | (simp only [List.length_drop, List.length_take]; rfl) | (simp only [Int.toNat_natCast, ByteArray.extract_zero_size]; rfl)) ?_; (with_reducible refine (goprompt_zzIndex.calls k1 x0_1 a1 t115 _ A4.out).mono ?_); rintro e w' ⟨rfl, ⟨nd, rfl⟩⟩; refine ⟨_, rfl, ?_⟩) | ((with_reducible refine gate_builtin (b := .append) (xs := #[.tmp 46, .tmp 50]) rfl ?_); at_builtin; refine Kd.R_append Kd.string (w0 := w) w.heap.size rfl (.tmp 46) (.tmp 50) 27 9 (.string ⟨#[]⟩) 16 rfl Tryz.underlying27 info9 rfl (by decide) (by omega) u5 x5_1 (x0_1.extract 0 (t115 : Int).toNat) [.string (x0_1.extract 0 (t115 : Int).toNat)] (fun _ => True) (fun _ => False) rfl rfl ?aP (fun _ hk => hk.elim) ?aF ?aO ?aB ?aS ?aL ?_; (case aP => exact rfl); (case aB => exact (by repeat (first | (with_reducible first | exact HB.out | apply below_alloc | apply pw_below_drewN | apply below_drew1) | exact HB.out))); (case aF => exact (fun _ _ => trivial)); (case aO => exact (by (with_reducible repeat (first | apply Kd.R_alloc | apply Kd.R_drewN | apply Kd.R_drew)); exact HO_5.out)); (case aS => exact (below_size (by repeat (first | (with_reducible first | exact HB.out | apply below_alloc | apply pw_below_drewN | apply below_drew1) | exact HB.out)))); (case aL => have := LMc10.out; omega); intro v120 w14 ho hb hg hat; rw [← Ny119.out] at ho; have n0_ := Aside0.mk (hb); have n1_ := Aside0.mk (ho); clear HB; clear HO_5; have HB := n0_; have HO121 := n1_; clear n0_ n1_; clear ho hb hg hat))
                    go_roundg k1
                    case measure => have := HK1.out; omega
                    case rel => exact ⟨(x0_1.extract ((ji11) : Int).toNat x0_1.size), (y119), (by first | rfl | (simp; done) | (simp only [← hji11] <;> (first | rfl | simp)) | (simp [*]; done)), (by first | exact H' | (rw [hji11]; exact H')), ⟨by have := HK1.out; omega⟩, ⟨by (with_reducible repeat (first | apply Kd.R_alloc | apply Kd.R_drewN | apply Kd.R_drew)); exact HO121.out⟩, ⟨by repeat (first | (with_reducible first | exact HB.out | apply below_alloc | apply pw_below_drewN | apply below_drew1) | exact HB.out)⟩⟩
                  · rw [if_neg c13] at H
                    exact absurd H (by simp)
                · rw [if_neg c12] at H
                  exact absurd H (by simp)
              · rw [if_neg c10] at H
                exact absurd H (by simp)
            · rw [if_neg c9] at H
              exact absurd H (by simp)
          · rw [if_neg c8] at H
            exact absurd H (by simp)
/-! ### goprompt_Document_CurrentLineBeforeCursor: function 31 -/
def goprompt_Document_CurrentLineBeforeCursor.f (k : Nat) (s0_0 : ByteArray) (s0_1 : Int) : Option (ByteArray × ByteArray × Int) := (goprompt_Document_TextBeforeCursor.f s0_0 s0_1).bind fun bt122 => ((goprompt_zzSplit.f k bt122.1 (⟨#[10]⟩ : ByteArray)).bind fun t125 => (if 0 ≤ (wrap64 ((t125.length : Int) - 1)) then (if (wrap64 ((t125.length : Int) - 1)) < (t125.length : Int) then (some (rdOf ByteArray.empty t125 (wrap64 ((t125.length : Int) - 1)), bt122.2.1, bt122.2.2)) else (none)) else (none)))
theorem goprompt_Document_CurrentLineBeforeCursor.mono : ∀ a0 a1 k, LeO (goprompt_Document_CurrentLineBeforeCursor.f k a0 a1) (goprompt_Document_CurrentLineBeforeCursor.f (k + 1) a0 a1) := by
  intro a0 a1 k
  unfold goprompt_Document_CurrentLineBeforeCursor.f
  repeat' first
      | (with_reducible exact goprompt_zzSplit.mono _ _ _)
      | (with_reducible exact LeO.refl _)
      | (with_reducible exact LeO.none _)
      | (with_reducible refine LeO.ite ?_ ?_)
      | (with_reducible refine LeO.bind ?_ (fun _ => ?_))
      | exact goprompt_zzSplit.mono _ _ _
      | exact LeO.none _
      | refine LeO.ite ?_ ?_
      | refine LeO.bind ?_ (fun _ => ?_)
set_option maxHeartbeats 8000000 in
set_option maxRecDepth 100000 in
theorem goprompt_Document_CurrentLineBeforeCursor.calls (k : Nat) (g : Nat) (s0_0 : ByteArray) (s0_1 : Int) (r1 : ByteArray) (r2 : ByteArray) (r3 : Int) (w0 w : World) (hI : IsS67 w0 w g s0_0 s0_1) (hB : Below w0.heap.size w0 w) (h : goprompt_Document_CurrentLineBeforeCursor.f k s0_0 s0_1 = some (r1, r2, r3)) :
    Calls Tryz.prog 31 #[.pointer (some ⟨g, 0, none⟩)] w fun e w' => e = .returned (.string r1) ∧ IsS67 w0 w' g r2 r3 ∧ Below w0.heap.size w0 w' ∧ KeepBut w w' g none := by
  have HI0 := Aside0.mk hI
  have HK := Aside0.mk (KeepBut.refl w g none)
  have HL := Aside0.mk hB.size
  clear hI
  have HW0 := Aside0.mk hB.size
  have HB := Aside0.mk hB
  clear hB
  have H : ((goprompt_Document_TextBeforeCursor.f s0_0 s0_1).bind fun bt122 => ((goprompt_zzSplit.f k bt122.1 (⟨#[10]⟩ : ByteArray)).bind fun t125 => (if 0 ≤ (wrap64 ((t125.length : Int) - 1)) then (if (wrap64 ((t125.length : Int) - 1)) < (t125.length : Int) then (some (rdOf ByteArray.empty t125 (wrap64 ((t125.length : Int) - 1)), bt122.2.1, bt122.2.2)) else (none)) else (none)))) = some (r1, r2, r3) := h
  clear h
  replace H := Option.bind_eq_some_iff.mp H
  obtain ⟨⟨t122, t123, t124⟩, A20, H⟩ := H
  replace H : ((goprompt_zzSplit.f k t122 (⟨#[10]⟩ : ByteArray)).bind fun t125 => (if 0 ≤ (wrap64 ((t125.length : Int) - 1)) then (if (wrap64 ((t125.length : Int) - 1)) < (t125.length : Int) then (some (rdOf ByteArray.empty t125 (wrap64 ((t125.length : Int) - 1)), t123, t124)) else (none)) else (none))) = some (r1, r2, r3) := H
  have A2 := Aside0.mk A20
  clear A20
  replace H := Option.bind_eq_some_iff.mp H
  obtain ⟨t125, A30, H⟩ := H
  replace H : (if 0 ≤ (wrap64 ((t125.length : Int) - 1)) then (if (wrap64 ((t125.length : Int) - 1)) < (t125.length : Int) then (some (rdOf ByteArray.empty t125 (wrap64 ((t125.length : Int) - 1)), t123, t124)) else (none)) else (none)) = some (r1, r2, r3) := H
  have A3 := Aside0.mk A30
  clear A30
  obtain ⟨ji4, hji4⟩ : ∃ j_ : Int, (wrap64 ((t125.length : Int) - 1)) = j_ := ⟨_, rfl⟩
  replace H : (if 0 ≤ (ji4) then (if (ji4) < (t125.length : Int) then (some (rdOf ByteArray.empty t125 (ji4), t123, t124)) else (none)) else (none)) = some (r1, r2, r3) := by first | (rw [hji4] at H; exact H) | (simp only [hji4] at H ⊢; exact H)
  (try rw [hji4] at A2)
  (try rw [hji4] at A3)
  have hji4w : (IntKind.i64.wrap ((t125.length : Int) - 1)) = ji4 := (i64_w _).trans hji4
  by_cases c5 : 0 ≤ (ji4)
  · rw [if_pos c5] at H
    have c5b0 : decide (0 ≤ (ji4)) = true := decide_eq_true c5
    clear c5
    by_cases c6 : (ji4) < (t125.length : Int)
    · rw [if_pos c6] at H
      have c6b0 : decide ((ji4) < (t125.length : Int)) = true := decide_eq_true c6
      clear c6
      simp only [Option.some.injEq, Prod.mk.injEq] at H
      obtain ⟨rfl, rfl, rfl⟩ := H
      go_enter Tryz.func31, Tryz.ntmps31
      go_wp2_with (first | ((with_reducible refine gate_callee (f := 29) rfl ?_); refine goesL_ (some 5) rfl rfl Tryz.func29 (by kernel_rfl) rfl #[.pointer (some ⟨g, 0, none⟩)] rfl (by (try simp only [List.map_toArray, List.map_cons, List.map_nil]); first | done | rfl | (simp only [List.length_drop, List.length_take]; rfl) | (simp only [Int.toNat_natCast, ByteArray.extract_zero_size]; rfl)) ?_; (with_reducible refine (goprompt_Document_TextBeforeCursor.calls g s0_0 s0_1 t122 t123 t124 w0 _ ?side1 ?side2 A2.out).mono ?_); (case side1 => repeat (first | (with_reducible first | exact HI0.out | apply IsS67.alloc | apply IsS67.drewN | apply IsS67.drew | apply IsS67.set_0 | apply IsS67.set_1) | exact HI0.out)); (case side2 => repeat (first | (with_reducible first | exact HB.out | apply below_alloc | apply pw_below_drewN | apply below_drew1 | refine below_set ?_ (IsS67.ge HI0.out)) | exact HB.out)); rintro e w7 ⟨rfl, hi, hb, hk⟩; refine ⟨_, rfl, ?_⟩; have n0_ := Aside0.mk (KeepBut.trans (by repeat (first | (with_reducible first | exact HK.out | apply KeepBut.set_ | apply keep_drewN | apply keep_drew | apply keep_alloc) | exact HK.out)) hk (.inl rfl)); have n1_ := Aside0.mk (hb); have n2_ := Aside0.mk (hi); clear HK; clear HB; clear HI0; have HK := n0_; have HB := n1_; have HI0 := n2_; clear n0_ n1_ n2_; (try clear hb); (try clear hb2); (try clear hk); (try clear hi)) | ((with_reducible refine gate_callee (f := 56) rfl ?_); refine goesL_ (some 6) rfl rfl Tryz.func56 (by kernel_rfl) rfl #[.string t122, .string (⟨#[10]⟩ : ByteArray)] rfl (by (try simp only [List.map_toArray, List.map_cons, List.map_nil]); first | done | rfl | (simp only [List.length_drop, List.length_take]; rfl) | (simp only [Int.toNat_natCast, ByteArray.extract_zero_size]; rfl)) ?_; (with_reducible refine (goprompt_zzSplit.calls k t122 (⟨#[10]⟩ : ByteArray) t125 _ A3.out).mono ?_); rintro e w8 ⟨v126, rfl, ho0, hb⟩; refine ⟨_, rfl, ?_⟩; have n0_ := Aside0.mk (Kd.R_lower ho0 (keep_size (w := w) (g := g) (row := none) (by repeat (first | (with_reducible first | exact HK.out | apply KeepBut.set_ | apply keep_drewN | apply keep_drew | apply keep_alloc) | exact HK.out)))); have n1_ := Aside0.mk (IsS67.below (by repeat (first | (with_reducible first | exact HI0.out | apply IsS67.alloc | apply IsS67.drewN | apply IsS67.drew | apply IsS67.set_0 | apply IsS67.set_1) | exact HI0.out)) hb); have n2_ := Aside0.mk (KeepBut.trans (by repeat (first | (with_reducible first | exact HK.out | apply KeepBut.set_ | apply keep_drewN | apply keep_drew | apply keep_alloc) | exact HK.out)) (KeepBut.of_below hb g none) (.inl rfl)); have n3_ := Aside0.mk (below_step (by repeat (first | (with_reducible first | exact HB.out | apply below_alloc | apply pw_below_drewN | apply below_drew1 | refine below_set ?_ (IsS67.ge HI0.out)) | exact HB.out)) hb); clear HI0; clear HK; clear HB; have HO127 := n0_; have HI0 := n1_; have HK := n2_; have HB := n3_; clear n0_ n1_ n2_ n3_; (try clear hb); (try clear hb2); (try clear hk); (try clear hi); (try clear ho0); obtain ⟨Ao9, co9, eo9⟩ := Kd.R_slice HO127.out; subst eo9; have p128 : 0 ≤ ((ji4) : Int) := of_decide_eq_true (by first | (with_reducible assumption) | assumption); have q128 : (ji4) < (t125.length : Int) := of_decide_eq_true (by first | (with_reducible assumption) | assumption); obtain ⟨ad128, e128, hx128_0⟩ := Kd.at_string (Kd.R_reads' HO127.out).2.2 (ji4) p128 q128; cases e128; replace p128 := eq_true p128; replace q128 := eq_true q128))
      go_ret
      exact ⟨by first | rfl | (simp [errW_none, errW_some] <;> rfl) | (simp only [← hji4]; first | rfl | (simp [errW_none, errW_some] <;> rfl)) | (simp [*, errW_none, errW_some] <;> rfl), by repeat (first | (with_reducible first | exact HI0.out | apply IsS67.alloc | apply IsS67.drewN | apply IsS67.drew | apply IsS67.set_0 | apply IsS67.set_1) | exact HI0.out), by repeat (first | (with_reducible first | exact HB.out | apply below_alloc | apply pw_below_drewN | apply below_drew1 | refine below_set ?_ (IsS67.ge HI0.out)) | exact HB.out), by repeat (first | (with_reducible first | exact HK.out | apply KeepBut.set_ | apply keep_drewN | apply keep_drew | apply keep_alloc) | exact HK.out)⟩
    · rw [if_neg c6] at H
      exact absurd H (by simp)
  · rw [if_neg c5] at H
    exact absurd H (by simp)
/-! ### goprompt_Document_CurrentLineAfterCursor: function 32 -/
def goprompt_Document_CurrentLineAfterCursor.f (k : Nat) (s0_0 : ByteArray) (s0_1 : Int) : Option (ByteArray × ByteArray × Int) := (goprompt_Document_TextAfterCursor.f s0_0 s0_1).bind fun bt129 => ((goprompt_zzSplit.f k bt129.1 (⟨#[10]⟩ : ByteArray)).bind fun t132 => (if 0 < (t132.length : Int) then (some (rdOf ByteArray.empty t132 0, bt129.2.1, bt129.2.2)) else (none)))
theorem goprompt_Document_CurrentLineAfterCursor.mono : ∀ a0 a1 k, LeO (goprompt_Document_CurrentLineAfterCursor.f k a0 a1) (goprompt_Document_CurrentLineAfterCursor.f (k + 1) a0 a1) := by
  intro a0 a1 k
  unfold goprompt_Document_CurrentLineAfterCursor.f
  repeat' first
      | (with_reducible exact goprompt_zzSplit.mono _ _ _)
      | (with_reducible exact LeO.refl _)
      | (with_reducible exact LeO.none _)
      | (with_reducible refine LeO.ite ?_ ?_)
      | (with_reducible refine LeO.bind ?_ (fun _ => ?_))
      | exact goprompt_zzSplit.mono _ _ _
      | exact LeO.none _
      | refine LeO.ite ?_ ?_
      | refine LeO.bind ?_ (fun _ => ?_)
set_option maxHeartbeats 8000000 in
set_option maxRecDepth 100000 in
theorem goprompt_Document_CurrentLineAfterCursor.calls (k : Nat) (g : Nat) (s0_0 : ByteArray) (s0_1 : Int) (r1 : ByteArray) (r2 : ByteArray) (r3 : Int) (w0 w : World) (hI : IsS67 w0 w g s0_0 s0_1) (hB : Below w0.heap.size w0 w) (h : goprompt_Document_CurrentLineAfterCursor.f k s0_0 s0_1 = some (r1, r2, r3)) :
    Calls Tryz.prog 32 #[.pointer (some ⟨g, 0, none⟩)] w fun e w' => e = .returned (.string r1) ∧ IsS67 w0 w' g r2 r3 ∧ Below w0.heap.size w0 w' ∧ KeepBut w w' g none := by
  have HI0 := Aside0.mk hI
  have HK := Aside0.mk (KeepBut.refl w g none)
  have HL := Aside0.mk hB.size
  clear hI
  have HW0 := Aside0.mk hB.size
  have HB := Aside0.mk hB
  clear hB
  have H : ((goprompt_Document_TextAfterCursor.f s0_0 s0_1).bind fun bt129 => ((goprompt_zzSplit.f k bt129.1 (⟨#[10]⟩ : ByteArray)).bind fun t132 => (if 0 < (t132.length : Int) then (some (rdOf ByteArray.empty t132 0, bt129.2.1, bt129.2.2)) else (none)))) = some (r1, r2, r3) := h
  clear h
  replace H := Option.bind_eq_some_iff.mp H
  obtain ⟨⟨t129, t130, t131⟩, A20, H⟩ := H
  replace H : ((goprompt_zzSplit.f k t129 (⟨#[10]⟩ : ByteArray)).bind fun t132 => (if 0 < (t132.length : Int) then (some (rdOf ByteArray.empty t132 0, t130, t131)) else (none))) = some (r1, r2, r3) := H
  have A2 := Aside0.mk A20
  clear A20
  replace H := Option.bind_eq_some_iff.mp H
  obtain ⟨t132, A30, H⟩ := H
  replace H : (if 0 < (t132.length : Int) then (some (rdOf ByteArray.empty t132 0, t130, t131)) else (none)) = some (r1, r2, r3) := H
  have A3 := Aside0.mk A30
  clear A30
  by_cases c4 : 0 < (t132.length : Int)
  · rw [if_pos c4] at H
    have c4b0 : decide (0 < (t132.length : Int)) = true := decide_eq_true c4
    have c4b1 : decide (0 < t132.length) = true := decide_eq_true (by omega)
    clear c4
    simp only [Option.some.injEq, Prod.mk.injEq] at H
    obtain ⟨rfl, rfl, rfl⟩ := H
    go_enter Tryz.func32, Tryz.ntmps32
    go_wp2_with (first | ((with_reducible refine gate_callee (f := 30) rfl ?_); refine goesL_ (some 4) rfl rfl Tryz.func30 (by kernel_rfl) rfl #[.pointer (some ⟨g, 0, none⟩)] rfl (by (try simp only [List.map_toArray, List.map_cons, List.map_nil]); first | done | rfl | (simp only [List.length_drop, List.length_take]; rfl) | (simp only [Int.toNat_natCast, ByteArray.extract_zero_size]; rfl)) ?_; (with_reducible refine (goprompt_Document_TextAfterCursor.calls g s0_0 s0_1 t129 t130 t131 w0 _ ?side1 ?side2 A2.out).mono ?_); (case side1 => repeat (first | (with_reducible first | exact HI0.out | apply IsS67.alloc | apply IsS67.drewN | apply IsS67.drew | apply IsS67.set_0 | apply IsS67.set_1) | exact HI0.out)); (case side2 => repeat (first | (with_reducible first | exact HB.out | apply below_alloc | apply pw_below_drewN | apply below_drew1 | refine below_set ?_ (IsS67.ge HI0.out)) | exact HB.out)); rintro e w5 ⟨rfl, hi, hb, hk⟩; refine ⟨_, rfl, ?_⟩; have n0_ := Aside0.mk (KeepBut.trans (by repeat (first | (with_reducible first | exact HK.out | apply KeepBut.set_ | apply keep_drewN | apply keep_drew | apply keep_alloc) | exact HK.out)) hk (.inl rfl)); have n1_ := Aside0.mk (hb); have n2_ := Aside0.mk (hi); clear HK; clear HB; clear HI0; have HK := n0_; have HB := n1_; have HI0 := n2_; clear n0_ n1_ n2_; (try clear hb); (try clear hb2); (try clear hk); (try clear hi)) | ((with_reducible refine gate_callee (f := 56) rfl ?_); refine goesL_ (some 5) rfl rfl Tryz.func56 (by kernel_rfl) rfl #[.string t129, .string (⟨#[10]⟩ : ByteArray)] rfl (by (try simp only [List.map_toArray, List.map_cons, List.map_nil]); first | done | rfl | (simp only [List.length_drop, List.length_take]; rfl) | (simp only [Int.toNat_natCast, ByteArray.extract_zero_size]; rfl)) ?_; (with_reducible refine (goprompt_zzSplit.calls k t129 (⟨#[10]⟩ : ByteArray) t132 _ A3.out).mono ?_); rintro e w6 ⟨v133, rfl, ho0, hb⟩; refine ⟨_, rfl, ?_⟩; have n0_ := Aside0.mk (Kd.R_lower ho0 (keep_size (w := w) (g := g) (row := none) (by repeat (first | (with_reducible first | exact HK.out | apply KeepBut.set_ | apply keep_drewN | apply keep_drew | apply keep_alloc) | exact HK.out)))); have n1_ := Aside0.mk (IsS67.below (by repeat (first | (with_reducible first | exact HI0.out | apply IsS67.alloc | apply IsS67.drewN | apply IsS67.drew | apply IsS67.set_0 | apply IsS67.set_1) | exact HI0.out)) hb); have n2_ := Aside0.mk (KeepBut.trans (by repeat (first | (with_reducible first | exact HK.out | apply KeepBut.set_ | apply keep_drewN | apply keep_drew | apply keep_alloc) | exact HK.out)) (KeepBut.of_below hb g none) (.inl rfl)); have n3_ := Aside0.mk (below_step (by repeat (first | (with_reducible first | exact HB.out | apply below_alloc | apply pw_below_drewN | apply below_drew1 | refine below_set ?_ (IsS67.ge HI0.out)) | exact HB.out)) hb); clear HI0; clear HK; clear HB; have HO134 := n0_; have HI0 := n1_; have HK := n2_; have HB := n3_; clear n0_ n1_ n2_ n3_; (try clear hb); (try clear hb2); (try clear hk); (try clear hi); (try clear ho0); obtain ⟨Ao7, co7, eo7⟩ := Kd.R_slice HO134.out; subst eo7; have p135 : 0 ≤ (0 : Int) := (by omega); have q135 : 0 < (t132.length : Int) := of_decide_eq_true (by first | (with_reducible assumption) | assumption); obtain ⟨ad135, e135, hx135_0⟩ := Kd.at_string (Kd.R_reads' HO134.out).2.2 0 p135 q135; cases e135; have qi135 : (0 < t132.length) = True := eq_true (by omega); (try rw [show ((0 : Int)).toNat = 0 from rfl] at hx135_0); (try rw [Addr.add_zero'] at hx135_0); replace p135 := eq_true p135; replace q135 := eq_true q135))
    go_ret
    exact ⟨by first | rfl | (simp [errW_none, errW_some] <;> rfl) | (simp [*, errW_none, errW_some] <;> rfl), by repeat (first | (with_reducible first | exact HI0.out | apply IsS67.alloc | apply IsS67.drewN | apply IsS67.drew | apply IsS67.set_0 | apply IsS67.set_1) | exact HI0.out), by repeat (first | (with_reducible first | exact HB.out | apply below_alloc | apply pw_below_drewN | apply below_drew1 | refine below_set ?_ (IsS67.ge HI0.out)) | exact HB.out), by repeat (first | (with_reducible first | exact HK.out | apply KeepBut.set_ | apply keep_drewN | apply keep_drew | apply keep_alloc) | exact HK.out)⟩
  · rw [if_neg c4] at H
    exact absurd H (by simp)
/-! ### goprompt_Document_CurrentLine: function 33 -/
def goprompt_Document_CurrentLine.f (k : Nat) (s0_0 : ByteArray) (s0_1 : Int) : Option (ByteArray × ByteArray × Int) := (goprompt_Document_CurrentLineBeforeCursor.f k s0_0 s0_1).bind fun bt136 => ((goprompt_Document_CurrentLineAfterCursor.f k bt136.2.1 bt136.2.2).bind fun bt139 => (if bt136.1.size + bt139.1.size ≤ 9223372036854775807 then (some (bt136.1 ++ bt139.1, bt139.2.1, bt139.2.2)) else (none)))
theorem goprompt_Document_CurrentLine.mono : ∀ a0 a1 k, LeO (goprompt_Document_CurrentLine.f k a0 a1) (goprompt_Document_CurrentLine.f (k + 1) a0 a1) := by
  intro a0 a1 k
  unfold goprompt_Document_CurrentLine.f
  repeat' first
      | (with_reducible exact goprompt_Document_CurrentLineAfterCursor.mono _ _ _)
      | (with_reducible exact goprompt_Document_CurrentLineBeforeCursor.mono _ _ _)
      | (with_reducible exact LeO.refl _)
      | (with_reducible exact LeO.none _)
      | (with_reducible refine LeO.ite ?_ ?_)
      | (with_reducible refine LeO.bind ?_ (fun _ => ?_))
      | exact goprompt_Document_CurrentLineAfterCursor.mono _ _ _
      | exact goprompt_Document_CurrentLineBeforeCursor.mono _ _ _
      | exact LeO.none _
      | refine LeO.ite ?_ ?_
      | refine LeO.bind ?_ (fun _ => ?_)
set_option maxHeartbeats 8000000 in
set_option maxRecDepth 100000 in
theorem goprompt_Document_CurrentLine.calls (k : Nat) (g : Nat) (s0_0 : ByteArray) (s0_1 : Int) (r1 : ByteArray) (r2 : ByteArray) (r3 : Int) (w0 w : World) (hI : IsS67 w0 w g s0_0 s0_1) (hB : Below w0.heap.size w0 w) (h : goprompt_Document_CurrentLine.f k s0_0 s0_1 = some (r1, r2, r3)) :
    Calls Tryz.prog 33 #[.pointer (some ⟨g, 0, none⟩)] w fun e w' => e = .returned (.string r1) ∧ IsS67 w0 w' g r2 r3 ∧ Below w0.heap.size w0 w' ∧ KeepBut w w' g none := by
  have HI0 := Aside0.mk hI
  have HK := Aside0.mk (KeepBut.refl w g none)
  have HL := Aside0.mk hB.size
  clear hI
  have HW0 := Aside0.mk hB.size
  have HB := Aside0.mk hB
  clear hB
  have H : ((goprompt_Document_CurrentLineBeforeCursor.f k s0_0 s0_1).bind fun bt136 => ((goprompt_Document_CurrentLineAfterCursor.f k bt136.2.1 bt136.2.2).bind fun bt139 => (if bt136.1.size + bt139.1.size ≤ 9223372036854775807 then (some (bt136.1 ++ bt139.1, bt139.2.1, bt139.2.2)) else (none)))) = some (r1, r2, r3) := h
  clear h
  replace H := Option.bind_eq_some_iff.mp H
  obtain ⟨⟨t136, t137, t138⟩, A20, H⟩ := H
  replace H : ((goprompt_Document_CurrentLineAfterCursor.f k t137 t138).bind fun bt139 => (if t136.size + bt139.1.size ≤ 9223372036854775807 then (some (t136 ++ bt139.1, bt139.2.1, bt139.2.2)) else (none))) = some (r1, r2, r3) := H
  have A2 := Aside0.mk A20
  clear A20
  replace H := Option.bind_eq_some_iff.mp H
  obtain ⟨⟨t139, t140, t141⟩, A30, H⟩ := H
  replace H : (if t136.size + t139.size ≤ 9223372036854775807 then (some (t136 ++ t139, t140, t141)) else (none)) = some (r1, r2, r3) := H
  have A3 := Aside0.mk A30
  clear A30
  by_cases c4 : t136.size + t139.size ≤ 9223372036854775807
  · rw [if_pos c4] at H
    have c4b0 := eq_true c4
    have c4b1 : decide (t136.size + t139.size ≤ 9223372036854775807) = true := decide_eq_true c4
    try have c4b2 : (9223372036854775807 < t136.size + t139.size) = False := eq_false (Nat.not_lt.2 c4)
    simp only [Option.some.injEq, Prod.mk.injEq] at H
    obtain ⟨rfl, rfl, rfl⟩ := H
    go_enter Tryz.func33, Tryz.ntmps33
    go_wp2_with (first | ((with_reducible refine gate_callee (f := 31) rfl ?_); refine goesL_ (some 4) rfl rfl Tryz.func31 (by kernel_rfl) rfl #[.pointer (some ⟨g, 0, none⟩)] rfl (by (try simp only [List.map_toArray, List.map_cons, List.map_nil]); first | done | rfl | (simp only [List.length_drop, List.length_take]; rfl) | (simp only [Int.toNat_natCast, ByteArray.extract_zero_size]; rfl)) ?_; (with_reducible refine (goprompt_Document_CurrentLineBeforeCursor.calls k g s0_0 s0_1 t136 t137 t138 w0 _ ?side1 ?side2 A2.out).mono ?_); (case side1 => repeat (first | (with_reducible first | exact HI0.out | apply IsS67.alloc | apply IsS67.drewN | apply IsS67.drew | apply IsS67.set_0 | apply IsS67.set_1) | exact HI0.out)); (case side2 => repeat (first | (with_reducible first | exact HB.out | apply below_alloc | apply pw_below_drewN | apply below_drew1 | refine below_set ?_ (IsS67.ge HI0.out)) | exact HB.out)); rintro e w5 ⟨rfl, hi, hb, hk⟩; refine ⟨_, rfl, ?_⟩; have n0_ := Aside0.mk (KeepBut.trans (by repeat (first | (with_reducible first | exact HK.out | apply KeepBut.set_ | apply keep_drewN | apply keep_drew | apply keep_alloc) | exact HK.out)) hk (.inl rfl)); have n1_ := Aside0.mk (hb); have n2_ := Aside0.mk (hi); clear HK; clear HB; clear HI0; have HK := n0_; have HB := n1_; have HI0 := n2_; clear n0_ n1_ n2_; (try clear hb); (try clear hb2); (try clear hk); (try clear hi)) | ((with_reducible refine gate_callee (f := 32) rfl ?_); refine goesL_ (some 6) rfl rfl Tryz.func32 (by kernel_rfl) rfl #[.pointer (some ⟨g, 0, none⟩)] rfl (by (try simp only [List.map_toArray, List.map_cons, List.map_nil]); first | done | rfl | (simp only [List.length_drop, List.length_take]; rfl) | (simp only [Int.toNat_natCast, ByteArray.extract_zero_size]; rfl)) ?_; (with_reducible refine (goprompt_Document_CurrentLineAfterCursor.calls k g t137 t138 t139 t140 t141 w0 _ ?side1 ?side2 A3.out).mono ?_); (case side1 => repeat (first | (with_reducible first | exact HI0.out | apply IsS67.alloc | apply IsS67.drewN | apply IsS67.drew | apply IsS67.set_0 | apply IsS67.set_1) | exact HI0.out)); (case side2 => repeat (first | (with_reducible first | exact HB.out | apply below_alloc | apply pw_below_drewN | apply below_drew1 | refine below_set ?_ (IsS67.ge HI0.out)) | exact HB.out)); rintro e w6 ⟨rfl, hi, hb, hk⟩; refine ⟨_, rfl, ?_⟩; have n0_ := Aside0.mk (KeepBut.trans (by repeat (first | (with_reducible first | exact HK.out | apply KeepBut.set_ | apply keep_drewN | apply keep_drew | apply keep_alloc) | exact HK.out)) hk (.inl rfl)); have n1_ := Aside0.mk (hb); have n2_ := Aside0.mk (hi); clear HK; clear HB; clear HI0; have HK := n0_; have HB := n1_; have HI0 := n2_; clear n0_ n1_ n2_; (try clear hb); (try clear hb2); (try clear hk); (try clear hi)))
    go_ret
    exact ⟨by first | rfl | (simp [errW_none, errW_some] <;> rfl) | (simp [*, errW_none, errW_some] <;> rfl), by repeat (first | (with_reducible first | exact HI0.out | apply IsS67.alloc | apply IsS67.drewN | apply IsS67.drew | apply IsS67.set_0 | apply IsS67.set_1) | exact HI0.out), by repeat (first | (with_reducible first | exact HB.out | apply below_alloc | apply pw_below_drewN | apply below_drew1 | refine below_set ?_ (IsS67.ge HI0.out)) | exact HB.out), by repeat (first | (with_reducible first | exact HK.out | apply KeepBut.set_ | apply keep_drewN | apply keep_drew | apply keep_alloc) | exact HK.out)⟩
  · rw [if_neg c4] at H
    exact absurd H (by simp)
/-! ### goprompt_Document_Lines: function 36 -/
def goprompt_Document_Lines.f (k : Nat) (s0_0 : ByteArray) (s0_1 : Int) : Option (List ByteArray × ByteArray × Int) := (goprompt_zzSplit.f k s0_0 (⟨#[10]⟩ : ByteArray)).bind fun t142 => (some (t142, s0_0, s0_1))
theorem goprompt_Document_Lines.mono : ∀ a0 a1 k, LeO (goprompt_Document_Lines.f k a0 a1) (goprompt_Document_Lines.f (k + 1) a0 a1) := by
  intro a0 a1 k
  unfold goprompt_Document_Lines.f
  repeat' first
      | (with_reducible exact goprompt_zzSplit.mono _ _ _)
      | (with_reducible exact LeO.refl _)
      | (with_reducible exact LeO.none _)
      | (with_reducible refine LeO.ite ?_ ?_)
      | (with_reducible refine LeO.bind ?_ (fun _ => ?_))
      | exact goprompt_zzSplit.mono _ _ _
      | exact LeO.none _
      | refine LeO.ite ?_ ?_
      | refine LeO.bind ?_ (fun _ => ?_)
set_option maxHeartbeats 8000000 in
set_option maxRecDepth 100000 in
theorem goprompt_Document_Lines.calls (k : Nat) (g : Nat) (s0_0 : ByteArray) (s0_1 : Int) (r1 : List ByteArray) (r2 : ByteArray) (r3 : Int) (w0 w : World) (hI : IsS67 w0 w g s0_0 s0_1) (hB : Below w0.heap.size w0 w) (h : goprompt_Document_Lines.f k s0_0 s0_1 = some (r1, r2, r3)) :
    Calls Tryz.prog 36 #[.pointer (some ⟨g, 0, none⟩)] w fun e w' => ∃ v0_ : Value, e = .returned (v0_) ∧ Kd.R Kd.string 9 w' w.heap.size (fun _ => True) v0_ r1 ∧ IsS67 w0 w' g r2 r3 ∧ Below w0.heap.size w0 w' ∧ KeepBut w w' g none := by
  have HI0 := Aside0.mk hI
  have HK := Aside0.mk (KeepBut.refl w g none)
  have HL := Aside0.mk hB.size
  clear hI
  have HW0 := Aside0.mk hB.size
  have HB := Aside0.mk hB
  clear hB
  have H : ((goprompt_zzSplit.f k s0_0 (⟨#[10]⟩ : ByteArray)).bind fun t142 => (some (t142, s0_0, s0_1))) = some (r1, r2, r3) := h
  clear h
  replace H := Option.bind_eq_some_iff.mp H
  obtain ⟨t142, A20, H⟩ := H
  replace H : (some (t142, s0_0, s0_1)) = some (r1, r2, r3) := H
  have A2 := Aside0.mk A20
  clear A20
  simp only [Option.some.injEq, Prod.mk.injEq] at H
  obtain ⟨rfl, rfl, rfl⟩ := H
  obtain ⟨HGz3, hgz3⟩ := HI0.out
  have hcz3_0 := cellS67_0 HGz3
  have hcz3_1 := cellS67_1 HGz3
  have hfz3_0 := blk_frozen HGz3 0
  have hfz3_1 := blk_frozen HGz3 1
  clear HGz3 hgz3
  go_enter Tryz.func36, Tryz.ntmps36
  go_wp2_with (first | ((with_reducible refine gate_callee (f := 56) rfl ?_); refine goesL_ (some 7) rfl rfl Tryz.func56 (by kernel_rfl) rfl #[.string s0_0, .string (⟨#[10]⟩ : ByteArray)] rfl (by (try simp only [List.map_toArray, List.map_cons, List.map_nil]); first | done | rfl | (simp only [List.length_drop, List.length_take]; rfl) | (simp only [Int.toNat_natCast, ByteArray.extract_zero_size]; rfl)) ?_; (with_reducible refine (goprompt_zzSplit.calls k s0_0 (⟨#[10]⟩ : ByteArray) t142 _ A2.out).mono ?_); rintro e w4 ⟨v143, rfl, ho0, hb⟩; refine ⟨_, rfl, ?_⟩; have n0_ := Aside0.mk (Kd.R_lower ho0 (keep_size (w := w) (g := g) (row := none) (by repeat (first | (with_reducible first | exact HK.out | apply KeepBut.set_ | apply keep_drewN | apply keep_drew | apply keep_alloc) | exact HK.out)))); have n1_ := Aside0.mk (IsS67.below (by repeat (first | (with_reducible first | exact HI0.out | apply IsS67.alloc | apply IsS67.drewN | apply IsS67.drew | apply IsS67.set_0 | apply IsS67.set_1) | exact HI0.out)) hb); have n2_ := Aside0.mk (KeepBut.trans (by repeat (first | (with_reducible first | exact HK.out | apply KeepBut.set_ | apply keep_drewN | apply keep_drew | apply keep_alloc) | exact HK.out)) (KeepBut.of_below hb g none) (.inl rfl)); have n3_ := Aside0.mk (below_step (by repeat (first | (with_reducible first | exact HB.out | apply below_alloc | apply pw_below_drewN | apply below_drew1 | refine below_set ?_ (IsS67.ge HI0.out)) | exact HB.out)) hb); clear HI0; clear HK; clear HB; have HO144 := n0_; have HI0 := n1_; have HK := n2_; have HB := n3_; clear n0_ n1_ n2_ n3_; (try clear hb); (try clear hb2); (try clear hk); (try clear hi); (try clear ho0)))
  go_ret
  exact ⟨_, by first | rfl | (simp [errW_none, errW_some] <;> rfl) | (simp [*, errW_none, errW_some] <;> rfl), by (with_reducible repeat (first | apply Kd.R_alloc | apply Kd.R_drewN | apply Kd.R_drew)); exact HO144.out, by repeat (first | (with_reducible first | exact HI0.out | apply IsS67.alloc | apply IsS67.drewN | apply IsS67.drew | apply IsS67.set_0 | apply IsS67.set_1) | exact HI0.out), by repeat (first | (with_reducible first | exact HB.out | apply below_alloc | apply pw_below_drewN | apply below_drew1 | refine below_set ?_ (IsS67.ge HI0.out)) | exact HB.out), by repeat (first | (with_reducible first | exact HK.out | apply KeepBut.set_ | apply keep_drewN | apply keep_drew | apply keep_alloc) | exact HK.out)⟩
/-! ### goprompt_Document_LineCount: function 58 -/
def goprompt_Document_LineCount.f (k : Nat) (s0_0 : ByteArray) (s0_1 : Int) : Option (Int × ByteArray × Int) := (goprompt_Document_Lines.f k s0_0 s0_1).bind fun bt145 => (some ((bt145.1.length : Int), bt145.2.1, bt145.2.2))
theorem goprompt_Document_LineCount.mono : ∀ a0 a1 k, LeO (goprompt_Document_LineCount.f k a0 a1) (goprompt_Document_LineCount.f (k + 1) a0 a1) := by
  intro a0 a1 k
  unfold goprompt_Document_LineCount.f
  repeat' first
      | (with_reducible exact goprompt_Document_Lines.mono _ _ _)
      | (with_reducible exact LeO.refl _)
      | (with_reducible exact LeO.none _)
      | (with_reducible refine LeO.ite ?_ ?_)
      | (with_reducible refine LeO.bind ?_ (fun _ => ?_))
      | exact goprompt_Document_Lines.mono _ _ _
      | exact LeO.none _
      | refine LeO.ite ?_ ?_
      | refine LeO.bind ?_ (fun _ => ?_)
set_option maxHeartbeats 8000000 in
set_option maxRecDepth 100000 in
theorem goprompt_Document_LineCount.calls (k : Nat) (g : Nat) (s0_0 : ByteArray) (s0_1 : Int) (r1 : Int) (r2 : ByteArray) (r3 : Int) (w0 w : World) (hI : IsS67 w0 w g s0_0 s0_1) (hB : Below w0.heap.size w0 w) (h : goprompt_Document_LineCount.f k s0_0 s0_1 = some (r1, r2, r3)) :
    Calls Tryz.prog 58 #[.pointer (some ⟨g, 0, none⟩)] w fun e w' => e = .returned (.int .i64 r1) ∧ IsS67 w0 w' g r2 r3 ∧ Below w0.heap.size w0 w' ∧ KeepBut w w' g none := by
  have HI0 := Aside0.mk hI
  have HK := Aside0.mk (KeepBut.refl w g none)
  have HL := Aside0.mk hB.size
  clear hI
  have HW0 := Aside0.mk hB.size
  have HB := Aside0.mk hB
  clear hB
  have H : ((goprompt_Document_Lines.f k s0_0 s0_1).bind fun bt145 => (some ((bt145.1.length : Int), bt145.2.1, bt145.2.2))) = some (r1, r2, r3) := h
  clear h
  replace H := Option.bind_eq_some_iff.mp H
  obtain ⟨⟨t145, t148, t149⟩, A20, H⟩ := H
  replace H : (some ((t145.length : Int), t148, t149)) = some (r1, r2, r3) := H
  have A2 := Aside0.mk A20
  clear A20
  simp only [Option.some.injEq, Prod.mk.injEq] at H
  obtain ⟨rfl, rfl, rfl⟩ := H
  go_enter Tryz.func58, Tryz.ntmps58
  go_wp2_with (first | ((with_reducible refine gate_callee (f := 36) rfl ?_); refine goesL_ (some 4) rfl rfl Tryz.func36 (by kernel_rfl) rfl #[.pointer (some ⟨g, 0, none⟩)] rfl (by (try simp only [List.map_toArray, List.map_cons, List.map_nil]); first | done | rfl | (simp only [List.length_drop, List.length_take]; rfl) | (simp only [Int.toNat_natCast, ByteArray.extract_zero_size]; rfl)) ?_; (with_reducible refine (goprompt_Document_Lines.calls k g s0_0 s0_1 t145 t148 t149 w0 _ ?side1 ?side2 A2.out).mono ?_); (case side1 => repeat (first | (with_reducible first | exact HI0.out | apply IsS67.alloc | apply IsS67.drewN | apply IsS67.drew | apply IsS67.set_0 | apply IsS67.set_1) | exact HI0.out)); (case side2 => repeat (first | (with_reducible first | exact HB.out | apply below_alloc | apply pw_below_drewN | apply below_drew1 | refine below_set ?_ (IsS67.ge HI0.out)) | exact HB.out)); rintro e w3 ⟨v146, rfl, ho0, hi, hb, hk⟩; refine ⟨_, rfl, ?_⟩; have n0_ := Aside0.mk (Kd.R_lower ho0 (keep_size (w := w) (g := g) (row := none) (by repeat (first | (with_reducible first | exact HK.out | apply KeepBut.set_ | apply keep_drewN | apply keep_drew | apply keep_alloc) | exact HK.out)))); have n1_ := Aside0.mk (KeepBut.trans (by repeat (first | (with_reducible first | exact HK.out | apply KeepBut.set_ | apply keep_drewN | apply keep_drew | apply keep_alloc) | exact HK.out)) hk (.inl rfl)); have n2_ := Aside0.mk (hb); have n3_ := Aside0.mk (hi); clear HK; clear HB; clear HI0; have HO147 := n0_; have HK := n1_; have HB := n2_; have HI0 := n3_; clear n0_ n1_ n2_ n3_; (try clear hb); (try clear hb2); (try clear hk); (try clear hi); (try clear ho0); obtain ⟨Ao4, co4, eo4⟩ := Kd.R_slice HO147.out; subst eo4))
  go_ret
  exact ⟨by first | rfl | (simp [errW_none, errW_some] <;> rfl) | (simp [*, errW_none, errW_some] <;> rfl), by repeat (first | (with_reducible first | exact HI0.out | apply IsS67.alloc | apply IsS67.drewN | apply IsS67.drew | apply IsS67.set_0 | apply IsS67.set_1) | exact HI0.out), by repeat (first | (with_reducible first | exact HB.out | apply below_alloc | apply pw_below_drewN | apply below_drew1 | refine below_set ?_ (IsS67.ge HI0.out)) | exact HB.out), by repeat (first | (with_reducible first | exact HK.out | apply KeepBut.set_ | apply keep_drewN | apply keep_drew | apply keep_alloc) | exact HK.out)⟩
end Go.Proofs.YtkfmjkiefckgoaaGreatDoor.PAroundOf
