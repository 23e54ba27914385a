/- What stands ahead of a buffer's cursor is taken out (goprompt.Buffer.DeleteBeforeCursor); for texts of ASCII of at most 5000 bytes, a cursor in them, and counts from 0 on. -/
import Derived.Test.YtkfmjkiefckgoaaGreatDoorQHBufH
namespace Go.Proofs.YtkfmjkiefckgoaaGreatDoor.H
open Go.RowKit Go.Proofs.YtkfmjkiefckgoaaGreatDoorW.PrintWords Go.Proofs.YtkfmjkiefckgoaaGreatDoorW.PrintLast Go.Proofs.YtkfmjkiefckgoaaGreatDoor.R Go.Proofs.YtkfmjkiefckgoaaGreatDoor.X Go.Proofs.YtkfmjkiefckgoaaGreatDoor.PAroundOf
set_option linter.unusedVariables false
set_option linter.unusedSimpArgs false
section
variable {B m g p : Nat} {w : World} {s : ByteArray} {q : Int}
set_option maxHeartbeats 4000000 in
set_option maxRecDepth 100000 in
theorem DeleteBefore_calls (h : BS w B m g s p q) (hok : OkT s p) (c : Int) (h0 : 0 ≤ c) (h1 : c ≤ 1000000000) (st : Nat) (hst : (st : Int) = max 0 (p - c)) : Calls Tryz.prog 81 #[Pt m, .int .i64 c] w fun e w' => e = .returned (.string (s.extract st p)) ∧ BS w' B m g (s.extract 0 st ++ s.extract p s.size) (st : Int) q ∧ Only B m g w w' := by
  obtain ⟨hs, hasc, hp⟩ := hok
  have hcv := fun W => runes_run (P := Tryz.prog) W 9 58 21 s (by kernel_rfl) (by kernel_rfl) (by kernel_rfl) (by omega)
  rw [runesOf_asc hasc, ints_length] at hcv
  have hsp : st ≤ p := by omega
  have hdz := extract_len s st p hp
  have hda := asc_extract hasc st p
  have HT := Lib.hid (Text_calls h)
  have HH := Lib.hid h
  clear h
  by_cases hp0 : 0 < p
  · have hcc : ((p : Int) - c < 0 ∧ st = 0) ∨ (0 ≤ (p : Int) - c ∧ (p : Int) - c = st) := by omega
    go_enter Tryz.func81, Tryz.ntmps81
    go_upto_region 2 with (go_at_call 49; refine HT.out.mono ?_; rintro e w1 ⟨rfl, n1, rfl⟩)
    have hB2 := (HH.out.drewN (n1 + 1)).alloc (.cells (runeCells (ints s) (grownCap (w.drewN n1) s.size 0 21)).toArray 21)
    have hO2 := (((Only.refl B m g w).drewN (n1 + 1))).alloc (by have := HH.out.lt.1; exact this) (.cells (runeCells (ints s) (grownCap (w.drewN n1) s.size 0 21)).toArray 21)
    have hr := Rec.new (w.drewN (n1 + 1)) (runeCells (ints s) (grownCap (w.drewN n1) s.size 0 21)) 21
    have hcap : s.size ≤ grownCap (w.drewN n1) s.size 0 21 := grownCap_ge _ _ _ _
    rw [show (w.drewN (n1 + 1)).heap.size = w.heap.size from rfl] at hr
    generalize grownCap (w.drewN n1) s.size 0 21 = cap at *
    generalize w.heap.size = r at *
    generalize (w.drewN (n1 + 1)).alloc (.cells (runeCells (ints s) cap).toArray 21) = W at *
    have f1 : p ≤ cap := Nat.le_trans hp hcap
    have f2 : st ≤ cap := by omega
    have f3 : (p : Int) ≤ (cap : Int) := by omega
    have f4 : (st : Int) ≤ (p : Int) := by omega
    have f5 : (st : Int) ≤ (cap : Int) := by omega
    have k2 := hB2.reads.1
    have HA := fun W (hr : Rec W r (runeCells (ints s) cap) 21) => head_str W r cap st cap hasc (by omega) hr
    have HC := fun W (hr : Rec W r (runeCells (ints s) cap) 21) => rest_str W r cap p hasc hp hcap hr
    have HD := fun W (hr : Rec W r (runeCells (ints s) cap) 21) => mid_str W r cap st p hasc hsp hp hcap hr
    have HX := Lib.hid (And.intro hB2 (And.intro hO2 (And.intro hr (And.intro HA HC))))
    have hD := HD W hr
    clear hB2 hO2 hr hcv HT HA HC HD hst
    obtain ⟨nw, vc, hcv2, hnw⟩ : ∃ (nw : World → World) (vc : World → Nat), (∀ W, (convert 9 58 (.string (s.extract st p))).run Tryz.prog W = .ok (.slice (some ⟨W.heap.size, 0, none⟩) (p - st) (vc W)) (nw W)) ∧ ∀ W, ∃ o, nw W = W.drew.alloc o := by
      refine ⟨fun W => W.drew.alloc (.cells (runeCells (ints (s.extract st p)) (grownCap W (p - st) 0 21)).toArray 21), fun W => grownCap W (p - st) 0 21, fun W => ?_, fun W => ⟨_, rfl⟩⟩
      have := runes_run (P := Tryz.prog) W 9 58 21 (s.extract st p) (by kernel_rfl) (by kernel_rfl) (by kernel_rfl) (by omega)
      rwa [runesOf_asc hda, ints_length, hdz] at this
    have hB1 : BS W.drew B m g s p q := HX.out.1.drewN 1
    have hO1 : Only B m g w W.drew := HX.out.2.1.drew
    have hr1 : Rec W.drew r (runeCells (ints s) cap) 21 := HX.out.2.2.1.drew
    have hbn : ∀ V : World, Below V.heap.size V (nw V) := fun V => by obtain ⟨o, e⟩ := hnw V; rw [e]; exact ((Below.refl _ _).drew).alloc (Nat.le_refl _) o
    have hBn := hB1.below (hbn W.drew)
    have hOn := hO1.behind (hbn W.drew) hB1.lt.1
    have hrn := hr1.stays (hbn W.drew)
    have hdn := Rec.new (nw W.drew) [.string (s.extract 0 st ++ s.extract p s.size), .int .i64 (st : Int)] 67
    have HS := Lib.hid (setDocument_calls (hBn.alloc _) hdn hBn.lt.1 (by omega))
    have k1 := hB1.reads.1
    have kn := hBn.reads.1
    have f6 : (9223372036854775807 < st + (s.size - p)) = False := eq_false (by omega)
    have f8 : st ≤ s.size := by omega
    have f7 : (9223372036854775807 < s.size - p) = False := eq_false (by omega)
    have hsub2 : IntKind.i64.wrap ((p : Int) - ((p - st : Nat) : Int)) = (st : Int) := by rw [IntWalk.i64_in _ (by omega)]; omega
    have HR1 := Lib.hid hr1
    have HRn := Lib.hid hrn
    have hne : r ≠ m ∧ r ≠ g := by
      obtain ⟨cv, a1, a2, _⟩ := hB1
      exact ⟨rec_ne hr1 a1 (by decide), rec_ne hr1 a2.rec (by decide)⟩
    have HO := Lib.hid (And.intro (hOn.alloc hBn.lt.1 (.cells [.string (s.extract 0 st ++ s.extract p s.size), .int .i64 (st : Int)].toArray 67)) hne)
    have HHn := Lib.hid hBn
    clear hB1 hO1 hr1 hbn hBn hOn hrn hdn hne hdz hda
    rcases hcc with ⟨hneg, hst0⟩ | ⟨hpos, he⟩
    · have hsub : IntKind.i64.wrap ((p : Int) - c) = (p : Int) - c := IntWalk.i64_in _ (by omega)
      have hD0 := head_str W r cap p cap hasc hp HX.out.2.2.1
      rw [show s.extract 0 p = s.extract st p by rw [hst0]] at hD0
      have HZ := Lib.hid (show (0 : Int) = ((st : Nat) : Int) by omega)
      clear hst0
      go_upto_region 7 with (fail)
      rw [HZ.out]
      refine wp_region_noPanic ?_
      refine wp_region_held_drew (S := fun w' => Rec w' r (runeCells (ints s) cap) 21) (by kernel_rfl) (HR1.out) (fun hHeld => ?_)
      refine wpAnyH_take (i := 0) (v := ?v0) (by simp only [List.getElem?_toArray, List.getElem?_cons_succ, List.getElem?_cons_zero]; rfl) (by kernel_rfl) (by kernel_rfl) (by kernel_rfl) (fun _ _ _ h => h) (Or.inl ⟨by rfl, ?h0⟩) (by assumption) ?_
      case h0 => (intro wS hSw; (try dsimp only at hSw); go_simp; try with_reducible rfl)
      try simp only [Act.put, List.setIfInBounds_toArray, List.set_cons_zero, List.set_cons_succ]
      refine wpAnyH_take (i := 1) (v := ?v1) (by simp only [List.getElem?_toArray, List.getElem?_cons_succ, List.getElem?_cons_zero]; rfl) (by kernel_rfl) (by kernel_rfl) (by kernel_rfl) (fun _ _ _ h => h) (Or.inl ⟨by rfl, ?h1⟩) (by assumption) ?_
      case h1 => (intro wS hSw; (try dsimp only at hSw); go_simp; try with_reducible rfl)
      try simp only [Act.put, List.setIfInBounds_toArray, List.set_cons_zero, List.set_cons_succ]
      refine wpAnyH_take (i := 2) (v := ?v2) (by simp only [List.getElem?_toArray, List.getElem?_cons_succ, List.getElem?_cons_zero]; rfl) (by kernel_rfl) (by kernel_rfl) (by kernel_rfl) (fun _ _ _ h => h) (Or.inl ⟨by rfl, ?h2⟩) (by assumption) ?_
      case h2 => (intro wS hSw; (try dsimp only at hSw); go_simp; try with_reducible rfl)
      try simp only [Act.put, List.setIfInBounds_toArray, List.set_cons_zero, List.set_cons_succ]
      refine wpAnyH_take (i := 3) (v := ?v3) (by simp only [List.getElem?_toArray, List.getElem?_cons_succ, List.getElem?_cons_zero]; rfl) (by kernel_rfl) (by kernel_rfl) (by kernel_rfl) (fun _ _ _ h => h) (Or.inl ⟨by rfl, ?h3⟩) (by assumption) ?_
      case h3 => (intro wS hSw; (try dsimp only at hSw); go_simp; try with_reducible rfl)
      try simp only [Act.put, List.setIfInBounds_toArray, List.set_cons_zero, List.set_cons_succ]
      refine wpAnyH_take (i := 4) (v := ?v4) (by simp only [List.getElem?_toArray, List.getElem?_cons_succ, List.getElem?_cons_zero]; rfl) (by kernel_rfl) (by kernel_rfl) (by kernel_rfl) (fun _ _ _ h => h) (Or.inl ⟨by rfl, ?h4⟩) (by assumption) ?_
      case h4 => (intro wS hSw; (try dsimp only at hSw); have hA' := HX.out.2.2.2.1 wS hSw; go_simp; try with_reducible rfl)
      try simp only [Act.put, List.setIfInBounds_toArray, List.set_cons_zero, List.set_cons_succ]
      refine wpAnyH_take (i := 5) (v := ?v5) (by simp only [List.getElem?_toArray, List.getElem?_cons_succ, List.getElem?_cons_zero]; rfl) (by kernel_rfl) (by kernel_rfl) (by kernel_rfl) (fun _ _ _ h => h) (Or.inl ⟨by rfl, ?h5⟩) (by assumption) ?_
      case h5 => (intro wS hSw; (try dsimp only at hSw); go_simp; try with_reducible rfl)
      try simp only [Act.put, List.setIfInBounds_toArray, List.set_cons_zero, List.set_cons_succ]
      refine wpAnyH_take (i := 6) (v := ?v6) (by simp only [List.getElem?_toArray, List.getElem?_cons_succ, List.getElem?_cons_zero]; rfl) (by kernel_rfl) (by kernel_rfl) (by kernel_rfl) (fun _ _ _ h => h) (Or.inl ⟨by rfl, ?h6⟩) (by assumption) ?_
      case h6 => (intro wS hSw; (try dsimp only at hSw); go_simp; try with_reducible rfl)
      try simp only [Act.put, List.setIfInBounds_toArray, List.set_cons_zero, List.set_cons_succ]
      refine wpAnyH_take (i := 7) (v := ?v7) (by simp only [List.getElem?_toArray, List.getElem?_cons_succ, List.getElem?_cons_zero]; rfl) (by kernel_rfl) (by kernel_rfl) (by kernel_rfl) (fun _ _ _ h => h) (Or.inl ⟨by rfl, ?h7⟩) (by assumption) ?_
      case h7 => (intro wS hSw; (try dsimp only at hSw); go_simp; try with_reducible rfl)
      try simp only [Act.put, List.setIfInBounds_toArray, List.set_cons_zero, List.set_cons_succ]
      refine wpAnyH_take (i := 8) (v := ?v8) (by simp only [List.getElem?_toArray, List.getElem?_cons_succ, List.getElem?_cons_zero]; rfl) (by kernel_rfl) (by kernel_rfl) (by kernel_rfl) (fun _ _ _ h => h) (Or.inl ⟨by rfl, ?h8⟩) (by assumption) ?_
      case h8 => (intro wS hSw; (try dsimp only at hSw); go_simp; try with_reducible rfl)
      try simp only [Act.put, List.setIfInBounds_toArray, List.set_cons_zero, List.set_cons_succ]
      refine wpAnyH_take (i := 13) (v := ?v13) (by simp only [List.getElem?_toArray, List.getElem?_cons_succ, List.getElem?_cons_zero]; rfl) (by kernel_rfl) (by kernel_rfl) (by kernel_rfl) (fun _ _ _ h => h) (Or.inl ⟨by rfl, ?h13⟩) (by assumption) ?_
      case h13 => (intro wS hSw; (try dsimp only at hSw); go_simp; try with_reducible rfl)
      try simp only [Act.put, List.setIfInBounds_toArray, List.set_cons_zero, List.set_cons_succ]
      refine wpAnyH_take (i := 14) (v := ?v14) (by simp only [List.getElem?_toArray, List.getElem?_cons_succ, List.getElem?_cons_zero]; rfl) (by kernel_rfl) (by kernel_rfl) (by kernel_rfl) (fun _ _ _ h => h) (Or.inl ⟨by rfl, ?h14⟩) (by assumption) ?_
      case h14 => (intro wS hSw; (try dsimp only at hSw); go_simp; try with_reducible rfl)
      try simp only [Act.put, List.setIfInBounds_toArray, List.set_cons_zero, List.set_cons_succ]
      refine wpAnyH_take (i := 15) (v := ?v15) (by simp only [List.getElem?_toArray, List.getElem?_cons_succ, List.getElem?_cons_zero]; rfl) (by kernel_rfl) (by kernel_rfl) (by kernel_rfl) (fun _ _ _ h => h) (Or.inl ⟨by rfl, ?h15⟩) (by assumption) ?_
      case h15 => (intro wS hSw; (try dsimp only at hSw); go_simp; try with_reducible rfl)
      try simp only [Act.put, List.setIfInBounds_toArray, List.set_cons_zero, List.set_cons_succ]
      refine wpAnyH_take (i := 17) (v := ?v17) (by simp only [List.getElem?_toArray, List.getElem?_cons_succ, List.getElem?_cons_zero]; rfl) (by kernel_rfl) (by kernel_rfl) (by kernel_rfl) (fun _ _ _ h => h) (Or.inl ⟨by rfl, ?h17⟩) (by assumption) ?_
      case h17 => (intro wS hSw; (try dsimp only at hSw); go_simp; try with_reducible rfl)
      try simp only [Act.put, List.setIfInBounds_toArray, List.set_cons_zero, List.set_cons_succ]
      refine wpAnyH_ready (rs := [9, 16, 18]) (by kernel_rfl) (by simp) ?_
      refine AllReadyH.cons (o := _) rfl (fun K hK => ?_) (AllReadyH.cons (o := _) rfl (fun K hK => ?_) (AllReadyH.cons (o := _) rfl (fun K hK => ?_) AllReadyH.nil))
      · go_simp
        refine hK.out _ _ (by first | exact HR1.out | exact HRn.out) (fun hHeld9_0 => ?_)
        clear hK K
        try simp only [Act.put, List.setIfInBounds_toArray, List.set_cons_zero, List.set_cons_succ]
        refine wpAnyH_take (i := 10) (v := ?v10) (by simp only [List.getElem?_toArray, List.getElem?_cons_succ, List.getElem?_cons_zero]; rfl) (by kernel_rfl) (by kernel_rfl) (by kernel_rfl) (fun _ _ _ h => h) (Or.inl ⟨by rfl, ?h10⟩) (by assumption) ?_
        case h10 => (intro wS hSw; (try dsimp only at hSw); go_simp; try with_reducible rfl)
        try simp only [Act.put, List.setIfInBounds_toArray, List.set_cons_zero, List.set_cons_succ]
        refine wpAnyH_take (i := 11) (v := ?v11) (by simp only [List.getElem?_toArray, List.getElem?_cons_succ, List.getElem?_cons_zero]; rfl) (by kernel_rfl) (by kernel_rfl) (by kernel_rfl) (fun _ _ _ h => h) (Or.inl ⟨by rfl, ?h11⟩) (by assumption) ?_
        case h11 => (intro wS hSw; (try dsimp only at hSw); have hC' := HX.out.2.2.2.2 wS hSw; go_simp; try with_reducible rfl)
        try simp only [Act.put, List.setIfInBounds_toArray, List.set_cons_zero, List.set_cons_succ]
        refine wpAnyH_take (i := 12) (v := ?v12) (by simp only [List.getElem?_toArray, List.getElem?_cons_succ, List.getElem?_cons_zero]; rfl) (by kernel_rfl) (by kernel_rfl) (by kernel_rfl) (fun _ _ _ h => h) (Or.inl ⟨by rfl, ?h12⟩) (by assumption) ?_
        case h12 => (intro wS hSw; (try dsimp only at hSw); go_simp; try with_reducible rfl)
        try simp only [Act.put, List.setIfInBounds_toArray, List.set_cons_zero, List.set_cons_succ]
        refine wpAnyH_ready (rs := [16, 18]) (by kernel_rfl) (by simp) ?_
        refine AllReadyH.cons (o := _) rfl (fun K hK => ?_) (AllReadyH.cons (o := _) rfl (fun K hK => ?_) AllReadyH.nil)
        · go_simp
          refine hK.out _ _ (by first | exact HR1.out | exact HRn.out) (fun hHeld16_1 => ?_)
          clear hK K
          try simp only [Act.put, List.setIfInBounds_toArray, List.set_cons_zero, List.set_cons_succ]
          refine wpAnyH_ready (rs := [18]) (by kernel_rfl) (by simp) ?_
          refine AllReadyH.cons (o := _) rfl (fun K hK => ?_) AllReadyH.nil
          go_simp
          refine hK.out _ _ (by first | exact HR1.out | exact HRn.out) (fun hHeld18_2 => ?_)
          clear hK K
          try simp only [Act.put, List.setIfInBounds_toArray, List.set_cons_zero, List.set_cons_succ]
          refine wpAnyH_take (i := 19) (v := ?v19) (by simp only [List.getElem?_toArray, List.getElem?_cons_succ, List.getElem?_cons_zero]; rfl) (by kernel_rfl) (by kernel_rfl) (by kernel_rfl) (fun _ _ _ h => h) (Or.inl ⟨by rfl, ?h19⟩) (by assumption) ?_
          case h19 => (intro wS hSw; (try dsimp only at hSw); go_simp; try with_reducible rfl)
          try simp only [Act.put, List.setIfInBounds_toArray, List.set_cons_zero, List.set_cons_succ]
          refine wpAnyH_take (i := 20) (v := ?v20) (by simp only [List.getElem?_toArray, List.getElem?_cons_succ, List.getElem?_cons_zero]; rfl) (by kernel_rfl) (by kernel_rfl) (by kernel_rfl) (fun _ _ _ h => h) (Or.inl ⟨by rfl, ?h20⟩) (by assumption) ?_
          case h20 => (intro wS hSw; (try dsimp only at hSw); go_simp; try with_reducible rfl)
          try simp only [Act.put, List.setIfInBounds_toArray, List.set_cons_zero, List.set_cons_succ]
          refine wpAnyH_take (i := 21) (v := ?v21) (by simp only [List.getElem?_toArray, List.getElem?_cons_succ, List.getElem?_cons_zero]; rfl) (by kernel_rfl) (by kernel_rfl) (by kernel_rfl) (fun _ _ _ h => h) (Or.inl ⟨by rfl, ?h21⟩) (by assumption) ?_
          case h21 => (intro wS hSw; (try dsimp only at hSw); go_simp; try with_reducible rfl)
          try simp only [Act.put, List.setIfInBounds_toArray, List.set_cons_zero, List.set_cons_succ]
          refine wpAnyH_ready (rs := [22]) (by kernel_rfl) (by simp) ?_
          refine AllReadyH.cons (o := _) rfl (fun K hK => ?_) AllReadyH.nil
          go_simp
          refine hK.out _ _ (HRn.out.alloc _) (fun hHeld22_3 => ?_)
          clear hK K
          try simp only [Act.put, List.setIfInBounds_toArray, List.set_cons_zero, List.set_cons_succ]
          refine wpAnyH_ready (rs := [23]) (by kernel_rfl) (by simp) ?_
          refine AllReadyH.cons (o := _) rfl (fun K hK => ?_) AllReadyH.nil
          go_simp
          refine HS.out.mono ?_
          rintro e w5 ⟨rfl, hB5, hO5⟩
          refine hK.out _ _ (hO5.rec (HRn.out.alloc _) HO.out.2.1 HO.out.2.2) (fun hHeld23_4 => ?_)
          clear hK K
          try simp only [Act.put, List.setIfInBounds_toArray, List.set_cons_zero, List.set_cons_succ]
          refine wpAnyH_done (by kernel_rfl) ?_ _
          refine NoPanic.normal ?_
          go_wp2
          all_goals
            go_ret
            first
            | exact ⟨rfl, hB5, HO.out.1.trans hO5⟩
            | (have e1 : st = p := by omega
               have e2 := cut_here s p hp
               have hB6 := hB5
               rw [e1, e2] at hB6
               refine ⟨?_, hB6, HO.out.1.trans hO5⟩
               first | rfl | (rw [e1]; rfl) | simp [e1])
        · go_simp
          refine hK.out _ _ (by first | exact HR1.out | exact HRn.out) (fun hHeld18_1 => ?_)
          clear hK K
          try simp only [Act.put, List.setIfInBounds_toArray, List.set_cons_zero, List.set_cons_succ]
          refine wpAnyH_take (i := 19) (v := ?v19) (by simp only [List.getElem?_toArray, List.getElem?_cons_succ, List.getElem?_cons_zero]; rfl) (by kernel_rfl) (by kernel_rfl) (by kernel_rfl) (fun _ _ _ h => h) (Or.inl ⟨by rfl, ?h19⟩) (by assumption) ?_
          case h19 => (intro wS hSw; (try dsimp only at hSw); go_simp; try with_reducible rfl)
          try simp only [Act.put, List.setIfInBounds_toArray, List.set_cons_zero, List.set_cons_succ]
          refine wpAnyH_ready (rs := [16]) (by kernel_rfl) (by simp) ?_
          refine AllReadyH.cons (o := _) rfl (fun K hK => ?_) AllReadyH.nil
          go_simp
          refine hK.out _ _ (by first | exact HR1.out | exact HRn.out) (fun hHeld16_2 => ?_)
          clear hK K
          try simp only [Act.put, List.setIfInBounds_toArray, List.set_cons_zero, List.set_cons_succ]
          refine wpAnyH_take (i := 20) (v := ?v20) (by simp only [List.getElem?_toArray, List.getElem?_cons_succ, List.getElem?_cons_zero]; rfl) (by kernel_rfl) (by kernel_rfl) (by kernel_rfl) (fun _ _ _ h => h) (Or.inl ⟨by rfl, ?h20⟩) (by assumption) ?_
          case h20 => (intro wS hSw; (try dsimp only at hSw); go_simp; try with_reducible rfl)
          try simp only [Act.put, List.setIfInBounds_toArray, List.set_cons_zero, List.set_cons_succ]
          refine wpAnyH_take (i := 21) (v := ?v21) (by simp only [List.getElem?_toArray, List.getElem?_cons_succ, List.getElem?_cons_zero]; rfl) (by kernel_rfl) (by kernel_rfl) (by kernel_rfl) (fun _ _ _ h => h) (Or.inl ⟨by rfl, ?h21⟩) (by assumption) ?_
          case h21 => (intro wS hSw; (try dsimp only at hSw); go_simp; try with_reducible rfl)
          try simp only [Act.put, List.setIfInBounds_toArray, List.set_cons_zero, List.set_cons_succ]
          refine wpAnyH_ready (rs := [22]) (by kernel_rfl) (by simp) ?_
          refine AllReadyH.cons (o := _) rfl (fun K hK => ?_) AllReadyH.nil
          go_simp
          refine hK.out _ _ (HRn.out.alloc _) (fun hHeld22_3 => ?_)
          clear hK K
          try simp only [Act.put, List.setIfInBounds_toArray, List.set_cons_zero, List.set_cons_succ]
          refine wpAnyH_ready (rs := [23]) (by kernel_rfl) (by simp) ?_
          refine AllReadyH.cons (o := _) rfl (fun K hK => ?_) AllReadyH.nil
          go_simp
          refine HS.out.mono ?_
          rintro e w5 ⟨rfl, hB5, hO5⟩
          refine hK.out _ _ (hO5.rec (HRn.out.alloc _) HO.out.2.1 HO.out.2.2) (fun hHeld23_4 => ?_)
          clear hK K
          try simp only [Act.put, List.setIfInBounds_toArray, List.set_cons_zero, List.set_cons_succ]
          refine wpAnyH_done (by kernel_rfl) ?_ _
          refine NoPanic.normal ?_
          go_wp2
          all_goals
            go_ret
            first
            | exact ⟨rfl, hB5, HO.out.1.trans hO5⟩
            | (have e1 : st = p := by omega
               have e2 := cut_here s p hp
               have hB6 := hB5
               rw [e1, e2] at hB6
               refine ⟨?_, hB6, HO.out.1.trans hO5⟩
               first | rfl | (rw [e1]; rfl) | simp [e1])
      · go_simp
        refine hK.out _ _ (by first | exact HR1.out | exact HRn.out) (fun hHeld16_0 => ?_)
        clear hK K
        try simp only [Act.put, List.setIfInBounds_toArray, List.set_cons_zero, List.set_cons_succ]
        refine wpAnyH_ready (rs := [9, 18]) (by kernel_rfl) (by simp) ?_
        refine AllReadyH.cons (o := _) rfl (fun K hK => ?_) (AllReadyH.cons (o := _) rfl (fun K hK => ?_) AllReadyH.nil)
        · go_simp
          refine hK.out _ _ (by first | exact HR1.out | exact HRn.out) (fun hHeld9_1 => ?_)
          clear hK K
          try simp only [Act.put, List.setIfInBounds_toArray, List.set_cons_zero, List.set_cons_succ]
          refine wpAnyH_take (i := 10) (v := ?v10) (by simp only [List.getElem?_toArray, List.getElem?_cons_succ, List.getElem?_cons_zero]; rfl) (by kernel_rfl) (by kernel_rfl) (by kernel_rfl) (fun _ _ _ h => h) (Or.inl ⟨by rfl, ?h10⟩) (by assumption) ?_
          case h10 => (intro wS hSw; (try dsimp only at hSw); go_simp; try with_reducible rfl)
          try simp only [Act.put, List.setIfInBounds_toArray, List.set_cons_zero, List.set_cons_succ]
          refine wpAnyH_take (i := 11) (v := ?v11) (by simp only [List.getElem?_toArray, List.getElem?_cons_succ, List.getElem?_cons_zero]; rfl) (by kernel_rfl) (by kernel_rfl) (by kernel_rfl) (fun _ _ _ h => h) (Or.inl ⟨by rfl, ?h11⟩) (by assumption) ?_
          case h11 => (intro wS hSw; (try dsimp only at hSw); have hC' := HX.out.2.2.2.2 wS hSw; go_simp; try with_reducible rfl)
          try simp only [Act.put, List.setIfInBounds_toArray, List.set_cons_zero, List.set_cons_succ]
          refine wpAnyH_take (i := 12) (v := ?v12) (by simp only [List.getElem?_toArray, List.getElem?_cons_succ, List.getElem?_cons_zero]; rfl) (by kernel_rfl) (by kernel_rfl) (by kernel_rfl) (fun _ _ _ h => h) (Or.inl ⟨by rfl, ?h12⟩) (by assumption) ?_
          case h12 => (intro wS hSw; (try dsimp only at hSw); go_simp; try with_reducible rfl)
          try simp only [Act.put, List.setIfInBounds_toArray, List.set_cons_zero, List.set_cons_succ]
          refine wpAnyH_ready (rs := [18]) (by kernel_rfl) (by simp) ?_
          refine AllReadyH.cons (o := _) rfl (fun K hK => ?_) AllReadyH.nil
          go_simp
          refine hK.out _ _ (by first | exact HR1.out | exact HRn.out) (fun hHeld18_2 => ?_)
          clear hK K
          try simp only [Act.put, List.setIfInBounds_toArray, List.set_cons_zero, List.set_cons_succ]
          refine wpAnyH_take (i := 19) (v := ?v19) (by simp only [List.getElem?_toArray, List.getElem?_cons_succ, List.getElem?_cons_zero]; rfl) (by kernel_rfl) (by kernel_rfl) (by kernel_rfl) (fun _ _ _ h => h) (Or.inl ⟨by rfl, ?h19⟩) (by assumption) ?_
          case h19 => (intro wS hSw; (try dsimp only at hSw); go_simp; try with_reducible rfl)
          try simp only [Act.put, List.setIfInBounds_toArray, List.set_cons_zero, List.set_cons_succ]
          refine wpAnyH_take (i := 20) (v := ?v20) (by simp only [List.getElem?_toArray, List.getElem?_cons_succ, List.getElem?_cons_zero]; rfl) (by kernel_rfl) (by kernel_rfl) (by kernel_rfl) (fun _ _ _ h => h) (Or.inl ⟨by rfl, ?h20⟩) (by assumption) ?_
          case h20 => (intro wS hSw; (try dsimp only at hSw); go_simp; try with_reducible rfl)
          try simp only [Act.put, List.setIfInBounds_toArray, List.set_cons_zero, List.set_cons_succ]
          refine wpAnyH_take (i := 21) (v := ?v21) (by simp only [List.getElem?_toArray, List.getElem?_cons_succ, List.getElem?_cons_zero]; rfl) (by kernel_rfl) (by kernel_rfl) (by kernel_rfl) (fun _ _ _ h => h) (Or.inl ⟨by rfl, ?h21⟩) (by assumption) ?_
          case h21 => (intro wS hSw; (try dsimp only at hSw); go_simp; try with_reducible rfl)
          try simp only [Act.put, List.setIfInBounds_toArray, List.set_cons_zero, List.set_cons_succ]
          refine wpAnyH_ready (rs := [22]) (by kernel_rfl) (by simp) ?_
          refine AllReadyH.cons (o := _) rfl (fun K hK => ?_) AllReadyH.nil
          go_simp
          refine hK.out _ _ (HRn.out.alloc _) (fun hHeld22_3 => ?_)
          clear hK K
          try simp only [Act.put, List.setIfInBounds_toArray, List.set_cons_zero, List.set_cons_succ]
          refine wpAnyH_ready (rs := [23]) (by kernel_rfl) (by simp) ?_
          refine AllReadyH.cons (o := _) rfl (fun K hK => ?_) AllReadyH.nil
          go_simp
          refine HS.out.mono ?_
          rintro e w5 ⟨rfl, hB5, hO5⟩
          refine hK.out _ _ (hO5.rec (HRn.out.alloc _) HO.out.2.1 HO.out.2.2) (fun hHeld23_4 => ?_)
          clear hK K
          try simp only [Act.put, List.setIfInBounds_toArray, List.set_cons_zero, List.set_cons_succ]
          refine wpAnyH_done (by kernel_rfl) ?_ _
          refine NoPanic.normal ?_
          go_wp2
          all_goals
            go_ret
            first
            | exact ⟨rfl, hB5, HO.out.1.trans hO5⟩
            | (have e1 : st = p := by omega
               have e2 := cut_here s p hp
               have hB6 := hB5
               rw [e1, e2] at hB6
               refine ⟨?_, hB6, HO.out.1.trans hO5⟩
               first | rfl | (rw [e1]; rfl) | simp [e1])
        · go_simp
          refine hK.out _ _ (by first | exact HR1.out | exact HRn.out) (fun hHeld18_1 => ?_)
          clear hK K
          try simp only [Act.put, List.setIfInBounds_toArray, List.set_cons_zero, List.set_cons_succ]
          refine wpAnyH_take (i := 19) (v := ?v19) (by simp only [List.getElem?_toArray, List.getElem?_cons_succ, List.getElem?_cons_zero]; rfl) (by kernel_rfl) (by kernel_rfl) (by kernel_rfl) (fun _ _ _ h => h) (Or.inl ⟨by rfl, ?h19⟩) (by assumption) ?_
          case h19 => (intro wS hSw; (try dsimp only at hSw); go_simp; try with_reducible rfl)
          try simp only [Act.put, List.setIfInBounds_toArray, List.set_cons_zero, List.set_cons_succ]
          refine wpAnyH_take (i := 20) (v := ?v20) (by simp only [List.getElem?_toArray, List.getElem?_cons_succ, List.getElem?_cons_zero]; rfl) (by kernel_rfl) (by kernel_rfl) (by kernel_rfl) (fun _ _ _ h => h) (Or.inl ⟨by rfl, ?h20⟩) (by assumption) ?_
          case h20 => (intro wS hSw; (try dsimp only at hSw); go_simp; try with_reducible rfl)
          try simp only [Act.put, List.setIfInBounds_toArray, List.set_cons_zero, List.set_cons_succ]
          refine wpAnyH_ready (rs := [9]) (by kernel_rfl) (by simp) ?_
          refine AllReadyH.cons (o := _) rfl (fun K hK => ?_) AllReadyH.nil
          go_simp
          refine hK.out _ _ (by first | exact HR1.out | exact HRn.out) (fun hHeld9_2 => ?_)
          clear hK K
          try simp only [Act.put, List.setIfInBounds_toArray, List.set_cons_zero, List.set_cons_succ]
          refine wpAnyH_take (i := 10) (v := ?v10) (by simp only [List.getElem?_toArray, List.getElem?_cons_succ, List.getElem?_cons_zero]; rfl) (by kernel_rfl) (by kernel_rfl) (by kernel_rfl) (fun _ _ _ h => h) (Or.inl ⟨by rfl, ?h10⟩) (by assumption) ?_
          case h10 => (intro wS hSw; (try dsimp only at hSw); go_simp; try with_reducible rfl)
          try simp only [Act.put, List.setIfInBounds_toArray, List.set_cons_zero, List.set_cons_succ]
          refine wpAnyH_take (i := 11) (v := ?v11) (by simp only [List.getElem?_toArray, List.getElem?_cons_succ, List.getElem?_cons_zero]; rfl) (by kernel_rfl) (by kernel_rfl) (by kernel_rfl) (fun _ _ _ h => h) (Or.inl ⟨by rfl, ?h11⟩) (by assumption) ?_
          case h11 => (intro wS hSw; (try dsimp only at hSw); have hC' := HX.out.2.2.2.2 wS hSw; go_simp; try with_reducible rfl)
          try simp only [Act.put, List.setIfInBounds_toArray, List.set_cons_zero, List.set_cons_succ]
          refine wpAnyH_take (i := 12) (v := ?v12) (by simp only [List.getElem?_toArray, List.getElem?_cons_succ, List.getElem?_cons_zero]; rfl) (by kernel_rfl) (by kernel_rfl) (by kernel_rfl) (fun _ _ _ h => h) (Or.inl ⟨by rfl, ?h12⟩) (by assumption) ?_
          case h12 => (intro wS hSw; (try dsimp only at hSw); go_simp; try with_reducible rfl)
          try simp only [Act.put, List.setIfInBounds_toArray, List.set_cons_zero, List.set_cons_succ]
          refine wpAnyH_take (i := 21) (v := ?v21) (by simp only [List.getElem?_toArray, List.getElem?_cons_succ, List.getElem?_cons_zero]; rfl) (by kernel_rfl) (by kernel_rfl) (by kernel_rfl) (fun _ _ _ h => h) (Or.inl ⟨by rfl, ?h21⟩) (by assumption) ?_
          case h21 => (intro wS hSw; (try dsimp only at hSw); go_simp; try with_reducible rfl)
          try simp only [Act.put, List.setIfInBounds_toArray, List.set_cons_zero, List.set_cons_succ]
          refine wpAnyH_ready (rs := [22]) (by kernel_rfl) (by simp) ?_
          refine AllReadyH.cons (o := _) rfl (fun K hK => ?_) AllReadyH.nil
          go_simp
          refine hK.out _ _ (HRn.out.alloc _) (fun hHeld22_3 => ?_)
          clear hK K
          try simp only [Act.put, List.setIfInBounds_toArray, List.set_cons_zero, List.set_cons_succ]
          refine wpAnyH_ready (rs := [23]) (by kernel_rfl) (by simp) ?_
          refine AllReadyH.cons (o := _) rfl (fun K hK => ?_) AllReadyH.nil
          go_simp
          refine HS.out.mono ?_
          rintro e w5 ⟨rfl, hB5, hO5⟩
          refine hK.out _ _ (hO5.rec (HRn.out.alloc _) HO.out.2.1 HO.out.2.2) (fun hHeld23_4 => ?_)
          clear hK K
          try simp only [Act.put, List.setIfInBounds_toArray, List.set_cons_zero, List.set_cons_succ]
          refine wpAnyH_done (by kernel_rfl) ?_ _
          refine NoPanic.normal ?_
          go_wp2
          all_goals
            go_ret
            first
            | exact ⟨rfl, hB5, HO.out.1.trans hO5⟩
            | (have e1 : st = p := by omega
               have e2 := cut_here s p hp
               have hB6 := hB5
               rw [e1, e2] at hB6
               refine ⟨?_, hB6, HO.out.1.trans hO5⟩
               first | rfl | (rw [e1]; rfl) | simp [e1])
      · go_simp
        refine hK.out _ _ (by first | exact HR1.out | exact HRn.out) (fun hHeld18_0 => ?_)
        clear hK K
        try simp only [Act.put, List.setIfInBounds_toArray, List.set_cons_zero, List.set_cons_succ]
        refine wpAnyH_take (i := 19) (v := ?v19) (by simp only [List.getElem?_toArray, List.getElem?_cons_succ, List.getElem?_cons_zero]; rfl) (by kernel_rfl) (by kernel_rfl) (by kernel_rfl) (fun _ _ _ h => h) (Or.inl ⟨by rfl, ?h19⟩) (by assumption) ?_
        case h19 => (intro wS hSw; (try dsimp only at hSw); go_simp; try with_reducible rfl)
        try simp only [Act.put, List.setIfInBounds_toArray, List.set_cons_zero, List.set_cons_succ]
        refine wpAnyH_ready (rs := [9, 16]) (by kernel_rfl) (by simp) ?_
        refine AllReadyH.cons (o := _) rfl (fun K hK => ?_) (AllReadyH.cons (o := _) rfl (fun K hK => ?_) AllReadyH.nil)
        · go_simp
          refine hK.out _ _ (by first | exact HR1.out | exact HRn.out) (fun hHeld9_1 => ?_)
          clear hK K
          try simp only [Act.put, List.setIfInBounds_toArray, List.set_cons_zero, List.set_cons_succ]
          refine wpAnyH_take (i := 10) (v := ?v10) (by simp only [List.getElem?_toArray, List.getElem?_cons_succ, List.getElem?_cons_zero]; rfl) (by kernel_rfl) (by kernel_rfl) (by kernel_rfl) (fun _ _ _ h => h) (Or.inl ⟨by rfl, ?h10⟩) (by assumption) ?_
          case h10 => (intro wS hSw; (try dsimp only at hSw); go_simp; try with_reducible rfl)
          try simp only [Act.put, List.setIfInBounds_toArray, List.set_cons_zero, List.set_cons_succ]
          refine wpAnyH_take (i := 11) (v := ?v11) (by simp only [List.getElem?_toArray, List.getElem?_cons_succ, List.getElem?_cons_zero]; rfl) (by kernel_rfl) (by kernel_rfl) (by kernel_rfl) (fun _ _ _ h => h) (Or.inl ⟨by rfl, ?h11⟩) (by assumption) ?_
          case h11 => (intro wS hSw; (try dsimp only at hSw); have hC' := HX.out.2.2.2.2 wS hSw; go_simp; try with_reducible rfl)
          try simp only [Act.put, List.setIfInBounds_toArray, List.set_cons_zero, List.set_cons_succ]
          refine wpAnyH_take (i := 12) (v := ?v12) (by simp only [List.getElem?_toArray, List.getElem?_cons_succ, List.getElem?_cons_zero]; rfl) (by kernel_rfl) (by kernel_rfl) (by kernel_rfl) (fun _ _ _ h => h) (Or.inl ⟨by rfl, ?h12⟩) (by assumption) ?_
          case h12 => (intro wS hSw; (try dsimp only at hSw); go_simp; try with_reducible rfl)
          try simp only [Act.put, List.setIfInBounds_toArray, List.set_cons_zero, List.set_cons_succ]
          refine wpAnyH_ready (rs := [16]) (by kernel_rfl) (by simp) ?_
          refine AllReadyH.cons (o := _) rfl (fun K hK => ?_) AllReadyH.nil
          go_simp
          refine hK.out _ _ (by first | exact HR1.out | exact HRn.out) (fun hHeld16_2 => ?_)
          clear hK K
          try simp only [Act.put, List.setIfInBounds_toArray, List.set_cons_zero, List.set_cons_succ]
          refine wpAnyH_take (i := 20) (v := ?v20) (by simp only [List.getElem?_toArray, List.getElem?_cons_succ, List.getElem?_cons_zero]; rfl) (by kernel_rfl) (by kernel_rfl) (by kernel_rfl) (fun _ _ _ h => h) (Or.inl ⟨by rfl, ?h20⟩) (by assumption) ?_
          case h20 => (intro wS hSw; (try dsimp only at hSw); go_simp; try with_reducible rfl)
          try simp only [Act.put, List.setIfInBounds_toArray, List.set_cons_zero, List.set_cons_succ]
          refine wpAnyH_take (i := 21) (v := ?v21) (by simp only [List.getElem?_toArray, List.getElem?_cons_succ, List.getElem?_cons_zero]; rfl) (by kernel_rfl) (by kernel_rfl) (by kernel_rfl) (fun _ _ _ h => h) (Or.inl ⟨by rfl, ?h21⟩) (by assumption) ?_
          case h21 => (intro wS hSw; (try dsimp only at hSw); go_simp; try with_reducible rfl)
          try simp only [Act.put, List.setIfInBounds_toArray, List.set_cons_zero, List.set_cons_succ]
          refine wpAnyH_ready (rs := [22]) (by kernel_rfl) (by simp) ?_
          refine AllReadyH.cons (o := _) rfl (fun K hK => ?_) AllReadyH.nil
          go_simp
          refine hK.out _ _ (HRn.out.alloc _) (fun hHeld22_3 => ?_)
          clear hK K
          try simp only [Act.put, List.setIfInBounds_toArray, List.set_cons_zero, List.set_cons_succ]
          refine wpAnyH_ready (rs := [23]) (by kernel_rfl) (by simp) ?_
          refine AllReadyH.cons (o := _) rfl (fun K hK => ?_) AllReadyH.nil
          go_simp
          refine HS.out.mono ?_
          rintro e w5 ⟨rfl, hB5, hO5⟩
          refine hK.out _ _ (hO5.rec (HRn.out.alloc _) HO.out.2.1 HO.out.2.2) (fun hHeld23_4 => ?_)
          clear hK K
          try simp only [Act.put, List.setIfInBounds_toArray, List.set_cons_zero, List.set_cons_succ]
          refine wpAnyH_done (by kernel_rfl) ?_ _
          refine NoPanic.normal ?_
          go_wp2
          all_goals
            go_ret
            first
            | exact ⟨rfl, hB5, HO.out.1.trans hO5⟩
            | (have e1 : st = p := by omega
               have e2 := cut_here s p hp
               have hB6 := hB5
               rw [e1, e2] at hB6
               refine ⟨?_, hB6, HO.out.1.trans hO5⟩
               first | rfl | (rw [e1]; rfl) | simp [e1])
        · go_simp
          refine hK.out _ _ (by first | exact HR1.out | exact HRn.out) (fun hHeld16_1 => ?_)
          clear hK K
          try simp only [Act.put, List.setIfInBounds_toArray, List.set_cons_zero, List.set_cons_succ]
          refine wpAnyH_take (i := 20) (v := ?v20) (by simp only [List.getElem?_toArray, List.getElem?_cons_succ, List.getElem?_cons_zero]; rfl) (by kernel_rfl) (by kernel_rfl) (by kernel_rfl) (fun _ _ _ h => h) (Or.inl ⟨by rfl, ?h20⟩) (by assumption) ?_
          case h20 => (intro wS hSw; (try dsimp only at hSw); go_simp; try with_reducible rfl)
          try simp only [Act.put, List.setIfInBounds_toArray, List.set_cons_zero, List.set_cons_succ]
          refine wpAnyH_ready (rs := [9]) (by kernel_rfl) (by simp) ?_
          refine AllReadyH.cons (o := _) rfl (fun K hK => ?_) AllReadyH.nil
          go_simp
          refine hK.out _ _ (by first | exact HR1.out | exact HRn.out) (fun hHeld9_2 => ?_)
          clear hK K
          try simp only [Act.put, List.setIfInBounds_toArray, List.set_cons_zero, List.set_cons_succ]
          refine wpAnyH_take (i := 10) (v := ?v10) (by simp only [List.getElem?_toArray, List.getElem?_cons_succ, List.getElem?_cons_zero]; rfl) (by kernel_rfl) (by kernel_rfl) (by kernel_rfl) (fun _ _ _ h => h) (Or.inl ⟨by rfl, ?h10⟩) (by assumption) ?_
          case h10 => (intro wS hSw; (try dsimp only at hSw); go_simp; try with_reducible rfl)
          try simp only [Act.put, List.setIfInBounds_toArray, List.set_cons_zero, List.set_cons_succ]
          refine wpAnyH_take (i := 11) (v := ?v11) (by simp only [List.getElem?_toArray, List.getElem?_cons_succ, List.getElem?_cons_zero]; rfl) (by kernel_rfl) (by kernel_rfl) (by kernel_rfl) (fun _ _ _ h => h) (Or.inl ⟨by rfl, ?h11⟩) (by assumption) ?_
          case h11 => (intro wS hSw; (try dsimp only at hSw); have hC' := HX.out.2.2.2.2 wS hSw; go_simp; try with_reducible rfl)
          try simp only [Act.put, List.setIfInBounds_toArray, List.set_cons_zero, List.set_cons_succ]
          refine wpAnyH_take (i := 12) (v := ?v12) (by simp only [List.getElem?_toArray, List.getElem?_cons_succ, List.getElem?_cons_zero]; rfl) (by kernel_rfl) (by kernel_rfl) (by kernel_rfl) (fun _ _ _ h => h) (Or.inl ⟨by rfl, ?h12⟩) (by assumption) ?_
          case h12 => (intro wS hSw; (try dsimp only at hSw); go_simp; try with_reducible rfl)
          try simp only [Act.put, List.setIfInBounds_toArray, List.set_cons_zero, List.set_cons_succ]
          refine wpAnyH_take (i := 21) (v := ?v21) (by simp only [List.getElem?_toArray, List.getElem?_cons_succ, List.getElem?_cons_zero]; rfl) (by kernel_rfl) (by kernel_rfl) (by kernel_rfl) (fun _ _ _ h => h) (Or.inl ⟨by rfl, ?h21⟩) (by assumption) ?_
          case h21 => (intro wS hSw; (try dsimp only at hSw); go_simp; try with_reducible rfl)
          try simp only [Act.put, List.setIfInBounds_toArray, List.set_cons_zero, List.set_cons_succ]
          refine wpAnyH_ready (rs := [22]) (by kernel_rfl) (by simp) ?_
          refine AllReadyH.cons (o := _) rfl (fun K hK => ?_) AllReadyH.nil
          go_simp
          refine hK.out _ _ (HRn.out.alloc _) (fun hHeld22_3 => ?_)
          clear hK K
          try simp only [Act.put, List.setIfInBounds_toArray, List.set_cons_zero, List.set_cons_succ]
          refine wpAnyH_ready (rs := [23]) (by kernel_rfl) (by simp) ?_
          refine AllReadyH.cons (o := _) rfl (fun K hK => ?_) AllReadyH.nil
          go_simp
          refine HS.out.mono ?_
          rintro e w5 ⟨rfl, hB5, hO5⟩
          refine hK.out _ _ (hO5.rec (HRn.out.alloc _) HO.out.2.1 HO.out.2.2) (fun hHeld23_4 => ?_)
          clear hK K
          try simp only [Act.put, List.setIfInBounds_toArray, List.set_cons_zero, List.set_cons_succ]
          refine wpAnyH_done (by kernel_rfl) ?_ _
          refine NoPanic.normal ?_
          go_wp2
          all_goals
            go_ret
            first
            | exact ⟨rfl, hB5, HO.out.1.trans hO5⟩
            | (have e1 : st = p := by omega
               have e2 := cut_here s p hp
               have hB6 := hB5
               rw [e1, e2] at hB6
               refine ⟨?_, hB6, HO.out.1.trans hO5⟩
               first | rfl | (rw [e1]; rfl) | simp [e1])
    · have hsub : IntKind.i64.wrap ((p : Int) - c) = (st : Int) := by rw [IntWalk.i64_in _ (by omega), he]
      clear he hpos
      go_upto_region 7 with (fail)
      refine wp_region_noPanic ?_
      refine wp_region_held_drew (S := fun w' => Rec w' r (runeCells (ints s) cap) 21) (by kernel_rfl) (HR1.out) (fun hHeld => ?_)
      refine wpAnyH_take (i := 0) (v := ?v0) (by simp only [List.getElem?_toArray, List.getElem?_cons_succ, List.getElem?_cons_zero]; rfl) (by kernel_rfl) (by kernel_rfl) (by kernel_rfl) (fun _ _ _ h => h) (Or.inl ⟨by rfl, ?h0⟩) (by assumption) ?_
      case h0 => (intro wS hSw; (try dsimp only at hSw); go_simp; try with_reducible rfl)
      try simp only [Act.put, List.setIfInBounds_toArray, List.set_cons_zero, List.set_cons_succ]
      refine wpAnyH_take (i := 1) (v := ?v1) (by simp only [List.getElem?_toArray, List.getElem?_cons_succ, List.getElem?_cons_zero]; rfl) (by kernel_rfl) (by kernel_rfl) (by kernel_rfl) (fun _ _ _ h => h) (Or.inl ⟨by rfl, ?h1⟩) (by assumption) ?_
      case h1 => (intro wS hSw; (try dsimp only at hSw); go_simp; try with_reducible rfl)
      try simp only [Act.put, List.setIfInBounds_toArray, List.set_cons_zero, List.set_cons_succ]
      refine wpAnyH_take (i := 2) (v := ?v2) (by simp only [List.getElem?_toArray, List.getElem?_cons_succ, List.getElem?_cons_zero]; rfl) (by kernel_rfl) (by kernel_rfl) (by kernel_rfl) (fun _ _ _ h => h) (Or.inl ⟨by rfl, ?h2⟩) (by assumption) ?_
      case h2 => (intro wS hSw; (try dsimp only at hSw); go_simp; try with_reducible rfl)
      try simp only [Act.put, List.setIfInBounds_toArray, List.set_cons_zero, List.set_cons_succ]
      refine wpAnyH_take (i := 3) (v := ?v3) (by simp only [List.getElem?_toArray, List.getElem?_cons_succ, List.getElem?_cons_zero]; rfl) (by kernel_rfl) (by kernel_rfl) (by kernel_rfl) (fun _ _ _ h => h) (Or.inl ⟨by rfl, ?h3⟩) (by assumption) ?_
      case h3 => (intro wS hSw; (try dsimp only at hSw); go_simp; try with_reducible rfl)
      try simp only [Act.put, List.setIfInBounds_toArray, List.set_cons_zero, List.set_cons_succ]
      refine wpAnyH_take (i := 4) (v := ?v4) (by simp only [List.getElem?_toArray, List.getElem?_cons_succ, List.getElem?_cons_zero]; rfl) (by kernel_rfl) (by kernel_rfl) (by kernel_rfl) (fun _ _ _ h => h) (Or.inl ⟨by rfl, ?h4⟩) (by assumption) ?_
      case h4 => (intro wS hSw; (try dsimp only at hSw); have hA' := HX.out.2.2.2.1 wS hSw; go_simp; try with_reducible rfl)
      try simp only [Act.put, List.setIfInBounds_toArray, List.set_cons_zero, List.set_cons_succ]
      refine wpAnyH_take (i := 5) (v := ?v5) (by simp only [List.getElem?_toArray, List.getElem?_cons_succ, List.getElem?_cons_zero]; rfl) (by kernel_rfl) (by kernel_rfl) (by kernel_rfl) (fun _ _ _ h => h) (Or.inl ⟨by rfl, ?h5⟩) (by assumption) ?_
      case h5 => (intro wS hSw; (try dsimp only at hSw); go_simp; try with_reducible rfl)
      try simp only [Act.put, List.setIfInBounds_toArray, List.set_cons_zero, List.set_cons_succ]
      refine wpAnyH_take (i := 6) (v := ?v6) (by simp only [List.getElem?_toArray, List.getElem?_cons_succ, List.getElem?_cons_zero]; rfl) (by kernel_rfl) (by kernel_rfl) (by kernel_rfl) (fun _ _ _ h => h) (Or.inl ⟨by rfl, ?h6⟩) (by assumption) ?_
      case h6 => (intro wS hSw; (try dsimp only at hSw); go_simp; try with_reducible rfl)
      try simp only [Act.put, List.setIfInBounds_toArray, List.set_cons_zero, List.set_cons_succ]
      refine wpAnyH_take (i := 7) (v := ?v7) (by simp only [List.getElem?_toArray, List.getElem?_cons_succ, List.getElem?_cons_zero]; rfl) (by kernel_rfl) (by kernel_rfl) (by kernel_rfl) (fun _ _ _ h => h) (Or.inl ⟨by rfl, ?h7⟩) (by assumption) ?_
      case h7 => (intro wS hSw; (try dsimp only at hSw); go_simp; try with_reducible rfl)
      try simp only [Act.put, List.setIfInBounds_toArray, List.set_cons_zero, List.set_cons_succ]
      refine wpAnyH_take (i := 8) (v := ?v8) (by simp only [List.getElem?_toArray, List.getElem?_cons_succ, List.getElem?_cons_zero]; rfl) (by kernel_rfl) (by kernel_rfl) (by kernel_rfl) (fun _ _ _ h => h) (Or.inl ⟨by rfl, ?h8⟩) (by assumption) ?_
      case h8 => (intro wS hSw; (try dsimp only at hSw); go_simp; try with_reducible rfl)
      try simp only [Act.put, List.setIfInBounds_toArray, List.set_cons_zero, List.set_cons_succ]
      refine wpAnyH_take (i := 13) (v := ?v13) (by simp only [List.getElem?_toArray, List.getElem?_cons_succ, List.getElem?_cons_zero]; rfl) (by kernel_rfl) (by kernel_rfl) (by kernel_rfl) (fun _ _ _ h => h) (Or.inl ⟨by rfl, ?h13⟩) (by assumption) ?_
      case h13 => (intro wS hSw; (try dsimp only at hSw); go_simp; try with_reducible rfl)
      try simp only [Act.put, List.setIfInBounds_toArray, List.set_cons_zero, List.set_cons_succ]
      refine wpAnyH_take (i := 14) (v := ?v14) (by simp only [List.getElem?_toArray, List.getElem?_cons_succ, List.getElem?_cons_zero]; rfl) (by kernel_rfl) (by kernel_rfl) (by kernel_rfl) (fun _ _ _ h => h) (Or.inl ⟨by rfl, ?h14⟩) (by assumption) ?_
      case h14 => (intro wS hSw; (try dsimp only at hSw); go_simp; try with_reducible rfl)
      try simp only [Act.put, List.setIfInBounds_toArray, List.set_cons_zero, List.set_cons_succ]
      refine wpAnyH_take (i := 15) (v := ?v15) (by simp only [List.getElem?_toArray, List.getElem?_cons_succ, List.getElem?_cons_zero]; rfl) (by kernel_rfl) (by kernel_rfl) (by kernel_rfl) (fun _ _ _ h => h) (Or.inl ⟨by rfl, ?h15⟩) (by assumption) ?_
      case h15 => (intro wS hSw; (try dsimp only at hSw); go_simp; try with_reducible rfl)
      try simp only [Act.put, List.setIfInBounds_toArray, List.set_cons_zero, List.set_cons_succ]
      refine wpAnyH_take (i := 17) (v := ?v17) (by simp only [List.getElem?_toArray, List.getElem?_cons_succ, List.getElem?_cons_zero]; rfl) (by kernel_rfl) (by kernel_rfl) (by kernel_rfl) (fun _ _ _ h => h) (Or.inl ⟨by rfl, ?h17⟩) (by assumption) ?_
      case h17 => (intro wS hSw; (try dsimp only at hSw); go_simp; try with_reducible rfl)
      try simp only [Act.put, List.setIfInBounds_toArray, List.set_cons_zero, List.set_cons_succ]
      refine wpAnyH_ready (rs := [9, 16, 18]) (by kernel_rfl) (by simp) ?_
      refine AllReadyH.cons (o := _) rfl (fun K hK => ?_) (AllReadyH.cons (o := _) rfl (fun K hK => ?_) (AllReadyH.cons (o := _) rfl (fun K hK => ?_) AllReadyH.nil))
      · go_simp
        refine hK.out _ _ (by first | exact HR1.out | exact HRn.out) (fun hHeld9_0 => ?_)
        clear hK K
        try simp only [Act.put, List.setIfInBounds_toArray, List.set_cons_zero, List.set_cons_succ]
        refine wpAnyH_take (i := 10) (v := ?v10) (by simp only [List.getElem?_toArray, List.getElem?_cons_succ, List.getElem?_cons_zero]; rfl) (by kernel_rfl) (by kernel_rfl) (by kernel_rfl) (fun _ _ _ h => h) (Or.inl ⟨by rfl, ?h10⟩) (by assumption) ?_
        case h10 => (intro wS hSw; (try dsimp only at hSw); go_simp; try with_reducible rfl)
        try simp only [Act.put, List.setIfInBounds_toArray, List.set_cons_zero, List.set_cons_succ]
        refine wpAnyH_take (i := 11) (v := ?v11) (by simp only [List.getElem?_toArray, List.getElem?_cons_succ, List.getElem?_cons_zero]; rfl) (by kernel_rfl) (by kernel_rfl) (by kernel_rfl) (fun _ _ _ h => h) (Or.inl ⟨by rfl, ?h11⟩) (by assumption) ?_
        case h11 => (intro wS hSw; (try dsimp only at hSw); have hC' := HX.out.2.2.2.2 wS hSw; go_simp; try with_reducible rfl)
        try simp only [Act.put, List.setIfInBounds_toArray, List.set_cons_zero, List.set_cons_succ]
        refine wpAnyH_take (i := 12) (v := ?v12) (by simp only [List.getElem?_toArray, List.getElem?_cons_succ, List.getElem?_cons_zero]; rfl) (by kernel_rfl) (by kernel_rfl) (by kernel_rfl) (fun _ _ _ h => h) (Or.inl ⟨by rfl, ?h12⟩) (by assumption) ?_
        case h12 => (intro wS hSw; (try dsimp only at hSw); go_simp; try with_reducible rfl)
        try simp only [Act.put, List.setIfInBounds_toArray, List.set_cons_zero, List.set_cons_succ]
        refine wpAnyH_ready (rs := [16, 18]) (by kernel_rfl) (by simp) ?_
        refine AllReadyH.cons (o := _) rfl (fun K hK => ?_) (AllReadyH.cons (o := _) rfl (fun K hK => ?_) AllReadyH.nil)
        · go_simp
          refine hK.out _ _ (by first | exact HR1.out | exact HRn.out) (fun hHeld16_1 => ?_)
          clear hK K
          try simp only [Act.put, List.setIfInBounds_toArray, List.set_cons_zero, List.set_cons_succ]
          refine wpAnyH_ready (rs := [18]) (by kernel_rfl) (by simp) ?_
          refine AllReadyH.cons (o := _) rfl (fun K hK => ?_) AllReadyH.nil
          go_simp
          refine hK.out _ _ (by first | exact HR1.out | exact HRn.out) (fun hHeld18_2 => ?_)
          clear hK K
          try simp only [Act.put, List.setIfInBounds_toArray, List.set_cons_zero, List.set_cons_succ]
          refine wpAnyH_take (i := 19) (v := ?v19) (by simp only [List.getElem?_toArray, List.getElem?_cons_succ, List.getElem?_cons_zero]; rfl) (by kernel_rfl) (by kernel_rfl) (by kernel_rfl) (fun _ _ _ h => h) (Or.inl ⟨by rfl, ?h19⟩) (by assumption) ?_
          case h19 => (intro wS hSw; (try dsimp only at hSw); go_simp; try with_reducible rfl)
          try simp only [Act.put, List.setIfInBounds_toArray, List.set_cons_zero, List.set_cons_succ]
          refine wpAnyH_take (i := 20) (v := ?v20) (by simp only [List.getElem?_toArray, List.getElem?_cons_succ, List.getElem?_cons_zero]; rfl) (by kernel_rfl) (by kernel_rfl) (by kernel_rfl) (fun _ _ _ h => h) (Or.inl ⟨by rfl, ?h20⟩) (by assumption) ?_
          case h20 => (intro wS hSw; (try dsimp only at hSw); go_simp; try with_reducible rfl)
          try simp only [Act.put, List.setIfInBounds_toArray, List.set_cons_zero, List.set_cons_succ]
          refine wpAnyH_take (i := 21) (v := ?v21) (by simp only [List.getElem?_toArray, List.getElem?_cons_succ, List.getElem?_cons_zero]; rfl) (by kernel_rfl) (by kernel_rfl) (by kernel_rfl) (fun _ _ _ h => h) (Or.inl ⟨by rfl, ?h21⟩) (by assumption) ?_
          case h21 => (intro wS hSw; (try dsimp only at hSw); go_simp; try with_reducible rfl)
          try simp only [Act.put, List.setIfInBounds_toArray, List.set_cons_zero, List.set_cons_succ]
          refine wpAnyH_ready (rs := [22]) (by kernel_rfl) (by simp) ?_
          refine AllReadyH.cons (o := _) rfl (fun K hK => ?_) AllReadyH.nil
          go_simp
          refine hK.out _ _ (HRn.out.alloc _) (fun hHeld22_3 => ?_)
          clear hK K
          try simp only [Act.put, List.setIfInBounds_toArray, List.set_cons_zero, List.set_cons_succ]
          refine wpAnyH_ready (rs := [23]) (by kernel_rfl) (by simp) ?_
          refine AllReadyH.cons (o := _) rfl (fun K hK => ?_) AllReadyH.nil
          go_simp
          refine HS.out.mono ?_
          rintro e w5 ⟨rfl, hB5, hO5⟩
          refine hK.out _ _ (hO5.rec (HRn.out.alloc _) HO.out.2.1 HO.out.2.2) (fun hHeld23_4 => ?_)
          clear hK K
          try simp only [Act.put, List.setIfInBounds_toArray, List.set_cons_zero, List.set_cons_succ]
          refine wpAnyH_done (by kernel_rfl) ?_ _
          refine NoPanic.normal ?_
          go_wp2
          all_goals
            go_ret
            first
            | exact ⟨rfl, hB5, HO.out.1.trans hO5⟩
            | (have e1 : st = p := by omega
               have e2 := cut_here s p hp
               have hB6 := hB5
               rw [e1, e2] at hB6
               refine ⟨?_, hB6, HO.out.1.trans hO5⟩
               first | rfl | (rw [e1]; rfl) | simp [e1])
        · go_simp
          refine hK.out _ _ (by first | exact HR1.out | exact HRn.out) (fun hHeld18_1 => ?_)
          clear hK K
          try simp only [Act.put, List.setIfInBounds_toArray, List.set_cons_zero, List.set_cons_succ]
          refine wpAnyH_take (i := 19) (v := ?v19) (by simp only [List.getElem?_toArray, List.getElem?_cons_succ, List.getElem?_cons_zero]; rfl) (by kernel_rfl) (by kernel_rfl) (by kernel_rfl) (fun _ _ _ h => h) (Or.inl ⟨by rfl, ?h19⟩) (by assumption) ?_
          case h19 => (intro wS hSw; (try dsimp only at hSw); go_simp; try with_reducible rfl)
          try simp only [Act.put, List.setIfInBounds_toArray, List.set_cons_zero, List.set_cons_succ]
          refine wpAnyH_ready (rs := [16]) (by kernel_rfl) (by simp) ?_
          refine AllReadyH.cons (o := _) rfl (fun K hK => ?_) AllReadyH.nil
          go_simp
          refine hK.out _ _ (by first | exact HR1.out | exact HRn.out) (fun hHeld16_2 => ?_)
          clear hK K
          try simp only [Act.put, List.setIfInBounds_toArray, List.set_cons_zero, List.set_cons_succ]
          refine wpAnyH_take (i := 20) (v := ?v20) (by simp only [List.getElem?_toArray, List.getElem?_cons_succ, List.getElem?_cons_zero]; rfl) (by kernel_rfl) (by kernel_rfl) (by kernel_rfl) (fun _ _ _ h => h) (Or.inl ⟨by rfl, ?h20⟩) (by assumption) ?_
          case h20 => (intro wS hSw; (try dsimp only at hSw); go_simp; try with_reducible rfl)
          try simp only [Act.put, List.setIfInBounds_toArray, List.set_cons_zero, List.set_cons_succ]
          refine wpAnyH_take (i := 21) (v := ?v21) (by simp only [List.getElem?_toArray, List.getElem?_cons_succ, List.getElem?_cons_zero]; rfl) (by kernel_rfl) (by kernel_rfl) (by kernel_rfl) (fun _ _ _ h => h) (Or.inl ⟨by rfl, ?h21⟩) (by assumption) ?_
          case h21 => (intro wS hSw; (try dsimp only at hSw); go_simp; try with_reducible rfl)
          try simp only [Act.put, List.setIfInBounds_toArray, List.set_cons_zero, List.set_cons_succ]
          refine wpAnyH_ready (rs := [22]) (by kernel_rfl) (by simp) ?_
          refine AllReadyH.cons (o := _) rfl (fun K hK => ?_) AllReadyH.nil
          go_simp
          refine hK.out _ _ (HRn.out.alloc _) (fun hHeld22_3 => ?_)
          clear hK K
          try simp only [Act.put, List.setIfInBounds_toArray, List.set_cons_zero, List.set_cons_succ]
          refine wpAnyH_ready (rs := [23]) (by kernel_rfl) (by simp) ?_
          refine AllReadyH.cons (o := _) rfl (fun K hK => ?_) AllReadyH.nil
          go_simp
          refine HS.out.mono ?_
          rintro e w5 ⟨rfl, hB5, hO5⟩
          refine hK.out _ _ (hO5.rec (HRn.out.alloc _) HO.out.2.1 HO.out.2.2) (fun hHeld23_4 => ?_)
          clear hK K
          try simp only [Act.put, List.setIfInBounds_toArray, List.set_cons_zero, List.set_cons_succ]
          refine wpAnyH_done (by kernel_rfl) ?_ _
          refine NoPanic.normal ?_
          go_wp2
          all_goals
            go_ret
            first
            | exact ⟨rfl, hB5, HO.out.1.trans hO5⟩
            | (have e1 : st = p := by omega
               have e2 := cut_here s p hp
               have hB6 := hB5
               rw [e1, e2] at hB6
               refine ⟨?_, hB6, HO.out.1.trans hO5⟩
               first | rfl | (rw [e1]; rfl) | simp [e1])
      · go_simp
        refine hK.out _ _ (by first | exact HR1.out | exact HRn.out) (fun hHeld16_0 => ?_)
        clear hK K
        try simp only [Act.put, List.setIfInBounds_toArray, List.set_cons_zero, List.set_cons_succ]
        refine wpAnyH_ready (rs := [9, 18]) (by kernel_rfl) (by simp) ?_
        refine AllReadyH.cons (o := _) rfl (fun K hK => ?_) (AllReadyH.cons (o := _) rfl (fun K hK => ?_) AllReadyH.nil)
        · go_simp
          refine hK.out _ _ (by first | exact HR1.out | exact HRn.out) (fun hHeld9_1 => ?_)
          clear hK K
          try simp only [Act.put, List.setIfInBounds_toArray, List.set_cons_zero, List.set_cons_succ]
          refine wpAnyH_take (i := 10) (v := ?v10) (by simp only [List.getElem?_toArray, List.getElem?_cons_succ, List.getElem?_cons_zero]; rfl) (by kernel_rfl) (by kernel_rfl) (by kernel_rfl) (fun _ _ _ h => h) (Or.inl ⟨by rfl, ?h10⟩) (by assumption) ?_
          case h10 => (intro wS hSw; (try dsimp only at hSw); go_simp; try with_reducible rfl)
          try simp only [Act.put, List.setIfInBounds_toArray, List.set_cons_zero, List.set_cons_succ]
          refine wpAnyH_take (i := 11) (v := ?v11) (by simp only [List.getElem?_toArray, List.getElem?_cons_succ, List.getElem?_cons_zero]; rfl) (by kernel_rfl) (by kernel_rfl) (by kernel_rfl) (fun _ _ _ h => h) (Or.inl ⟨by rfl, ?h11⟩) (by assumption) ?_
          case h11 => (intro wS hSw; (try dsimp only at hSw); have hC' := HX.out.2.2.2.2 wS hSw; go_simp; try with_reducible rfl)
          try simp only [Act.put, List.setIfInBounds_toArray, List.set_cons_zero, List.set_cons_succ]
          refine wpAnyH_take (i := 12) (v := ?v12) (by simp only [List.getElem?_toArray, List.getElem?_cons_succ, List.getElem?_cons_zero]; rfl) (by kernel_rfl) (by kernel_rfl) (by kernel_rfl) (fun _ _ _ h => h) (Or.inl ⟨by rfl, ?h12⟩) (by assumption) ?_
          case h12 => (intro wS hSw; (try dsimp only at hSw); go_simp; try with_reducible rfl)
          try simp only [Act.put, List.setIfInBounds_toArray, List.set_cons_zero, List.set_cons_succ]
          refine wpAnyH_ready (rs := [18]) (by kernel_rfl) (by simp) ?_
          refine AllReadyH.cons (o := _) rfl (fun K hK => ?_) AllReadyH.nil
          go_simp
          refine hK.out _ _ (by first | exact HR1.out | exact HRn.out) (fun hHeld18_2 => ?_)
          clear hK K
          try simp only [Act.put, List.setIfInBounds_toArray, List.set_cons_zero, List.set_cons_succ]
          refine wpAnyH_take (i := 19) (v := ?v19) (by simp only [List.getElem?_toArray, List.getElem?_cons_succ, List.getElem?_cons_zero]; rfl) (by kernel_rfl) (by kernel_rfl) (by kernel_rfl) (fun _ _ _ h => h) (Or.inl ⟨by rfl, ?h19⟩) (by assumption) ?_
          case h19 => (intro wS hSw; (try dsimp only at hSw); go_simp; try with_reducible rfl)
          try simp only [Act.put, List.setIfInBounds_toArray, List.set_cons_zero, List.set_cons_succ]
          refine wpAnyH_take (i := 20) (v := ?v20) (by simp only [List.getElem?_toArray, List.getElem?_cons_succ, List.getElem?_cons_zero]; rfl) (by kernel_rfl) (by kernel_rfl) (by kernel_rfl) (fun _ _ _ h => h) (Or.inl ⟨by rfl, ?h20⟩) (by assumption) ?_
          case h20 => (intro wS hSw; (try dsimp only at hSw); go_simp; try with_reducible rfl)
          try simp only [Act.put, List.setIfInBounds_toArray, List.set_cons_zero, List.set_cons_succ]
          refine wpAnyH_take (i := 21) (v := ?v21) (by simp only [List.getElem?_toArray, List.getElem?_cons_succ, List.getElem?_cons_zero]; rfl) (by kernel_rfl) (by kernel_rfl) (by kernel_rfl) (fun _ _ _ h => h) (Or.inl ⟨by rfl, ?h21⟩) (by assumption) ?_
          case h21 => (intro wS hSw; (try dsimp only at hSw); go_simp; try with_reducible rfl)
          try simp only [Act.put, List.setIfInBounds_toArray, List.set_cons_zero, List.set_cons_succ]
          refine wpAnyH_ready (rs := [22]) (by kernel_rfl) (by simp) ?_
          refine AllReadyH.cons (o := _) rfl (fun K hK => ?_) AllReadyH.nil
          go_simp
          refine hK.out _ _ (HRn.out.alloc _) (fun hHeld22_3 => ?_)
          clear hK K
          try simp only [Act.put, List.setIfInBounds_toArray, List.set_cons_zero, List.set_cons_succ]
          refine wpAnyH_ready (rs := [23]) (by kernel_rfl) (by simp) ?_
          refine AllReadyH.cons (o := _) rfl (fun K hK => ?_) AllReadyH.nil
          go_simp
          refine HS.out.mono ?_
          rintro e w5 ⟨rfl, hB5, hO5⟩
          refine hK.out _ _ (hO5.rec (HRn.out.alloc _) HO.out.2.1 HO.out.2.2) (fun hHeld23_4 => ?_)
          clear hK K
          try simp only [Act.put, List.setIfInBounds_toArray, List.set_cons_zero, List.set_cons_succ]
          refine wpAnyH_done (by kernel_rfl) ?_ _
          refine NoPanic.normal ?_
          go_wp2
          all_goals
            go_ret
            first
            | exact ⟨rfl, hB5, HO.out.1.trans hO5⟩
            | (have e1 : st = p := by omega
               have e2 := cut_here s p hp
               have hB6 := hB5
               rw [e1, e2] at hB6
               refine ⟨?_, hB6, HO.out.1.trans hO5⟩
               first | rfl | (rw [e1]; rfl) | simp [e1])
        · go_simp
          refine hK.out _ _ (by first | exact HR1.out | exact HRn.out) (fun hHeld18_1 => ?_)
          clear hK K
          try simp only [Act.put, List.setIfInBounds_toArray, List.set_cons_zero, List.set_cons_succ]
          refine wpAnyH_take (i := 19) (v := ?v19) (by simp only [List.getElem?_toArray, List.getElem?_cons_succ, List.getElem?_cons_zero]; rfl) (by kernel_rfl) (by kernel_rfl) (by kernel_rfl) (fun _ _ _ h => h) (Or.inl ⟨by rfl, ?h19⟩) (by assumption) ?_
          case h19 => (intro wS hSw; (try dsimp only at hSw); go_simp; try with_reducible rfl)
          try simp only [Act.put, List.setIfInBounds_toArray, List.set_cons_zero, List.set_cons_succ]
          refine wpAnyH_take (i := 20) (v := ?v20) (by simp only [List.getElem?_toArray, List.getElem?_cons_succ, List.getElem?_cons_zero]; rfl) (by kernel_rfl) (by kernel_rfl) (by kernel_rfl) (fun _ _ _ h => h) (Or.inl ⟨by rfl, ?h20⟩) (by assumption) ?_
          case h20 => (intro wS hSw; (try dsimp only at hSw); go_simp; try with_reducible rfl)
          try simp only [Act.put, List.setIfInBounds_toArray, List.set_cons_zero, List.set_cons_succ]
          refine wpAnyH_ready (rs := [9]) (by kernel_rfl) (by simp) ?_
          refine AllReadyH.cons (o := _) rfl (fun K hK => ?_) AllReadyH.nil
          go_simp
          refine hK.out _ _ (by first | exact HR1.out | exact HRn.out) (fun hHeld9_2 => ?_)
          clear hK K
          try simp only [Act.put, List.setIfInBounds_toArray, List.set_cons_zero, List.set_cons_succ]
          refine wpAnyH_take (i := 10) (v := ?v10) (by simp only [List.getElem?_toArray, List.getElem?_cons_succ, List.getElem?_cons_zero]; rfl) (by kernel_rfl) (by kernel_rfl) (by kernel_rfl) (fun _ _ _ h => h) (Or.inl ⟨by rfl, ?h10⟩) (by assumption) ?_
          case h10 => (intro wS hSw; (try dsimp only at hSw); go_simp; try with_reducible rfl)
          try simp only [Act.put, List.setIfInBounds_toArray, List.set_cons_zero, List.set_cons_succ]
          refine wpAnyH_take (i := 11) (v := ?v11) (by simp only [List.getElem?_toArray, List.getElem?_cons_succ, List.getElem?_cons_zero]; rfl) (by kernel_rfl) (by kernel_rfl) (by kernel_rfl) (fun _ _ _ h => h) (Or.inl ⟨by rfl, ?h11⟩) (by assumption) ?_
          case h11 => (intro wS hSw; (try dsimp only at hSw); have hC' := HX.out.2.2.2.2 wS hSw; go_simp; try with_reducible rfl)
          try simp only [Act.put, List.setIfInBounds_toArray, List.set_cons_zero, List.set_cons_succ]
          refine wpAnyH_take (i := 12) (v := ?v12) (by simp only [List.getElem?_toArray, List.getElem?_cons_succ, List.getElem?_cons_zero]; rfl) (by kernel_rfl) (by kernel_rfl) (by kernel_rfl) (fun _ _ _ h => h) (Or.inl ⟨by rfl, ?h12⟩) (by assumption) ?_
          case h12 => (intro wS hSw; (try dsimp only at hSw); go_simp; try with_reducible rfl)
          try simp only [Act.put, List.setIfInBounds_toArray, List.set_cons_zero, List.set_cons_succ]
          refine wpAnyH_take (i := 21) (v := ?v21) (by simp only [List.getElem?_toArray, List.getElem?_cons_succ, List.getElem?_cons_zero]; rfl) (by kernel_rfl) (by kernel_rfl) (by kernel_rfl) (fun _ _ _ h => h) (Or.inl ⟨by rfl, ?h21⟩) (by assumption) ?_
          case h21 => (intro wS hSw; (try dsimp only at hSw); go_simp; try with_reducible rfl)
          try simp only [Act.put, List.setIfInBounds_toArray, List.set_cons_zero, List.set_cons_succ]
          refine wpAnyH_ready (rs := [22]) (by kernel_rfl) (by simp) ?_
          refine AllReadyH.cons (o := _) rfl (fun K hK => ?_) AllReadyH.nil
          go_simp
          refine hK.out _ _ (HRn.out.alloc _) (fun hHeld22_3 => ?_)
          clear hK K
          try simp only [Act.put, List.setIfInBounds_toArray, List.set_cons_zero, List.set_cons_succ]
          refine wpAnyH_ready (rs := [23]) (by kernel_rfl) (by simp) ?_
          refine AllReadyH.cons (o := _) rfl (fun K hK => ?_) AllReadyH.nil
          go_simp
          refine HS.out.mono ?_
          rintro e w5 ⟨rfl, hB5, hO5⟩
          refine hK.out _ _ (hO5.rec (HRn.out.alloc _) HO.out.2.1 HO.out.2.2) (fun hHeld23_4 => ?_)
          clear hK K
          try simp only [Act.put, List.setIfInBounds_toArray, List.set_cons_zero, List.set_cons_succ]
          refine wpAnyH_done (by kernel_rfl) ?_ _
          refine NoPanic.normal ?_
          go_wp2
          all_goals
            go_ret
            first
            | exact ⟨rfl, hB5, HO.out.1.trans hO5⟩
            | (have e1 : st = p := by omega
               have e2 := cut_here s p hp
               have hB6 := hB5
               rw [e1, e2] at hB6
               refine ⟨?_, hB6, HO.out.1.trans hO5⟩
               first | rfl | (rw [e1]; rfl) | simp [e1])
      · go_simp
        refine hK.out _ _ (by first | exact HR1.out | exact HRn.out) (fun hHeld18_0 => ?_)
        clear hK K
        try simp only [Act.put, List.setIfInBounds_toArray, List.set_cons_zero, List.set_cons_succ]
        refine wpAnyH_take (i := 19) (v := ?v19) (by simp only [List.getElem?_toArray, List.getElem?_cons_succ, List.getElem?_cons_zero]; rfl) (by kernel_rfl) (by kernel_rfl) (by kernel_rfl) (fun _ _ _ h => h) (Or.inl ⟨by rfl, ?h19⟩) (by assumption) ?_
        case h19 => (intro wS hSw; (try dsimp only at hSw); go_simp; try with_reducible rfl)
        try simp only [Act.put, List.setIfInBounds_toArray, List.set_cons_zero, List.set_cons_succ]
        refine wpAnyH_ready (rs := [9, 16]) (by kernel_rfl) (by simp) ?_
        refine AllReadyH.cons (o := _) rfl (fun K hK => ?_) (AllReadyH.cons (o := _) rfl (fun K hK => ?_) AllReadyH.nil)
        · go_simp
          refine hK.out _ _ (by first | exact HR1.out | exact HRn.out) (fun hHeld9_1 => ?_)
          clear hK K
          try simp only [Act.put, List.setIfInBounds_toArray, List.set_cons_zero, List.set_cons_succ]
          refine wpAnyH_take (i := 10) (v := ?v10) (by simp only [List.getElem?_toArray, List.getElem?_cons_succ, List.getElem?_cons_zero]; rfl) (by kernel_rfl) (by kernel_rfl) (by kernel_rfl) (fun _ _ _ h => h) (Or.inl ⟨by rfl, ?h10⟩) (by assumption) ?_
          case h10 => (intro wS hSw; (try dsimp only at hSw); go_simp; try with_reducible rfl)
          try simp only [Act.put, List.setIfInBounds_toArray, List.set_cons_zero, List.set_cons_succ]
          refine wpAnyH_take (i := 11) (v := ?v11) (by simp only [List.getElem?_toArray, List.getElem?_cons_succ, List.getElem?_cons_zero]; rfl) (by kernel_rfl) (by kernel_rfl) (by kernel_rfl) (fun _ _ _ h => h) (Or.inl ⟨by rfl, ?h11⟩) (by assumption) ?_
          case h11 => (intro wS hSw; (try dsimp only at hSw); have hC' := HX.out.2.2.2.2 wS hSw; go_simp; try with_reducible rfl)
          try simp only [Act.put, List.setIfInBounds_toArray, List.set_cons_zero, List.set_cons_succ]
          refine wpAnyH_take (i := 12) (v := ?v12) (by simp only [List.getElem?_toArray, List.getElem?_cons_succ, List.getElem?_cons_zero]; rfl) (by kernel_rfl) (by kernel_rfl) (by kernel_rfl) (fun _ _ _ h => h) (Or.inl ⟨by rfl, ?h12⟩) (by assumption) ?_
          case h12 => (intro wS hSw; (try dsimp only at hSw); go_simp; try with_reducible rfl)
          try simp only [Act.put, List.setIfInBounds_toArray, List.set_cons_zero, List.set_cons_succ]
          refine wpAnyH_ready (rs := [16]) (by kernel_rfl) (by simp) ?_
          refine AllReadyH.cons (o := _) rfl (fun K hK => ?_) AllReadyH.nil
          go_simp
          refine hK.out _ _ (by first | exact HR1.out | exact HRn.out) (fun hHeld16_2 => ?_)
          clear hK K
          try simp only [Act.put, List.setIfInBounds_toArray, List.set_cons_zero, List.set_cons_succ]
          refine wpAnyH_take (i := 20) (v := ?v20) (by simp only [List.getElem?_toArray, List.getElem?_cons_succ, List.getElem?_cons_zero]; rfl) (by kernel_rfl) (by kernel_rfl) (by kernel_rfl) (fun _ _ _ h => h) (Or.inl ⟨by rfl, ?h20⟩) (by assumption) ?_
          case h20 => (intro wS hSw; (try dsimp only at hSw); go_simp; try with_reducible rfl)
          try simp only [Act.put, List.setIfInBounds_toArray, List.set_cons_zero, List.set_cons_succ]
          refine wpAnyH_take (i := 21) (v := ?v21) (by simp only [List.getElem?_toArray, List.getElem?_cons_succ, List.getElem?_cons_zero]; rfl) (by kernel_rfl) (by kernel_rfl) (by kernel_rfl) (fun _ _ _ h => h) (Or.inl ⟨by rfl, ?h21⟩) (by assumption) ?_
          case h21 => (intro wS hSw; (try dsimp only at hSw); go_simp; try with_reducible rfl)
          try simp only [Act.put, List.setIfInBounds_toArray, List.set_cons_zero, List.set_cons_succ]
          refine wpAnyH_ready (rs := [22]) (by kernel_rfl) (by simp) ?_
          refine AllReadyH.cons (o := _) rfl (fun K hK => ?_) AllReadyH.nil
          go_simp
          refine hK.out _ _ (HRn.out.alloc _) (fun hHeld22_3 => ?_)
          clear hK K
          try simp only [Act.put, List.setIfInBounds_toArray, List.set_cons_zero, List.set_cons_succ]
          refine wpAnyH_ready (rs := [23]) (by kernel_rfl) (by simp) ?_
          refine AllReadyH.cons (o := _) rfl (fun K hK => ?_) AllReadyH.nil
          go_simp
          refine HS.out.mono ?_
          rintro e w5 ⟨rfl, hB5, hO5⟩
          refine hK.out _ _ (hO5.rec (HRn.out.alloc _) HO.out.2.1 HO.out.2.2) (fun hHeld23_4 => ?_)
          clear hK K
          try simp only [Act.put, List.setIfInBounds_toArray, List.set_cons_zero, List.set_cons_succ]
          refine wpAnyH_done (by kernel_rfl) ?_ _
          refine NoPanic.normal ?_
          go_wp2
          all_goals
            go_ret
            first
            | exact ⟨rfl, hB5, HO.out.1.trans hO5⟩
            | (have e1 : st = p := by omega
               have e2 := cut_here s p hp
               have hB6 := hB5
               rw [e1, e2] at hB6
               refine ⟨?_, hB6, HO.out.1.trans hO5⟩
               first | rfl | (rw [e1]; rfl) | simp [e1])
        · go_simp
          refine hK.out _ _ (by first | exact HR1.out | exact HRn.out) (fun hHeld16_1 => ?_)
          clear hK K
          try simp only [Act.put, List.setIfInBounds_toArray, List.set_cons_zero, List.set_cons_succ]
          refine wpAnyH_take (i := 20) (v := ?v20) (by simp only [List.getElem?_toArray, List.getElem?_cons_succ, List.getElem?_cons_zero]; rfl) (by kernel_rfl) (by kernel_rfl) (by kernel_rfl) (fun _ _ _ h => h) (Or.inl ⟨by rfl, ?h20⟩) (by assumption) ?_
          case h20 => (intro wS hSw; (try dsimp only at hSw); go_simp; try with_reducible rfl)
          try simp only [Act.put, List.setIfInBounds_toArray, List.set_cons_zero, List.set_cons_succ]
          refine wpAnyH_ready (rs := [9]) (by kernel_rfl) (by simp) ?_
          refine AllReadyH.cons (o := _) rfl (fun K hK => ?_) AllReadyH.nil
          go_simp
          refine hK.out _ _ (by first | exact HR1.out | exact HRn.out) (fun hHeld9_2 => ?_)
          clear hK K
          try simp only [Act.put, List.setIfInBounds_toArray, List.set_cons_zero, List.set_cons_succ]
          refine wpAnyH_take (i := 10) (v := ?v10) (by simp only [List.getElem?_toArray, List.getElem?_cons_succ, List.getElem?_cons_zero]; rfl) (by kernel_rfl) (by kernel_rfl) (by kernel_rfl) (fun _ _ _ h => h) (Or.inl ⟨by rfl, ?h10⟩) (by assumption) ?_
          case h10 => (intro wS hSw; (try dsimp only at hSw); go_simp; try with_reducible rfl)
          try simp only [Act.put, List.setIfInBounds_toArray, List.set_cons_zero, List.set_cons_succ]
          refine wpAnyH_take (i := 11) (v := ?v11) (by simp only [List.getElem?_toArray, List.getElem?_cons_succ, List.getElem?_cons_zero]; rfl) (by kernel_rfl) (by kernel_rfl) (by kernel_rfl) (fun _ _ _ h => h) (Or.inl ⟨by rfl, ?h11⟩) (by assumption) ?_
          case h11 => (intro wS hSw; (try dsimp only at hSw); have hC' := HX.out.2.2.2.2 wS hSw; go_simp; try with_reducible rfl)
          try simp only [Act.put, List.setIfInBounds_toArray, List.set_cons_zero, List.set_cons_succ]
          refine wpAnyH_take (i := 12) (v := ?v12) (by simp only [List.getElem?_toArray, List.getElem?_cons_succ, List.getElem?_cons_zero]; rfl) (by kernel_rfl) (by kernel_rfl) (by kernel_rfl) (fun _ _ _ h => h) (Or.inl ⟨by rfl, ?h12⟩) (by assumption) ?_
          case h12 => (intro wS hSw; (try dsimp only at hSw); go_simp; try with_reducible rfl)
          try simp only [Act.put, List.setIfInBounds_toArray, List.set_cons_zero, List.set_cons_succ]
          refine wpAnyH_take (i := 21) (v := ?v21) (by simp only [List.getElem?_toArray, List.getElem?_cons_succ, List.getElem?_cons_zero]; rfl) (by kernel_rfl) (by kernel_rfl) (by kernel_rfl) (fun _ _ _ h => h) (Or.inl ⟨by rfl, ?h21⟩) (by assumption) ?_
          case h21 => (intro wS hSw; (try dsimp only at hSw); go_simp; try with_reducible rfl)
          try simp only [Act.put, List.setIfInBounds_toArray, List.set_cons_zero, List.set_cons_succ]
          refine wpAnyH_ready (rs := [22]) (by kernel_rfl) (by simp) ?_
          refine AllReadyH.cons (o := _) rfl (fun K hK => ?_) AllReadyH.nil
          go_simp
          refine hK.out _ _ (HRn.out.alloc _) (fun hHeld22_3 => ?_)
          clear hK K
          try simp only [Act.put, List.setIfInBounds_toArray, List.set_cons_zero, List.set_cons_succ]
          refine wpAnyH_ready (rs := [23]) (by kernel_rfl) (by simp) ?_
          refine AllReadyH.cons (o := _) rfl (fun K hK => ?_) AllReadyH.nil
          go_simp
          refine HS.out.mono ?_
          rintro e w5 ⟨rfl, hB5, hO5⟩
          refine hK.out _ _ (hO5.rec (HRn.out.alloc _) HO.out.2.1 HO.out.2.2) (fun hHeld23_4 => ?_)
          clear hK K
          try simp only [Act.put, List.setIfInBounds_toArray, List.set_cons_zero, List.set_cons_succ]
          refine wpAnyH_done (by kernel_rfl) ?_ _
          refine NoPanic.normal ?_
          go_wp2
          all_goals
            go_ret
            first
            | exact ⟨rfl, hB5, HO.out.1.trans hO5⟩
            | (have e1 : st = p := by omega
               have e2 := cut_here s p hp
               have hB6 := hB5
               rw [e1, e2] at hB6
               refine ⟨?_, hB6, HO.out.1.trans hO5⟩
               first | rfl | (rw [e1]; rfl) | simp [e1])
  · obtain rfl : p = 0 := by omega
    obtain rfl : st = 0 := by omega
    have e1 : s.extract 0 0 = ⟨#[]⟩ := ints_inj (by rw [ints_extract]; simp [ints])
    have e2 := cut_here s 0 (Nat.zero_le _)
    rw [e2, e1]
    clear e1 e2 hdz hda hcv hst
    obtain ⟨nw, vc, hcv2, hnw⟩ := runes_new s hasc (by omega)
    have HN := Lib.hid hnw
    clear hnw
    go_enter Tryz.func81, Tryz.ntmps81
    go_wp2_with (go_at_call 49; refine HT.out.mono ?_; rintro e w1 ⟨rfl, hw1⟩; have hB1 : BS w1 B m g s ((0 : Nat) : Int) q := (by obtain ⟨n, rfl⟩ := hw1; exact HH.out.drewN n); have hO1 : Only B m g w w1 := (by obtain ⟨n, rfl⟩ := hw1; exact (Only.refl B m g w).drewN n); clear hw1; have hB2 := hB1.below (HN.out w1); have k2 := hB2.reads.1; have HB2 := Lib.hid hB2; have HO2 := Lib.hid (hO1.behind (HN.out w1) hB1.lt.1); clear hB1 hO1 hB2)
    go_ret
    exact ⟨rfl, HB2.out, HO2.out⟩
end
end Go.Proofs.YtkfmjkiefckgoaaGreatDoor.H
