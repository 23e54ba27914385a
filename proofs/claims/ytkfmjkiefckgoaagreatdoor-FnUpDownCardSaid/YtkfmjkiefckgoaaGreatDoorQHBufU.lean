/- Steps of a buffer that move its cursor to rows above or below (goprompt.Buffer.CursorUp, CursorDown), where no column is kept; for texts of ASCII of at most 5000 bytes, a cursor in them, and rows that there are. -/
import Derived.Test.YtkfmjkiefckgoaaGreatDoorQHBufH
import Derived.Test.YtkfmjkiefckgoaaGreatDoorQXRows2
namespace Go.Proofs.YtkfmjkiefckgoaaGreatDoor.H
open Go.RowKit Go.Proofs.YtkfmjkiefckgoaaGreatDoorW.PrintWords Go.Proofs.YtkfmjkiefckgoaaGreatDoorW.PrintLast Go.Proofs.YtkfmjkiefckgoaaGreatDoor.R Go.Proofs.YtkfmjkiefckgoaaGreatDoor.X Go.Proofs.YtkfmjkiefckgoaaGreatDoor.PAroundOf
set_option linter.unusedVariables false
set_option linter.unusedSimpArgs false
section
variable {B m g p : Nat} {w : World} {s : ByteArray} {q : Int}
theorem trans_c {d : Nat} (hs : s.size ≤ 5000) (hd : Doc w d s p) (r c : Nat) (hr : r < rowsB s) (hc : c ≤ 1000000) : Calls Tryz.prog 121 #[Pt d, .int .i64 (r : Int), .int .i64 (c : Int)] w fun e w' => e = .returned (.int .i64 (indexB s r c : Int)) ∧ Below w.heap.size w w' := by
  obtain ⟨k, hk⟩ := trans_tells s (p : Int) hs r c hr hc
  refine (goprompt_Document_TranslateRowColToIndex.calls k d s p (r : Int) (c : Int) _ s p (bare w) w hd.is (bare_below w) (hk k (Nat.le_refl _))).mono ?_
  rintro e w' ⟨rfl, hI, hb, hk2⟩
  exact ⟨rfl, doc_stays hd (bare_below w) hI hb hk2⟩
set_option maxHeartbeats 2000000 in
theorem up_c {d : Nat} (hok : OkT s p) (hd : Doc w d s p) (c : Int) (h0 : 0 ≤ c) (h1 : c ≤ 1000000) : Calls Tryz.prog 104 #[Pt d, .int .i64 c, .int .i64 (colB s p : Int)] w fun e w' => e = .returned (.int .i64 ((indexB s (rowB s p - c.toNat) (colB s p) : Int) - (p : Int))) ∧ Below w.heap.size w w' := by
  have hpl := places_le hok
  have hs := hok.1
  have hp := hok.2.2
  have HR := Lib.hid (fun w (hd : Doc w d s p) => row_c hok hd)
  have hix := index_le s (rowB s p - c.toNat) (colB s p) (by omega)
  have HT := Lib.hid (fun w (hd : Doc w d s p) => trans_c hs hd (rowB s p - c.toNat) (colB s p) (by omega) (by omega))
  have HD := Lib.hid hd
  have e1 : (((colB s p : Nat) : Int) == -1) = false := beq_eq_false_iff_ne.2 (by omega)
  clear hd
  obtain ⟨ix, hixe⟩ : ∃ ix, ix = indexB s (rowB s p - c.toNat) (colB s p) := ⟨_, rfl⟩
  rw [← hixe] at HT hix
  rw [← hixe]
  obtain ⟨rw_, hrw⟩ : ∃ x : Nat, x = rowB s p - c.toNat := ⟨_, rfl⟩
  rw [← hrw] at HT
  have hcc : ((rowB s p : Int) - c < 0 ∧ rw_ = 0) ∨ (0 ≤ (rowB s p : Int) - c ∧ (rowB s p : Int) - c = (rw_ : Int)) := by omega
  clear hixe hok hrw
  generalize colB s p = col at *
  generalize rowB s p = row at *
  rcases hcc with ⟨hneg, rfl⟩ | ⟨hpos, he⟩
  · have hsub : IntKind.i64.wrap ((row : Int) - c) = (row : Int) - c := IntWalk.i64_in _ (by omega)
    clear hpl h0 h1
    go_enter Tryz.func104, Tryz.ntmps104
    go_wp2_with (go_at_call 34; refine (HR.out _ HD.out).mono ?_; rintro e w1 ⟨rfl, hb1⟩; have hd1 := HD.out.stays hb1; have d1 := hd1.cell 1 rfl; have HB1 := Lib.hid hb1; have HD1 := Lib.hid (And.intro hd1 hd1.lt); clear hb1 hd1)
    go_region_held3 (fun w' => w'.cell? ⟨d, 1, none⟩ = some (.int .i64 (p : Int))) (first | go_keep | exact yk) ((go_at_call 121; refine (HT.out _ (by first | exact HD1.out.1.drewN 1 | exact HD1.out.1.drew)).mono ?_; rintro e w2 ⟨rfl, hb2⟩; have yk := (HD1.out.1.drewN 1 |>.stays hb2).cell 1 rfl; have HB2 := Lib.hid hb2; clear hb2))
    go_wp2
    go_ret
    exact ⟨congrArg (fun x => Ending.returned (.int .i64 x)) (IntWalk.i64_in _ ⟨by omega, by omega⟩), (HB1.out.drew).trans (HB2.out.mono (by have := HB1.out.size; exact this))⟩
  · have hsub : IntKind.i64.wrap ((row : Int) - c) = (rw_ : Int) := by rw [IntWalk.i64_in _ (by omega), he]
    clear he hpos hpl h0 h1
    go_enter Tryz.func104, Tryz.ntmps104
    go_wp2_with (go_at_call 34; refine (HR.out _ HD.out).mono ?_; rintro e w1 ⟨rfl, hb1⟩; have hd1 := HD.out.stays hb1; have d1 := hd1.cell 1 rfl; have HB1 := Lib.hid hb1; have HD1 := Lib.hid (And.intro hd1 hd1.lt); clear hb1 hd1)
    go_region_held3 (fun w' => w'.cell? ⟨d, 1, none⟩ = some (.int .i64 (p : Int))) (first | go_keep | exact yk) ((go_at_call 121; refine (HT.out _ (by first | exact HD1.out.1.drewN 1 | exact HD1.out.1.drew)).mono ?_; rintro e w2 ⟨rfl, hb2⟩; have yk := (HD1.out.1.drewN 1 |>.stays hb2).cell 1 rfl; have HB2 := Lib.hid hb2; clear hb2))
    go_wp2
    go_ret
    exact ⟨congrArg (fun x => Ending.returned (.int .i64 x)) (IntWalk.i64_in _ ⟨by omega, by omega⟩), (HB1.out.drew).trans (HB2.out.mono (by have := HB1.out.size; exact this))⟩
set_option maxHeartbeats 2000000 in
theorem down_c {d : Nat} (hok : OkT s p) (hd : Doc w d s p) (c : Int) (h0 : 0 ≤ c) (h1 : c ≤ 1000000) (hdn : rowB s p + c.toNat < rowsB s) : Calls Tryz.prog 105 #[Pt d, .int .i64 c, .int .i64 (colB s p : Int)] w fun e w' => e = .returned (.int .i64 ((indexB s (rowB s p + c.toNat) (colB s p) : Int) - (p : Int))) ∧ Below w.heap.size w w' := by
  have hpl := places_le hok
  have hs := hok.1
  have hp := hok.2.2
  have HR := Lib.hid (fun w (hd : Doc w d s p) => row_c hok hd)
  have hix := index_le s (rowB s p + c.toNat) (colB s p) (by omega)
  have HT := Lib.hid (fun w (hd : Doc w d s p) => trans_c hs hd (rowB s p + c.toNat) (colB s p) (by omega) (by omega))
  have HD := Lib.hid hd
  have e1 : (((colB s p : Nat) : Int) == -1) = false := beq_eq_false_iff_ne.2 (by omega)
  clear hd
  obtain ⟨ix, hixe⟩ : ∃ ix, ix = indexB s (rowB s p + c.toNat) (colB s p) := ⟨_, rfl⟩
  rw [← hixe] at HT hix
  rw [← hixe]
  obtain ⟨rw_, hrw⟩ : ∃ x : Nat, x = rowB s p + c.toNat := ⟨_, rfl⟩
  rw [← hrw] at HT
  have hadd : IntKind.i64.wrap ((rowB s p : Int) + c) = (rw_ : Int) := by rw [IntWalk.i64_in _ (by omega)]; omega
  clear hixe hok hrw hdn hpl h0 h1
  generalize colB s p = col at *
  generalize rowB s p = row at *
  go_enter Tryz.func105, Tryz.ntmps105
  go_wp2_with (go_at_call 34; refine (HR.out _ HD.out).mono ?_; rintro e w1 ⟨rfl, hb1⟩; have hd1 := HD.out.stays hb1; have d1 := hd1.cell 1 rfl; have HB1 := Lib.hid hb1; have HD1 := Lib.hid (And.intro hd1 hd1.lt); clear hb1 hd1)
  go_region_held3 (fun w' => w'.cell? ⟨d, 1, none⟩ = some (.int .i64 (p : Int))) (first | go_keep | exact yk) ((go_at_call 121; refine (HT.out _ (by first | exact HD1.out.1.drewN 1 | exact HD1.out.1.drew)).mono ?_; rintro e w2 ⟨rfl, hb2⟩; have yk := (HD1.out.1.drewN 1 |>.stays hb2).cell 1 rfl; have HB2 := Lib.hid hb2; clear hb2))
  go_wp2
  go_ret
  exact ⟨congrArg (fun x => Ending.returned (.int .i64 x)) (IntWalk.i64_in _ ⟨by omega, by omega⟩), (HB1.out.drew).trans (HB2.out.mono (by have := HB1.out.size; exact this))⟩
set_option maxHeartbeats 2000000 in
theorem CursorUp_calls (h : BS w B m g s p (-1)) (hok : OkT s p) (c : Int) (h0 : 0 ≤ c) (h1 : c ≤ 1000000) : Calls Tryz.prog 79 #[Pt m, .int .i64 c] w fun e w' => e = .returned (.tuple #[]) ∧ BS w' B m g s (indexB s (rowB s p - c.toNat) (colB s p) : Int) (colB s p : Int) ∧ Only B m g w w' := by
  have hpl := places_le hok
  have hs := hok.1
  have hp := hok.2.2
  have hix := index_le s (rowB s p - c.toNat) (colB s p) (by omega)
  have HC := Lib.hid (fun w d (hd : Doc w d s p) => col_c hok hd)
  have HU := Lib.hid (fun w d (hd : Doc w d s p) => up_c hok hd c h0 h1)
  obtain ⟨ix, hixe⟩ : ∃ ix, ix = indexB s (rowB s p - c.toNat) (colB s p) := ⟨_, rfl⟩
  rw [← hixe] at HU hix
  rw [← hixe]
  have hw : IntKind.i64.wrap ((p : Int) + ((ix : Int) - (p : Int))) = (ix : Int) := by rw [IntWalk.i64_in _ (by omega)]; omega
  have HH := Lib.hid h
  have k4 := h.reads.2.2.1
  clear h hixe hok hpl hix h0 h1
  generalize colB s p = col at *
  obtain ⟨df, hdf⟩ : ∃ df : Int, df = (ix : Int) - (p : Int) := ⟨_, rfl⟩
  rw [← hdf] at HU hw
  clear hdf
  go_enter Tryz.func79, Tryz.ntmps79
  go_wp2_with (first
    | (go_at_call 101; refine (Document_calls HH.out).mono ?_; rintro e w1 ⟨d, rfl, hd, hBd, hB1, hO1⟩; have HD := Lib.hid hd; have HB1 := Lib.hid hB1; have HO1 := Lib.hid hO1; clear hd hB1 hO1 hBd)
    | (go_at_call 35; refine (HC.out _ _ HD.out).mono ?_; rintro e w2 ⟨rfl, hb2⟩; have HB2 := Lib.hid (HB1.out.below hb2); have HO2 := Lib.hid (HO1.out.behind hb2 HB1.out.lt.1); clear hb2))
  have k2 := HB2.out.reads.1
  have z2 := HB2.out.reads.2.1
  have HB2d := Lib.hid (HB2.out.drewN 1)
  have HO2d := Lib.hid HO2.out.drew
  clear k4
  go_region_law (first
    | (go_simp; go_at_call 101; refine (Document_calls HB2d.out).mono ?_; rintro e w3 ⟨d3, rfl, hd3, hBd3, hB3, hO3⟩; have HD3 := Lib.hid hd3; have k3 := hB3.reads.1; have z3 := hB3.reads.2.1; have HB3 := Lib.hid hB3; have HO3 := Lib.hid (HO2d.out.trans hO3); clear hd3 hB3 hO3 hBd3)
    | (go_simp; go_at_call 104; refine (HU.out _ _ HD3.out).mono ?_; rintro e w4 ⟨rfl, hb4⟩; have hB4 := HB3.out.below hb4; have HO4 := Lib.hid (HO3.out.behind hb4 HB3.out.lt.1); have k4 := hB4.reads.1; have z4 := hB4.reads.2.1; have hB5 := hB4.place (ix : Int); obtain ⟨_, _, y5, x5⟩ := hB5.reads; have HB4 := Lib.hid hB4; clear hb4 hB4 hB5))
  all_goals
    go_wp2
    go_end0
    exact ⟨rfl, (HB4.out.place _).col _, (HO4.out.set (.inl rfl) HB4.out.ge.1 _ _).set (.inl rfl) HB4.out.ge.1 _ _⟩
set_option maxHeartbeats 2000000 in
theorem CursorDown_calls (h : BS w B m g s p (-1)) (hok : OkT s p) (c : Int) (h0 : 0 ≤ c) (h1 : c ≤ 1000000) (hdn : rowB s p + c.toNat < rowsB s) : Calls Tryz.prog 80 #[Pt m, .int .i64 c] w fun e w' => e = .returned (.tuple #[]) ∧ BS w' B m g s (indexB s (rowB s p + c.toNat) (colB s p) : Int) (colB s p : Int) ∧ Only B m g w w' := by
  have hpl := places_le hok
  have hs := hok.1
  have hp := hok.2.2
  have hix := index_le s (rowB s p + c.toNat) (colB s p) (by omega)
  have HC := Lib.hid (fun w d (hd : Doc w d s p) => col_c hok hd)
  have HU := Lib.hid (fun w d (hd : Doc w d s p) => down_c hok hd c h0 h1 hdn)
  obtain ⟨ix, hixe⟩ : ∃ ix, ix = indexB s (rowB s p + c.toNat) (colB s p) := ⟨_, rfl⟩
  rw [← hixe] at HU hix
  rw [← hixe]
  have hw : IntKind.i64.wrap ((p : Int) + ((ix : Int) - (p : Int))) = (ix : Int) := by rw [IntWalk.i64_in _ (by omega)]; omega
  have HH := Lib.hid h
  have k4 := h.reads.2.2.1
  clear h hixe hok hpl hix h0 h1 hdn
  generalize colB s p = col at *
  obtain ⟨df, hdf⟩ : ∃ df : Int, df = (ix : Int) - (p : Int) := ⟨_, rfl⟩
  rw [← hdf] at HU hw
  clear hdf
  go_enter Tryz.func80, Tryz.ntmps80
  go_wp2_with (first
    | (go_at_call 101; refine (Document_calls HH.out).mono ?_; rintro e w1 ⟨d, rfl, hd, hBd, hB1, hO1⟩; have HD := Lib.hid hd; have HB1 := Lib.hid hB1; have HO1 := Lib.hid hO1; clear hd hB1 hO1 hBd)
    | (go_at_call 35; refine (HC.out _ _ HD.out).mono ?_; rintro e w2 ⟨rfl, hb2⟩; have HB2 := Lib.hid (HB1.out.below hb2); have HO2 := Lib.hid (HO1.out.behind hb2 HB1.out.lt.1); clear hb2))
  have k2 := HB2.out.reads.1
  have z2 := HB2.out.reads.2.1
  have HB2d := Lib.hid (HB2.out.drewN 1)
  have HO2d := Lib.hid HO2.out.drew
  clear k4
  go_region_law (first
    | (go_simp; go_at_call 101; refine (Document_calls HB2d.out).mono ?_; rintro e w3 ⟨d3, rfl, hd3, hBd3, hB3, hO3⟩; have HD3 := Lib.hid hd3; have k3 := hB3.reads.1; have z3 := hB3.reads.2.1; have HB3 := Lib.hid hB3; have HO3 := Lib.hid (HO2d.out.trans hO3); clear hd3 hB3 hO3 hBd3)
    | (go_simp; go_at_call 105; refine (HU.out _ _ HD3.out).mono ?_; rintro e w4 ⟨rfl, hb4⟩; have hB4 := HB3.out.below hb4; have HO4 := Lib.hid (HO3.out.behind hb4 HB3.out.lt.1); have k4 := hB4.reads.1; have z4 := hB4.reads.2.1; have hB5 := hB4.place (ix : Int); obtain ⟨_, _, y5, x5⟩ := hB5.reads; have HB4 := Lib.hid hB4; clear hb4 hB4 hB5))
  all_goals
    go_wp2
    go_end0
    exact ⟨rfl, (HB4.out.place _).col _, (HO4.out.set (.inl rfl) HB4.out.ge.1 _ _).set (.inl rfl) HB4.out.ge.1 _ _⟩
end
end Go.Proofs.YtkfmjkiefckgoaaGreatDoor.H
