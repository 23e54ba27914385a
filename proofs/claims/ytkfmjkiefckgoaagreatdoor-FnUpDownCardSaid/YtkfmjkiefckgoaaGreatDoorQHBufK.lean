/- Steps of a buffer over the word ahead of its cursor (DeleteWord, GoLeftWord); for texts of ASCII of at most 5000 bytes and a cursor in them. -/
import Derived.Test.YtkfmjkiefckgoaaGreatDoorQHBufF
namespace Go.Proofs.YtkfmjkiefckgoaaGreatDoor.H
open Go.RowKit Go.Proofs.YtkfmjkiefckgoaaGreatDoorW.PrintWords Go.Proofs.YtkfmjkiefckgoaaGreatDoorW.PrintLast Go.Proofs.YtkfmjkiefckgoaaGreatDoor.R Go.Proofs.YtkfmjkiefckgoaaGreatDoor.X Go.Proofs.YtkfmjkiefckgoaaGreatDoor.PAroundOf
set_option linter.unusedVariables false
set_option linter.unusedSimpArgs false
section
variable {B m g p : Nat} {w : World} {s : ByteArray} {q : Int}
/-- Where the word ahead of the cursor begins, blanks next to the cursor passed over. -/
def wordB (s : ByteArray) (p : Nat) : Nat := (startSp (s.extract 0 p)).toNat
theorem wordB_is {s : ByteArray} {p : Nat} (hok : OkT s p) : startSp (s.extract 0 p) = (wordB s p : Int) ∧ wordB s p ≤ p := by
  have h1 := extract_len s 0 p hok.2.2
  have h2 := start_bounds (s.extract 0 p) (by have := hok.1; have := hok.2.2; omega)
  unfold wordB
  omega
set_option maxHeartbeats 1000000 in
theorem DeleteWord_calls (h : BS w B m g s p q) (hok : OkT s p) : Calls Tryz.prog 111 #[Pt m] w fun e w' => e = .returned (.tuple #[]) ∧ BS w' B m g (s.extract 0 (wordB s p) ++ s.extract p s.size) (wordB s p : Int) q ∧ Only B m g w w' := by
  have hn := hok.1
  have hn2 := hok.2.2
  have hT := extract_len s 0 p hn2
  obtain ⟨hw1, hw2⟩ := wordB_is hok
  obtain ⟨l, hl⟩ : ∃ l : Nat, l = p - wordB s p := ⟨_, rfl⟩
  have hsub : IntKind.i64.wrap ((p : Int) - (wordB s p : Int)) = (l : Int) := by rw [IntWalk.i64_in _ (by omega)]; omega
  obtain ⟨nw, vc, hcv, hnw⟩ := runes_new (s.extract 0 p) (asc_extract hok.2.1 _ _) (by omega)
  rw [hT, Nat.sub_zero] at hcv
  have HA := Lib.hid (fun w1 d (hd : Doc w1 d s p) => before_c hok hd)
  have HS := Lib.hid (fun w1 d (hd : Doc w1 d s p) => startSp_c hok hd)
  rw [hw1] at HS
  have HM := Lib.hid (fun w1 (hb : BS w1 B m g s p q) => DeleteBefore_calls hb hok (l : Int) (by omega) (by omega) (wordB s p) (by omega))
  try rw [← hl]
  have HH := Lib.hid h
  have HN := Lib.hid hnw
  clear h hok hnw hT hw1 hl hw2
  generalize wordB s p = wb at *
  go_enter Tryz.func111, Tryz.ntmps111
  go_wp2_with (first
    | (go_at_call 101; refine (Document_calls HH.out).mono ?_; rintro e w1 ⟨d, rfl, hd, hBd, hB1, hO1⟩; have HD := Lib.hid hd; have HB1 := Lib.hid hB1; have HO1 := Lib.hid hO1; clear hd hB1 hO1 hBd HH)
    | (go_at_call 29; refine (HA.out _ _ HD.out).mono ?_; rintro e w2 ⟨rfl, hb2⟩; have HB2 := Lib.hid ((HB1.out.below hb2).below (HN.out w2)); have HO2 := Lib.hid ((HO1.out.behind hb2 HB1.out.lt.1).behind (HN.out w2) (HB1.out.below hb2).lt.1); clear hb2)
    | (go_at_call 101; refine (Document_calls HB2.out).mono ?_; rintro e w3 ⟨d3, rfl, hd3, hBd3, hB3, hO3⟩; have HD3 := Lib.hid hd3; have HB3 := Lib.hid hB3; have HO3 := Lib.hid (HO2.out.trans hO3); clear hd3 hB3 hO3 hBd3)
    | (go_at_call 61; refine (HS.out _ _ HD3.out).mono ?_; rintro e w4 ⟨rfl, hb4⟩; have HB4 := Lib.hid (HB3.out.below hb4); have HO4 := Lib.hid (HO3.out.behind hb4 HB3.out.lt.1); clear hb4)
    | (go_at_call 81; refine (HM.out _ HB4.out).mono ?_; rintro e w5 ⟨rfl, hB5, hO5⟩))
  go_end0
  exact ⟨rfl, hB5, HO4.out.trans hO5⟩
set_option maxHeartbeats 1000000 in
theorem LeftWord_calls (h : BS w B m g s p q) (hok : OkT s p) : Calls Tryz.prog 116 #[Pt m] w fun e w' => e = .returned (.tuple #[]) ∧ BS w' B m g s ((p : Int) - min ((p - wordB s p : Nat) : Int) (colB s p) : Int) q ∧ Only B m g w w' := by
  have hn := hok.1
  have hn2 := hok.2.2
  have hT := extract_len s 0 p hn2
  obtain ⟨hw1, hw2⟩ := wordB_is hok
  obtain ⟨l, hl⟩ : ∃ l : Nat, l = p - wordB s p := ⟨_, rfl⟩
  have hsub : IntKind.i64.wrap ((p : Int) - (wordB s p : Int)) = (l : Int) := by rw [IntWalk.i64_in _ (by omega)]; omega
  obtain ⟨nw, vc, hcv, hnw⟩ := runes_new (s.extract 0 p) (asc_extract hok.2.1 _ _) (by omega)
  rw [hT, Nat.sub_zero] at hcv
  have HA := Lib.hid (fun w1 d (hd : Doc w1 d s p) => before_c hok hd)
  have HS := Lib.hid (fun w1 d (hd : Doc w1 d s p) => startSp_c hok hd)
  rw [hw1] at HS
  have HM := Lib.hid (fun w1 (hb : BS w1 B m g s p q) => CursorLeft_calls hb hok (l : Int) (by omega) (by omega))
  try rw [← hl]
  have HH := Lib.hid h
  have HN := Lib.hid hnw
  clear h hok hnw hT hw1 hl hw2
  generalize wordB s p = wb at *
  go_enter Tryz.func116, Tryz.ntmps116
  go_wp2_with (first
    | (go_at_call 101; refine (Document_calls HH.out).mono ?_; rintro e w1 ⟨d, rfl, hd, hBd, hB1, hO1⟩; have HD := Lib.hid hd; have HB1 := Lib.hid hB1; have HO1 := Lib.hid hO1; clear hd hB1 hO1 hBd HH)
    | (go_at_call 29; refine (HA.out _ _ HD.out).mono ?_; rintro e w2 ⟨rfl, hb2⟩; have HB2 := Lib.hid ((HB1.out.below hb2).below (HN.out w2)); have HO2 := Lib.hid ((HO1.out.behind hb2 HB1.out.lt.1).behind (HN.out w2) (HB1.out.below hb2).lt.1); clear hb2)
    | (go_at_call 101; refine (Document_calls HB2.out).mono ?_; rintro e w3 ⟨d3, rfl, hd3, hBd3, hB3, hO3⟩; have HD3 := Lib.hid hd3; have HB3 := Lib.hid hB3; have HO3 := Lib.hid (HO2.out.trans hO3); clear hd3 hB3 hO3 hBd3)
    | (go_at_call 61; refine (HS.out _ _ HD3.out).mono ?_; rintro e w4 ⟨rfl, hb4⟩; have HB4 := Lib.hid (HB3.out.below hb4); have HO4 := Lib.hid (HO3.out.behind hb4 HB3.out.lt.1); clear hb4)
    | (go_at_call 77; refine (HM.out _ HB4.out).mono ?_; rintro e w5 ⟨rfl, hB5, hO5⟩))
  go_end0
  exact ⟨rfl, hB5, HO4.out.trans hO5⟩
end
end Go.Proofs.YtkfmjkiefckgoaaGreatDoor.H
