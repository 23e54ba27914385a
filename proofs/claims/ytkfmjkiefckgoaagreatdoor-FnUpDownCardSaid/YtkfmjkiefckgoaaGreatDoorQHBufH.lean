/- Steps of a buffer that move its cursor within the line, and what stands behind a cursor taken out (goprompt.Buffer.CursorLeft, CursorRight, Delete, GoLineEnd, GoLineBeginning); for texts of ASCII of at most 5000 bytes, a cursor in them, and counts from 0 on. -/
import Derived.Test.YtkfmjkiefckgoaaGreatDoorQHBufD
namespace Go.Proofs.YtkfmjkiefckgoaaGreatDoor.H
open Go.RowKit Go.Proofs.YtkfmjkiefckgoaaGreatDoorW.PrintWords Go.Proofs.YtkfmjkiefckgoaaGreatDoorW.PrintLast Go.Proofs.YtkfmjkiefckgoaaGreatDoor.R Go.Proofs.YtkfmjkiefckgoaaGreatDoor.X Go.Proofs.YtkfmjkiefckgoaaGreatDoor.PAroundOf
set_option linter.unusedVariables false
set_option linter.unusedSimpArgs false
section
variable {B m g p : Nat} {w : World} {s : ByteArray} {q : Int}
set_option maxHeartbeats 1000000 in
theorem CursorLeft_calls (h : BS w B m g s p q) (hok : OkT s p) (c : Int) (h0 : 0 ≤ c) (h1 : c ≤ 1000000000) : Calls Tryz.prog 77 #[Pt m, .int .i64 c] w fun e w' => e = .returned (.tuple #[]) ∧ BS w' B m g s (((p : Int) - min c (colB s p) : Int)) q ∧ Only B m g w w' := by
  have hp := places_le hok
  have hn := hok.1
  have hn2 := hok.2.2
  have HL := Lib.hid (fun w1 d (hd : Doc w1 d s p) => left_c hok hd c h0 h1)
  have HH := Lib.hid h
  clear h hok
  generalize colB s p = k at *
  obtain ⟨l, hl⟩ : ∃ l : Int, l = min c (k : Int) := ⟨_, rfl⟩
  have l0 : 0 ≤ l := by omega
  have l1 : l ≤ k := by omega
  rw [← hl] at HL
  rw [← hl]
  clear hl h0 h1
  go_enter Tryz.func77, Tryz.ntmps77
  go_wp2_with (first
    | (go_at_call 101; refine (Document_calls HH.out).mono ?_; rintro e w1 ⟨d, rfl, hd, hBd, hB1, hO1⟩; have HD := Lib.hid hd; have HB1 := Lib.hid hB1; have HO1 := Lib.hid hO1; clear hd hB1 hO1 hBd)
    | (go_at_call 102; refine (HL.out _ _ HD.out).mono ?_; rintro e w2 ⟨rfl, hb2⟩; have hB2 := HB1.out.below hb2; have HO2 := Lib.hid (HO1.out.behind hb2 HB1.out.lt.1); have HB2 := Lib.hid hB2; obtain ⟨k2, z2, _, _⟩ := hB2.reads; clear hB2 hb2))
  go_end0
  exact ⟨rfl, HB2.out.place _, HO2.out.set (.inl rfl) HB2.out.ge.1 _ _⟩
set_option maxHeartbeats 1000000 in
theorem CursorRight_calls (h : BS w B m g s p q) (hok : OkT s p) (c : Int) (h0 : 0 ≤ c) (h1 : c ≤ 1000000000) : Calls Tryz.prog 78 #[Pt m, .int .i64 c] w fun e w' => e = .returned (.tuple #[]) ∧ BS w' B m g s (((p : Int) + min c (tailB s p) : Int)) q ∧ Only B m g w w' := by
  have hp := places_le hok
  have hn := hok.1
  have hn2 := hok.2.2
  have HL := Lib.hid (fun w1 d (hd : Doc w1 d s p) => right_c hok hd c h0 h1)
  have HH := Lib.hid h
  clear h hok
  generalize tailB s p = k at *
  obtain ⟨l, hl⟩ : ∃ l : Int, l = min c (k : Int) := ⟨_, rfl⟩
  have l0 : 0 ≤ l := by omega
  have l1 : l ≤ k := by omega
  rw [← hl] at HL
  rw [← hl]
  clear hl h0 h1
  go_enter Tryz.func78, Tryz.ntmps78
  go_wp2_with (first
    | (go_at_call 101; refine (Document_calls HH.out).mono ?_; rintro e w1 ⟨d, rfl, hd, hBd, hB1, hO1⟩; have HD := Lib.hid hd; have HB1 := Lib.hid hB1; have HO1 := Lib.hid hO1; clear hd hB1 hO1 hBd)
    | (go_at_call 103; refine (HL.out _ _ HD.out).mono ?_; rintro e w2 ⟨rfl, hb2⟩; have hB2 := HB1.out.below hb2; have HO2 := Lib.hid (HO1.out.behind hb2 HB1.out.lt.1); have HB2 := Lib.hid hB2; obtain ⟨k2, z2, _, _⟩ := hB2.reads; clear hB2 hb2))
  go_end0
  exact ⟨rfl, HB2.out.place _, HO2.out.set (.inl rfl) HB2.out.ge.1 _ _⟩
end
end Go.Proofs.YtkfmjkiefckgoaaGreatDoor.H
namespace Go.Proofs.YtkfmjkiefckgoaaGreatDoor.H
open Go.RowKit Go.Proofs.YtkfmjkiefckgoaaGreatDoorW.PrintWords Go.Proofs.YtkfmjkiefckgoaaGreatDoorW.PrintLast Go.Proofs.YtkfmjkiefckgoaaGreatDoor.R Go.Proofs.YtkfmjkiefckgoaaGreatDoor.X Go.Proofs.YtkfmjkiefckgoaaGreatDoor.PAroundOf
set_option linter.unusedVariables false
set_option linter.unusedSimpArgs false
section
variable {B m g p : Nat} {w : World} {s : ByteArray} {q : Int}
theorem cut_here (s : ByteArray) (p : Nat) (h : p ≤ s.size) : s.extract 0 p ++ s.extract p s.size = s := ints_inj (by
  rw [ints_append, ints_extract, ints_extract]
  have := ints_length s
  rw [List.drop_zero, Nat.sub_zero, List.take_of_length_le (l := (ints s).drop p) (by rw [List.length_drop]; omega), List.take_append_drop])
/-- '[]rune(s)' of a text of ASCII: a new row. -/
theorem runes_new (t : ByteArray) (ha : Asc t) (hz : t.size ≤ 1000000) : ∃ (nw : World → World) (vc : World → Nat), (∀ W, (convert 9 58 (.string t)).run Tryz.prog W = .ok (.slice (some ⟨W.heap.size, 0, none⟩) t.size (vc W)) (nw W)) ∧ ∀ W, Below W.heap.size W (nw W) := by
  refine ⟨fun W => W.drew.alloc (.cells (runeCells (ints t) (grownCap W t.size 0 21)).toArray 21), fun W => grownCap W t.size 0 21, fun W => ?_, fun W => ((Below.refl _ _).drew).alloc (Nat.le_refl _) _⟩
  have := runes_run (P := Tryz.prog) W 9 58 21 t (by kernel_rfl) (by kernel_rfl) (by kernel_rfl) (by omega)
  rwa [runesOf_asc ha, ints_length] at this
set_option maxHeartbeats 1000000 in
theorem GoLineEnd_calls (h : BS w B m g s p q) (hok : OkT s p) : Calls Tryz.prog 108 #[Pt m] w fun e w' => e = .returned (.tuple #[]) ∧ BS w' B m g s ((p : Int) + (tailB s p : Int)) q ∧ Only B m g w w' := by
  have hp := places_le hok
  have hn := hok.1
  have hn2 := hok.2.2
  have hT := extract_len s p s.size (by omega)
  obtain ⟨nw, vc, hcv, hnw⟩ := runes_new (s.extract p s.size) (asc_extract hok.2.1 _ _) (by omega)
  rw [hT] at hcv
  have HA := Lib.hid (fun w1 d (hd : Doc w1 d s p) => after_c hok hd)
  have HM := Lib.hid (fun w1 (hb : BS w1 B m g s p q) => CursorRight_calls hb hok ((s.size - p : Nat) : Int) (by omega) (by omega))
  rw [show min (((s.size - p : Nat) : Int)) (tailB s p : Int) = (tailB s p : Int) by omega] at HM
  have HH := Lib.hid h
  have HN := Lib.hid hnw
  clear h hok hnw hT
  go_enter Tryz.func108, Tryz.ntmps108
  go_wp2_with (first
    | (go_at_call 101; refine (Document_calls HH.out).mono ?_; rintro e w1 ⟨d, rfl, hd, hBd, hB1, hO1⟩; have HD := Lib.hid hd; have HB1 := Lib.hid hB1; have HO1 := Lib.hid hO1; clear hd hB1 hO1 hBd)
    | (go_at_call 30; refine (HA.out _ _ HD.out).mono ?_; rintro e w2 ⟨rfl, hb2⟩; have hB2 := (HB1.out.below hb2).below (HN.out w2); have HO2 := Lib.hid ((HO1.out.behind hb2 HB1.out.lt.1).behind (HN.out w2) (HB1.out.below hb2).lt.1); have HB2 := Lib.hid hB2; clear hB2 hb2)
    | (go_at_call 78; refine (HM.out _ HB2.out).mono ?_; rintro e w3 ⟨rfl, hB3, hO3⟩))
  go_end0
  exact ⟨rfl, hB3, HO2.out.trans hO3⟩
set_option maxHeartbeats 1000000 in
theorem GoLineStart_calls (h : BS w B m g s p q) (hok : OkT s p) : Calls Tryz.prog 109 #[Pt m] w fun e w' => e = .returned (.tuple #[]) ∧ BS w' B m g s ((p : Int) - (colB s p : Int)) q ∧ Only B m g w w' := by
  have hp := places_le hok
  have hn := hok.1
  have hn2 := hok.2.2
  have hT := extract_len s 0 p (by omega)
  obtain ⟨nw, vc, hcv, hnw⟩ := runes_new (s.extract 0 p) (asc_extract hok.2.1 _ _) (by omega)
  rw [hT] at hcv
  have HA := Lib.hid (fun w1 d (hd : Doc w1 d s p) => before_c hok hd)
  have HM := Lib.hid (fun w1 (hb : BS w1 B m g s p q) => CursorLeft_calls hb hok ((p : Nat) : Int) (by omega) (by omega))
  rw [show min (((p : Nat) : Int)) (colB s p : Int) = (colB s p : Int) by omega] at HM
  have HH := Lib.hid h
  have HN := Lib.hid hnw
  clear h hok hnw hT
  go_enter Tryz.func109, Tryz.ntmps109
  go_wp2_with (first
    | (go_at_call 101; refine (Document_calls HH.out).mono ?_; rintro e w1 ⟨d, rfl, hd, hBd, hB1, hO1⟩; have HD := Lib.hid hd; have HB1 := Lib.hid hB1; have HO1 := Lib.hid hO1; clear hd hB1 hO1 hBd)
    | (go_at_call 29; refine (HA.out _ _ HD.out).mono ?_; rintro e w2 ⟨rfl, hb2⟩; have hB2 := (HB1.out.below hb2).below (HN.out w2); have HO2 := Lib.hid ((HO1.out.behind hb2 HB1.out.lt.1).behind (HN.out w2) (HB1.out.below hb2).lt.1); have HB2 := Lib.hid hB2; clear hB2 hb2)
    | (go_at_call 77; refine (HM.out _ HB2.out).mono ?_; rintro e w3 ⟨rfl, hB3, hO3⟩))
  go_end0
  exact ⟨rfl, hB3, HO2.out.trans hO3⟩
end
end Go.Proofs.YtkfmjkiefckgoaaGreatDoor.H
namespace Go.Proofs.YtkfmjkiefckgoaaGreatDoor.H
open Go.RowKit Go.Proofs.YtkfmjkiefckgoaaGreatDoorW.PrintWords Go.Proofs.YtkfmjkiefckgoaaGreatDoorW.PrintLast Go.Proofs.YtkfmjkiefckgoaaGreatDoor.R Go.Proofs.YtkfmjkiefckgoaaGreatDoor.X Go.Proofs.YtkfmjkiefckgoaaGreatDoor.PAroundOf
set_option linter.unusedVariables false
set_option linter.unusedSimpArgs false
section
variable {B m g p : Nat} {w : World} {s : ByteArray} {q : Int}
theorem extract_extract (s : ByteArray) (a b c : Nat) (h : c ≤ b - a) : (s.extract a b).extract 0 c = s.extract a (a + c) := ints_inj (by
  rw [ints_extract, ints_extract, ints_extract, List.drop_zero, Nat.sub_zero, List.take_take, Nat.min_eq_left h]
  congr 1; omega)
set_option maxHeartbeats 4000000 in
set_option maxRecDepth 100000 in
theorem Delete_calls (h : BS w B m g s p q) (hok : OkT s p) (c : Nat) (hc : c ≤ s.size - p ∨ p = s.size) (hc2 : c ≤ 1000000000) : Calls Tryz.prog 82 #[Pt m, .int .i64 (c : Int)] w fun e w' => e = .returned (.string (s.extract p (p + c))) ∧ BS w' B m g (s.extract 0 p ++ s.extract (p + c) s.size) p q ∧ Only B m g w w' := by
  have HOK := Lib.hid hok
  obtain ⟨hs, hasc, hp⟩ := hok
  have hcv := fun W => runes_run (P := Tryz.prog) W 9 58 21 s (by kernel_rfl) (by kernel_rfl) (by kernel_rfl) (by omega)
  rw [runesOf_asc hasc, ints_length] at hcv
  have HT := Lib.hid (Text_calls h)
  have HH0 := Lib.hid h
  clear h
  by_cases hlt : p < s.size
  · have hcc : c ≤ s.size - p := by omega
    have HX0 := Lib.hid (extract_extract s p s.size c hcc)
    have hz := extract_len s p (p + c) (by omega)
    rw [Nat.add_sub_cancel_left] at hz
    have hz2 := extract_len s p s.size (Nat.le_refl _)
    clear hc
    go_enter Tryz.func82, Tryz.ntmps82
    go_upto_region 2 with (go_at_call 49; refine HT.out.mono ?_; rintro e w1 ⟨rfl, n1, rfl⟩)
    have hB2 := (HH0.out.drewN (n1 + 1)).alloc (.cells (runeCells (ints s) (grownCap (w.drewN n1) s.size 0 21)).toArray 21)
    have hO2 := (((Only.refl B m g w).drewN (n1 + 1))).alloc (by have := HH0.out.lt.1; exact this) (.cells (runeCells (ints s) (grownCap (w.drewN n1) s.size 0 21)).toArray 21)
    have hr := Rec.new (w.drewN (n1 + 1)) (runeCells (ints s) (grownCap (w.drewN n1) s.size 0 21)) 21
    have hcap : s.size ≤ grownCap (w.drewN n1) s.size 0 21 := grownCap_ge _ _ _ _
    rw [show (w.drewN (n1 + 1)).heap.size = w.heap.size from rfl] at hr
    generalize grownCap (w.drewN n1) s.size 0 21 = cap at *
    generalize w.heap.size = r at *
    generalize (w.drewN (n1 + 1)).alloc (.cells (runeCells (ints s) cap).toArray 21) = W at *
    have k2 := hB2.reads.1
    have hne : r ≠ m ∧ r ≠ g := by
      obtain ⟨cv, a1, a2, _⟩ := hB2
      exact ⟨rec_ne hr a1 (by decide), rec_ne hr a2.rec (by decide)⟩
    have HH := Lib.hid hB2
    have HR := Lib.hid (And.intro hr (And.intro hne hO2))
    have HA := Lib.hid (fun w1 d (hd : Doc w1 d s p) => after_c HOK.out hd)
    clear hB2 hO2 hr hcv HT hne
    have f1 : c ≤ s.size - p := hcc
    have f2 : (c : Int) ≤ ((s.size - p : Nat) : Int) := by omega
    go_upto_region 4 with (first
      | (go_at_call 101; refine (Document_calls HH.out).mono ?_; rintro e w1 ⟨d, rfl, hd, hBd, hB1, hO1⟩; have HD := Lib.hid hd; have HB1 := Lib.hid hB1; have HO1 := Lib.hid hO1; clear hd hB1 hO1 hBd)
      | (go_at_call 30; refine (HA.out _ _ HD.out).mono ?_; rintro e w2 ⟨rfl, hb2⟩; have hB2 := HB1.out.below hb2; have HO2 := Lib.hid (HR.out.2.2.trans (HO1.out.behind hb2 HB1.out.lt.1)); have HR2 := Lib.hid ((HO1.out.rec HR.out.1 HR.out.2.1.1 HR.out.2.1.2).stays hb2); have HB2 := Lib.hid hB2; clear hB2 hb2))
    rw [HX0.out]
    have hr2 := HR2.out
    have k3 := HB2.out.reads.1
    have g1 : p ≤ cap := by omega
    obtain ⟨e, he⟩ : ∃ e : Nat, e = p + c := ⟨_, rfl⟩
    have g8 : IntKind.i64.wrap ((p : Int) + (c : Int)) = (e : Int) := by rw [IntWalk.i64_in _ (by omega)]; omega
    have g3 : e ≤ s.size := by omega
    rw [← he] at hz
    rw [← he]
    have HE := Lib.hid he
    clear he
    have g2 : e ≤ cap := by omega
    have g4 : (p : Int) ≤ (cap : Int) := by omega
    have g5 : (e : Int) ≤ (s.size : Int) := by omega
    have g6 : (e : Int) ≤ (cap : Int) := by omega
    have g7 : (9223372036854775807 < p + (s.size - e)) = False := eq_false (by omega)
    have hA := head_str w2.drew r cap p cap hasc hp hr2
    have hC := rest_str w2.drew r cap e hasc g3 hcap hr2
    have HS := Lib.hid (setText_bs (HB2.out.drewN 1) (s.extract 0 p ++ s.extract e s.size))
    generalize hD : s.extract p e = D at *
    have HDD := Lib.hid hD
    clear hD
    clear hr2 hz2
    go_still_tail 19, (by kernel_rfl)
    change wpList _ _ _ _ _ w2.drew
    go_wp2_with (go_at_call 88; refine HS.out.mono ?_; rintro e' w3 ⟨rfl, hB3, hO3⟩)
    all_goals
      go_ret
      have q1 := HE.out
      have q2 := HDD.out
      subst q2
      rw [q1] at hB3 ⊢
      exact ⟨rfl, hB3, HO2.out.drew.trans hO3⟩
  · obtain rfl : p = s.size := by omega
    have e1 : s.extract s.size (s.size + c) = ⟨#[]⟩ := ints_inj (by
      rw [ints_extract, List.drop_eq_nil_of_le (by rw [ints_length]; exact Nat.le_refl _)]
      simp [ints])
    have e2 : s.extract 0 s.size ++ s.extract (s.size + c) s.size = s := ints_inj (by
      have hl := ints_length s
      rw [ints_append, ints_extract, ints_extract, show s.size - (s.size + c) = 0 by omega, List.take_zero, List.append_nil, List.drop_zero, Nat.sub_zero, List.take_of_length_le (by omega)])
    rw [e1, e2]
    clear e1 e2 hc
    obtain ⟨nw, vc, hcv2, hnw⟩ := runes_new s hasc (by omega)
    have HN := Lib.hid hnw
    clear hcv hnw
    go_enter Tryz.func82, Tryz.ntmps82
    go_wp2_with (go_at_call 49; refine HT.out.mono ?_; rintro e w1 ⟨rfl, hw1⟩; have hB1 : BS w1 B m g s (s.size : Int) q := (by obtain ⟨n, rfl⟩ := hw1; exact HH0.out.drewN n); have hO1 : Only B m g w w1 := (by obtain ⟨n, rfl⟩ := hw1; exact (Only.refl B m g w).drewN n); clear hw1; have hB2 := hB1.below (HN.out w1); have k2 := hB2.reads.1; have HB2 := Lib.hid hB2; have HO2 := Lib.hid (hO1.behind (HN.out w1) hB1.lt.1); clear hB1 hO1 hB2)
    go_ret
    exact ⟨rfl, HB2.out, HO2.out⟩
end
end Go.Proofs.YtkfmjkiefckgoaaGreatDoor.H
