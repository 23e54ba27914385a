/- Printed by a program of this seat (xprint) out of the translation: Go functions as plain functions, and the walks that show them; no condition. -/
import Derived.Test.YthbdaoapjnofkaaDoorQPFnKeyControlsx0
import Derived.Test.YthbdaoapjnofkaaDoorQHKeyN
namespace Go.Proofs.YthbdaoapjnofkaaDoor.PFnKeyControls
open Go.RowKit Go.Proofs.YthbdaoapjnofkaaDoor.H Go.Proofs.YthbdaoapjnofkaaDoor.R Go.Proofs.YthbdaoapjnofkaaDoorW.PrintWords Go.Proofs.YthbdaoapjnofkaaDoorW.PrintLast Go.Proofs.YthbdaoapjnofkaaDoorW.PrintMore
attribute [local go_sem] max2_int min2_int max_two min_two max_three min_three max_four min_four   -- for this text's walks alone
set_option linter.unusedVariables false
set_option linter.unusedSimpArgs false
/-! ### laws_FnKeyControls: function 9 -/
def laws_FnKeyControls.f (a0 : Int) : Option (Bool) := if ((1 + (Int.tmod a0 26)) % 256) = 9 then (some true) else (if ((1 + (Int.tmod a0 26)) % 256) = 10 then (some true) else (if ((1 + (Int.tmod a0 26)) % 256) = 13 then (some true) else ((impl_KeyOf.f (strOfNums (([(1 + (Int.tmod a0 26)) % 256] : List Int)))).bind fun t104 => ((some (([(((65 + ((1 + (Int.tmod a0 26)) % 256)) % 256) - 1) % 256] : List Int) : List Int)).bind fun y105 => (if 7 + (strOfNums y105).size ≤ 9223372036854775807 then (some (t104.toList == ((⟨#[67, 111, 110, 116, 114, 111, 108]⟩ : ByteArray) ++ (strOfNums y105)).toList)) else (none))))))
def laws_FnKeyControls.T4 : Bool × List (List Nat × List Nat) := (true, [([], []), ([0], [0]), ([1], [1]), ([2], [2]), ([], []), ([4], [4]), ([5], [5]), ([6], [6]), ([7], [7]), ([8], [8]), ([3, 9], [3, 9]), ([10, 3, 0, 1, 2, 3, 4, 5, 6, 7, 8, 9, 10], [10])])
def laws_FnKeyControls.B4 : List Nat := [0, 1, 3, 7, 0, 16, 48, 112, 240, 496, 1023, 2047]
theorem laws_FnKeyControls.tab4 : rtab .any (opsOf Tryd.f9 4) = laws_FnKeyControls.T4 := by kernel_rfl
theorem laws_FnKeyControls.bits4 : waitsOk laws_FnKeyControls.T4.2 laws_FnKeyControls.B4 = true := by kernel_rfl
set_option maxHeartbeats 8000000 in
set_option maxRecDepth 100000 in
theorem laws_FnKeyControls.calls (a0 : Int) (r : Bool) (w : World) (h : laws_FnKeyControls.f a0 = some r) (hT : TabH w) :
    Calls Tryd.prog 9 #[.int .u8 a0] w fun e w' => e = .returned (.bool r) ∧ Below w.heap.size w w' := by
  have HTT := Aside0.mk hT
  clear hT
  have HB := Aside0.mk (Below.refl w.heap.size w)
  have H : (if ((1 + (Int.tmod a0 26)) % 256) = 9 then (some true) else (if ((1 + (Int.tmod a0 26)) % 256) = 10 then (some true) else (if ((1 + (Int.tmod a0 26)) % 256) = 13 then (some true) else ((impl_KeyOf.f (strOfNums (([(1 + (Int.tmod a0 26)) % 256] : List Int)))).bind fun t104 => ((some (([(((65 + ((1 + (Int.tmod a0 26)) % 256)) % 256) - 1) % 256] : List Int) : List Int)).bind fun y105 => (if 7 + (strOfNums y105).size ≤ 9223372036854775807 then (some (t104.toList == ((⟨#[67, 111, 110, 116, 114, 111, 108]⟩ : ByteArray) ++ (strOfNums y105)).toList)) else (none))))))) = some r := h
  clear h
  by_cases c2 : ((1 + (Int.tmod a0 26)) % 256) = 9
  · rw [if_pos c2] at H
    have c2b0 : (((1 + (Int.tmod a0 26)) % 256) == 9) = true := beq_iff_eq.mpr c2
    have c2b1 : (((1 + (Int.tmod a0 26)) % 256) != 9) = false := bne_eq_false_iff_eq.mpr c2
    clear c2
    obtain rfl := Option.some.inj H
    go_enter Tryd.func9, Tryd.ntmps9
    go_wp2
    go_ret
    exact ⟨by first | rfl | (simp [errW_none, errW_some] <;> rfl) | (simp [*, errW_none, errW_some] <;> rfl), by repeat (first | (with_reducible first | exact HB.out | apply below_alloc | apply pw_below_drewN | apply below_drew1) | exact HB.out)⟩
  · rw [if_neg c2] at H
    have c2b0 : (((1 + (Int.tmod a0 26)) % 256) == 9) = false := beq_eq_false_iff_ne.mpr c2
    have c2b1 : (((1 + (Int.tmod a0 26)) % 256) != 9) = true := bne_iff_ne.mpr c2
    by_cases c3 : ((1 + (Int.tmod a0 26)) % 256) = 10
    · rw [if_pos c3] at H
      have c3b0 : (((1 + (Int.tmod a0 26)) % 256) == 10) = true := beq_iff_eq.mpr c3
      have c3b1 : (((1 + (Int.tmod a0 26)) % 256) != 10) = false := bne_eq_false_iff_eq.mpr c3
      clear c3
      obtain rfl := Option.some.inj H
      go_enter Tryd.func9, Tryd.ntmps9
      go_wp2
      go_ret
      exact ⟨by first | rfl | (simp [errW_none, errW_some] <;> rfl) | (simp [*, errW_none, errW_some] <;> rfl), by repeat (first | (with_reducible first | exact HB.out | apply below_alloc | apply pw_below_drewN | apply below_drew1) | exact HB.out)⟩
    · rw [if_neg c3] at H
      have c3b0 : (((1 + (Int.tmod a0 26)) % 256) == 10) = false := beq_eq_false_iff_ne.mpr c3
      have c3b1 : (((1 + (Int.tmod a0 26)) % 256) != 10) = true := bne_iff_ne.mpr c3
      by_cases c4 : ((1 + (Int.tmod a0 26)) % 256) = 13
      · rw [if_pos c4] at H
        have c4b0 : (((1 + (Int.tmod a0 26)) % 256) == 13) = true := beq_iff_eq.mpr c4
        have c4b1 : (((1 + (Int.tmod a0 26)) % 256) != 13) = false := bne_eq_false_iff_eq.mpr c4
        clear c4
        obtain rfl := Option.some.inj H
        go_enter Tryd.func9, Tryd.ntmps9
        go_wp2
        go_ret
        exact ⟨by first | rfl | (simp [errW_none, errW_some] <;> rfl) | (simp [*, errW_none, errW_some] <;> rfl), by repeat (first | (with_reducible first | exact HB.out | apply below_alloc | apply pw_below_drewN | apply below_drew1) | exact HB.out)⟩
      · rw [if_neg c4] at H
        have c4b0 : (((1 + (Int.tmod a0 26)) % 256) == 13) = false := beq_eq_false_iff_ne.mpr c4
        have c4b1 : (((1 + (Int.tmod a0 26)) % 256) != 13) = true := bne_iff_ne.mpr c4
        obtain ⟨y101, hy101⟩ : ∃ y_ : List Int, y_ = (([(1 + (Int.tmod a0 26)) % 256] : List Int)) := ⟨_, rfl⟩
        replace H : ((impl_KeyOf.f (strOfNums y101)).bind fun t104 => ((some (([(((65 + ((1 + (Int.tmod a0 26)) % 256)) % 256) - 1) % 256] : List Int) : List Int)).bind fun y105 => (if 7 + (strOfNums y105).size ≤ 9223372036854775807 then (some (t104.toList == ((⟨#[67, 111, 110, 116, 114, 111, 108]⟩ : ByteArray) ++ (strOfNums y105)).toList)) else (none)))) = some r := by first | (rw [hy101]; with_reducible exact H) | (have H2_ := (Option.bind_some _ _).symm.trans H; rw [hy101]; with_reducible exact H2_) | (have H2_ := (Option.bind_some _ _).symm.trans H; with_reducible exact H2_) | with_reducible exact H | (rw [hy101]; exact H) | exact H
        have Ny101 := Aside0.mk hy101
        clear hy101
        replace H := Option.bind_eq_some_iff.mp H
        obtain ⟨t104, A50, H⟩ := H
        replace H : ((some (([(((65 + ((1 + (Int.tmod a0 26)) % 256)) % 256) - 1) % 256] : List Int) : List Int)).bind fun y105 => (if 7 + (strOfNums y105).size ≤ 9223372036854775807 then (some (t104.toList == ((⟨#[67, 111, 110, 116, 114, 111, 108]⟩ : ByteArray) ++ (strOfNums y105)).toList)) else (none))) = some r := H
        have A5 := Aside0.mk A50
        clear A50
        obtain ⟨y105, hy105⟩ : ∃ y_ : List Int, y_ = (([(((65 + ((1 + (Int.tmod a0 26)) % 256)) % 256) - 1) % 256] : List Int)) := ⟨_, rfl⟩
        replace H : (if 7 + (strOfNums y105).size ≤ 9223372036854775807 then (some (t104.toList == ((⟨#[67, 111, 110, 116, 114, 111, 108]⟩ : ByteArray) ++ (strOfNums y105)).toList)) else (none)) = some r := by first | (rw [hy105]; with_reducible exact H) | (have H2_ := (Option.bind_some _ _).symm.trans H; rw [hy105]; with_reducible exact H2_) | (have H2_ := (Option.bind_some _ _).symm.trans H; with_reducible exact H2_) | with_reducible exact H | (rw [hy105]; exact H) | exact H
        have Ny105 := Aside0.mk hy105
        clear hy105
        by_cases c6 : 7 + (strOfNums y105).size ≤ 9223372036854775807
        · rw [if_pos c6] at H
          have c6b0 := eq_true c6
          have c6b1 : decide (7 + (strOfNums y105).size ≤ 9223372036854775807) = true := decide_eq_true c6
          try have c6b2 : (9223372036854775807 < 7 + (strOfNums y105).size) = False := eq_false (Nat.not_lt.2 c6)
          obtain rfl := Option.some.inj H
          go_enter Tryd.func9, Tryd.ntmps9
          try go_wp2
          have n0_ := Aside0.mk (below_drew1 HB.out)
          clear HB
          have HB := n0_
          clear n0_
          refine start_ (n := 12) (S := fun w' => True) (ds := []) #[false, false, false, false, false, false, false, false, false, false, false, false] (by kernel_rfl) rfl rfl trivial (fun hHeld => ?_); refine with_tabW laws_FnKeyControls.tab4 laws_FnKeyControls.bits4 (fun HT_ HW_ => ?_)
          generalize w.drew = w7 at HB hHeld ⊢
          refine pure_ (i := 0) (N := some 17) (v := ?_) (a' := ?_) #[true, false, false, false, false, false, false, false, false, false, false, false] rfl rfl (any_of HT_.out (by kernel_rfl)) (fun _ _ _ h => h) (Or.inl ⟨by rfl, ?_⟩) ?_ ?_
          rotate_left
          · intro w'
            go_simp
            with_reducible rfl
          rotate_left
          · simp only [Act.put, List.setIfInBounds_toArray, List.set_cons_zero, List.set_cons_succ, i64_w, i32_w]
            rfl
          refine pure_ (i := 4) (N := some 21) (v := ?_) (a' := ?_) #[true, false, false, false, true, false, false, false, false, false, false, false] rfl rfl (any_of HT_.out (by kernel_rfl)) (fun _ _ _ h => h) (Or.inl ⟨by rfl, ?_⟩) ?_ ?_
          rotate_left
          · intro w'
            go_simp
            with_reducible rfl
          rotate_left
          · simp only [Act.put, List.setIfInBounds_toArray, List.set_cons_zero, List.set_cons_succ, i64_w, i32_w]
            rfl
          refine pure_ (i := 5) (N := some 22) (v := ?_) (a' := ?_) #[true, false, false, false, true, true, false, false, false, false, false, false] rfl rfl (any_of HT_.out (by kernel_rfl)) (fun _ _ _ h => h) (Or.inl ⟨by rfl, ?_⟩) ?_ ?_
          rotate_left
          · intro w'
            go_simp
            with_reducible rfl
          rotate_left
          · simp only [Act.put, List.setIfInBounds_toArray, List.set_cons_zero, List.set_cons_succ, i64_w, i32_w]
            rfl
          refine pure_ (i := 6) (N := some 23) (v := ?_) (a' := ?_) #[true, false, false, false, true, true, true, false, false, false, false, false] rfl rfl (any_of HT_.out (by kernel_rfl)) (fun _ _ _ h => h) (Or.inl ⟨by rfl, ?_⟩) ?_ ?_
          rotate_left
          · intro w'
            go_simp
            with_reducible rfl
          rotate_left
          · simp only [Act.put, List.setIfInBounds_toArray, List.set_cons_zero, List.set_cons_succ, i64_w, i32_w]
            rfl
          refine join_ (σ := Value × Value) 2 #[true, true, true, true, true, true, true, true, true, true, false, false] (fun s_ => [(18, s_.1), (19, .string (strOfNums y101)), (20, .string t104), (24, s_.2), (25, .string (strOfNums y105)), (26, .string ((⟨#[67, 111, 110, 116, 114, 111, 108]⟩ : ByteArray) ++ (strOfNums y105)))]) (fun s_ w' => (Kd.R (Kd.int .u8) 5 w' w.heap.size (fun k_ => some k_ ≠ (s_.2 : Value).ownBlock) s_.1 y101) ∧ (Kd.R (Kd.int .u8) 5 w' w.heap.size (fun k_ => some k_ ≠ (s_.1 : Value).ownBlock) s_.2 y105) ∧ (Below w.heap.size w w')) ?_ ?_
          rotate_left
          · intro hJ1_2_3_7_8
            refine join_ (σ := Value × Value) 4 #[true, true, true, true, true, true, true, true, false, false, false, false] (fun s_ => [(18, s_.1), (19, .string (strOfNums y101)), (20, .string t104), (24, s_.2)]) (fun s_ w' => (Kd.R (Kd.int .u8) 5 w' w.heap.size (fun k_ => some k_ ≠ (s_.2 : Value).ownBlock) s_.1 y101) ∧ (Kd.R (Kd.int .u8) 5 w' w.heap.size (fun k_ => some k_ ≠ (s_.1 : Value).ownBlock) s_.2 y105) ∧ (Below w.heap.size w w')) ?_ ?_
            rotate_left
            · intro hJ1_2_3_7
              refine join_ (σ := Value × Value) 3 #[true, true, true, false, true, true, true, true, true, true, false, false] (fun s_ => [(18, s_.1), (19, .string (strOfNums y101)), (24, s_.2), (25, .string (strOfNums y105)), (26, .string ((⟨#[67, 111, 110, 116, 114, 111, 108]⟩ : ByteArray) ++ (strOfNums y105)))]) (fun s_ w' => (Kd.R (Kd.int .u8) 5 w' w.heap.size (fun k_ => some k_ ≠ (s_.2 : Value).ownBlock) s_.1 y101) ∧ (Kd.R (Kd.int .u8) 5 w' w.heap.size (fun k_ => some k_ ≠ (s_.1 : Value).ownBlock) s_.2 y105) ∧ (Below w.heap.size w w')) ?_ ?_
              rotate_left
              · intro hJ1_2_7_8
                refine join_ (σ := Value) 5 #[true, true, true, true, true, true, true, false, false, false, false, false] (fun s_ => [(18, s_), (19, .string (strOfNums y101)), (20, .string t104)]) (fun s_ w' => (Kd.R (Kd.int .u8) 5 w' w.heap.size (fun _ => True) s_ y101) ∧ (Below w.heap.size w w')) ?_ ?_
                rotate_left
                · intro hJ1_2_3
                  refine join_ (σ := Value × Value) 5 #[true, true, true, false, true, true, true, true, false, false, false, false] (fun s_ => [(18, s_.1), (19, .string (strOfNums y101)), (24, s_.2)]) (fun s_ w' => (Kd.R (Kd.int .u8) 5 w' w.heap.size (fun k_ => some k_ ≠ (s_.2 : Value).ownBlock) s_.1 y101) ∧ (Kd.R (Kd.int .u8) 5 w' w.heap.size (fun k_ => some k_ ≠ (s_.1 : Value).ownBlock) s_.2 y105) ∧ (Below w.heap.size w w')) ?_ ?_
                  rotate_left
                  · intro hJ1_2_7
                    refine join_ (σ := Value × Value) 4 #[true, true, false, false, true, true, true, true, true, true, false, false] (fun s_ => [(18, s_.1), (24, s_.2), (25, .string (strOfNums y105)), (26, .string ((⟨#[67, 111, 110, 116, 114, 111, 108]⟩ : ByteArray) ++ (strOfNums y105)))]) (fun s_ w' => (Kd.R (Kd.int .u8) 5 w' w.heap.size (fun k_ => some k_ ≠ (s_.2 : Value).ownBlock) s_.1 y101) ∧ (Kd.R (Kd.int .u8) 5 w' w.heap.size (fun k_ => some k_ ≠ (s_.1 : Value).ownBlock) s_.2 y105) ∧ (Below w.heap.size w w')) ?_ ?_
                    rotate_left
                    · intro hJ1_7_8
                      refine join_ (σ := Value) 6 #[true, true, true, false, true, true, true, false, false, false, false, false] (fun s_ => [(18, s_), (19, .string (strOfNums y101))]) (fun s_ w' => (Kd.R (Kd.int .u8) 5 w' w.heap.size (fun _ => True) s_ y101) ∧ (Below w.heap.size w w')) ?_ ?_
                      rotate_left
                      · intro hJ1_2
                        refine join_ (σ := Value × Value) 6 #[true, true, false, false, true, true, true, true, false, false, false, false] (fun s_ => [(18, s_.1), (24, s_.2)]) (fun s_ w' => (Kd.R (Kd.int .u8) 5 w' w.heap.size (fun k_ => some k_ ≠ (s_.2 : Value).ownBlock) s_.1 y101) ∧ (Kd.R (Kd.int .u8) 5 w' w.heap.size (fun k_ => some k_ ≠ (s_.1 : Value).ownBlock) s_.2 y105) ∧ (Below w.heap.size w w')) ?_ ?_
                        rotate_left
                        · intro hJ1_7
                          refine join_ (σ := Value) 5 #[true, false, false, false, true, true, true, true, true, true, false, false] (fun s_ => [(24, s_), (25, .string (strOfNums y105)), (26, .string ((⟨#[67, 111, 110, 116, 114, 111, 108]⟩ : ByteArray) ++ (strOfNums y105)))]) (fun s_ w' => (Kd.R (Kd.int .u8) 5 w' w.heap.size (fun _ => True) s_ y105) ∧ (Below w.heap.size w w')) ?_ ?_
                          rotate_left
                          · intro hJ7_8
                            refine join_ (σ := Value) 7 #[true, true, false, false, true, true, true, false, false, false, false, false] (fun s_ => [(18, s_)]) (fun s_ w' => (Kd.R (Kd.int .u8) 5 w' w.heap.size (fun _ => True) s_ y101) ∧ (Below w.heap.size w w')) ?_ ?_
                            rotate_left
                            · intro hJ1
                              refine join_ (σ := Value) 7 #[true, false, false, false, true, true, true, true, false, false, false, false] (fun s_ => [(24, s_)]) (fun s_ w' => (Kd.R (Kd.int .u8) 5 w' w.heap.size (fun _ => True) s_ y105) ∧ (Below w.heap.size w w')) ?_ ?_
                              rotate_left
                              · intro hJ7
                                refine two_ (i := 1) (j := 7) (Ni := some 18) (Nj := some 24) #[true, true, false, false, true, true, true, false, false, false, false, false] #[true, false, false, false, true, true, true, true, false, false, false, false] rfl rfl rfl rfl (two_of HT_.out (by kernel_rfl)) (by decide) (by decide) (fun K hK => ?_) (fun K hK => ?_)
                                · skip
                                  refine Kd.R_lit_step (Kd.int .u8) _ 5 ?hg (N := 18) ?hd (xs := ([(1 + (Int.tmod a0 26)) % 256] : List Int)) (inner := [.int .u8 ((1 + (Int.tmod a0 26)) % 256)]) (ok := fun _ => True) (okp := fun _ => True) ?hr ?hp (fun _ hk => hk) trivial (Below.refl _ _) (Nat.le_refl _) (by simp) ?_; (case hd => rfl); (case hg => rfl); (case hr => first | (go_simp; done) | (go_simp; rfl) | (go_simp; refine congrArg (fun z => World.alloc _ (Obj.cells #[Value.int IntKind.u8 z] 5)) ?_; have u8w : ∀ x : Int, IntKind.u8.wrap x = x % 256 := (fun x => by unfold IntKind.wrap; simp [IntKind.bits, IntKind.signed]); simp only [u8w]; generalize Int.tmod a0 26 = t_; omega)); (case hp => exact (Reps.one (show Kd.M (Kd.int .u8) _ _ _ ((1 + (Int.tmod a0 26)) % 256) [.int .u8 ((1 + (Int.tmod a0 26)) % 256)] from rfl) (Reps.none _ _)))
                                  intro v102 w8 ho9 hb hg_ hnew_
                                  clear hg_ hnew_
                                  (first | rw [← Ny101.out] at ho9 | (simp only [Int.reduceToNat] at ho9; rw [← Ny101.out] at ho9))
                                  have n0_ := Aside0.mk (Kd.R_lower ho9 (below_size (by repeat (first | (with_reducible first | exact HB.out | apply below_alloc | apply pw_below_drewN | apply below_drew1) | exact HB.out))))
                                  have n1_ := Aside0.mk (below_step (by repeat (first | (with_reducible first | exact HB.out | apply below_alloc | apply pw_below_drewN | apply below_drew1) | exact HB.out)) hb)
                                  clear HB
                                  have HO103 := n0_
                                  have HB := n1_
                                  clear n0_ n1_
                                  clear hb ho9
                                  refine hK.out _ _ trivial (fun hHeld => ?_)
                                  clear hK K
                                  refine norm_ (a' := ?_) ?_ ?_
                                  rotate_left
                                  · show Act.put _ (some 18) _ = _
                                    simp only [Act.put, List.setIfInBounds_toArray, List.set_cons_zero, List.set_cons_succ, i64_w, i32_w]
                                    rfl
                                  exact norm_ (by first | (simp only [putAll, Act.put, List.setIfInBounds_toArray, List.set_cons_zero, List.set_cons_succ]; done) | (simp only [putAll, Act.put, List.setIfInBounds_toArray, List.set_cons_zero, List.set_cons_succ]; rfl)) (hJ1 (v102) _ ⟨(by (with_reducible repeat (first | apply Kd.R_alloc | apply Kd.R_drewN | apply Kd.R_drew)); exact HO103.out), (by repeat (first | (with_reducible first | exact HB.out | apply below_alloc | apply pw_below_drewN | apply below_drew1) | exact HB.out))⟩)
                                · skip
                                  refine Kd.R_lit_step (Kd.int .u8) _ 5 ?hg (N := 24) ?hd (xs := ([(((65 + ((1 + (Int.tmod a0 26)) % 256)) % 256) - 1) % 256] : List Int)) (inner := [.int .u8 ((((65 + ((1 + (Int.tmod a0 26)) % 256)) % 256) - 1) % 256)]) (ok := fun _ => True) (okp := fun _ => True) ?hr ?hp (fun _ hk => hk) trivial (Below.refl _ _) (Nat.le_refl _) (by simp) ?_; (case hd => rfl); (case hg => rfl); (case hr => first | (go_simp; done) | (go_simp; rfl) | (go_simp; refine congrArg (fun z => World.alloc _ (Obj.cells #[Value.int IntKind.u8 z] 5)) ?_; have u8w : ∀ x : Int, IntKind.u8.wrap x = x % 256 := (fun x => by unfold IntKind.wrap; simp [IntKind.bits, IntKind.signed]); simp only [u8w]; generalize Int.tmod a0 26 = t_; omega)); (case hp => exact (Reps.one (show Kd.M (Kd.int .u8) _ _ _ ((((65 + ((1 + (Int.tmod a0 26)) % 256)) % 256) - 1) % 256) [.int .u8 ((((65 + ((1 + (Int.tmod a0 26)) % 256)) % 256) - 1) % 256)] from rfl) (Reps.none _ _)))
                                  intro v106 w8 ho9 hb hg_ hnew_
                                  clear hg_ hnew_
                                  (first | rw [← Ny105.out] at ho9 | (simp only [Int.reduceToNat] at ho9; rw [← Ny105.out] at ho9))
                                  have n0_ := Aside0.mk (Kd.R_lower ho9 (below_size (by repeat (first | (with_reducible first | exact HB.out | apply below_alloc | apply pw_below_drewN | apply below_drew1) | exact HB.out))))
                                  have n1_ := Aside0.mk (below_step (by repeat (first | (with_reducible first | exact HB.out | apply below_alloc | apply pw_below_drewN | apply below_drew1) | exact HB.out)) hb)
                                  clear HB
                                  have HO107 := n0_
                                  have HB := n1_
                                  clear n0_ n1_
                                  clear hb ho9
                                  refine hK.out _ _ trivial (fun hHeld => ?_)
                                  clear hK K
                                  refine norm_ (a' := ?_) ?_ ?_
                                  rotate_left
                                  · show Act.put _ (some 24) _ = _
                                    simp only [Act.put, List.setIfInBounds_toArray, List.set_cons_zero, List.set_cons_succ, i64_w, i32_w]
                                    rfl
                                  exact norm_ (by first | (simp only [putAll, Act.put, List.setIfInBounds_toArray, List.set_cons_zero, List.set_cons_succ]; done) | (simp only [putAll, Act.put, List.setIfInBounds_toArray, List.set_cons_zero, List.set_cons_succ]; rfl)) (hJ7 (v106) _ ⟨(by (with_reducible repeat (first | apply Kd.R_alloc | apply Kd.R_drewN | apply Kd.R_drew)); exact HO107.out), (by repeat (first | (with_reducible first | exact HB.out | apply below_alloc | apply pw_below_drewN | apply below_drew1) | exact HB.out))⟩)
                              · skip
                                rintro v106 w10 ⟨h0_, h1_⟩
                                have n0_ : Aside0 (Kd.R (Kd.int .u8) 5 w10 w.heap.size (fun _ => True) v106 y105) := ⟨h0_⟩
                                have n1_ : Aside0 (Below w.heap.size w w10) := ⟨h1_⟩
                                clear HB
                                clear h0_ h1_
                                have HO107 := n0_
                                have HB := n1_
                                clear n0_ n1_
                                have hHeld := trivial
                                refine norm_ (a' := ?_) ?_ ?_
                                rotate_left
                                · simp only [putAll, Act.put, List.setIfInBounds_toArray, List.set_cons_zero, List.set_cons_succ]
                                  rfl
                                refine two_ (i := 1) (j := 8) (Ni := some 18) (Nj := some 25) #[true, true, false, false, true, true, true, true, false, false, false, false] #[true, false, false, false, true, true, true, true, true, false, false, false] rfl rfl rfl rfl (two_of HT_.out (by kernel_rfl)) (by decide) (by decide) (fun K hK => ?_) (fun K hK => ?_)
                                · skip
                                  refine Kd.R_lit_step (Kd.int .u8) _ 5 ?hg (N := 18) ?hd (xs := ([(1 + (Int.tmod a0 26)) % 256] : List Int)) (inner := [.int .u8 ((1 + (Int.tmod a0 26)) % 256)]) (ok := fun _ => True) (okp := fun _ => True) ?hr ?hp (fun _ hk => hk) trivial (Below.refl _ _) (Nat.le_refl _) (by simp) ?_; (case hd => rfl); (case hg => rfl); (case hr => first | (go_simp; done) | (go_simp; rfl) | (go_simp; refine congrArg (fun z => World.alloc _ (Obj.cells #[Value.int IntKind.u8 z] 5)) ?_; have u8w : ∀ x : Int, IntKind.u8.wrap x = x % 256 := (fun x => by unfold IntKind.wrap; simp [IntKind.bits, IntKind.signed]); simp only [u8w]; generalize Int.tmod a0 26 = t_; omega)); (case hp => exact (Reps.one (show Kd.M (Kd.int .u8) _ _ _ ((1 + (Int.tmod a0 26)) % 256) [.int .u8 ((1 + (Int.tmod a0 26)) % 256)] from rfl) (Reps.none _ _)))
                                  intro v102 w11 ho12 hb hg_ hnew_
                                  clear hg_ hnew_
                                  (first | rw [← Ny101.out] at ho12 | (simp only [Int.reduceToNat] at ho12; rw [← Ny101.out] at ho12))
                                  have n0_ := Aside0.mk (Kd.R_elder' (by (with_reducible repeat (first | apply Kd.R_alloc | apply Kd.R_drewN | apply Kd.R_drew)); exact HO107.out) (Kd.R_base ho12) hb)
                                  have n1_ := Aside0.mk (Kd.R_lower (Kd.R_new' ho12 (Kd.R_lt (by (with_reducible repeat (first | apply Kd.R_alloc | apply Kd.R_drewN | apply Kd.R_drew)); exact HO107.out))) (below_size (by repeat (first | (with_reducible first | exact HB.out | apply below_alloc | apply pw_below_drewN | apply below_drew1) | exact HB.out))))
                                  have n2_ := Aside0.mk (below_step (by repeat (first | (with_reducible first | exact HB.out | apply below_alloc | apply pw_below_drewN | apply below_drew1) | exact HB.out)) hb)
                                  clear HO107
                                  clear HB
                                  have HO107 := n0_
                                  have HO103 := n1_
                                  have HB := n2_
                                  clear n0_ n1_ n2_
                                  clear hb ho12
                                  refine hK.out _ _ trivial (fun hHeld => ?_)
                                  clear hK K
                                  refine norm_ (a' := ?_) ?_ ?_
                                  rotate_left
                                  · show Act.put _ (some 18) _ = _
                                    simp only [Act.put, List.setIfInBounds_toArray, List.set_cons_zero, List.set_cons_succ, i64_w, i32_w]
                                    rfl
                                  exact norm_ (by first | (simp only [putAll, Act.put, List.setIfInBounds_toArray, List.set_cons_zero, List.set_cons_succ]; done) | (simp only [putAll, Act.put, List.setIfInBounds_toArray, List.set_cons_zero, List.set_cons_succ]; rfl)) (hJ1_7 (v102, v106) _ ⟨(by (with_reducible repeat (first | apply Kd.R_alloc | apply Kd.R_drewN | apply Kd.R_drew)); exact Kd.R_mono HO103.out (fun _ hk => hk.2)), (by (with_reducible repeat (first | apply Kd.R_alloc | apply Kd.R_drewN | apply Kd.R_drew)); exact Kd.R_mono HO107.out (fun _ hk => hk.2)), (by repeat (first | (with_reducible first | exact HB.out | apply below_alloc | apply pw_below_drewN | apply below_drew1) | exact HB.out))⟩)
                                · skip
                                  have hcv11 := own_string (P := Tryd.prog) Tryd.underlying48 Tryd.underlying5 Tryd.underlying9 (Kd.own_of_R HO107.out)
                                  refine value_ (w1 := ?_) (v := ?_) (by rfl) rfl ?_ ?_
                                  rotate_left 2
                                  · go_simp
                                    constructor
                                    · rfl
                                    · rfl
                                  clear hcv11
                                  refine hK.out _ _ trivial (fun hHeld => ?_)
                                  clear hK K
                                  refine norm_ (a' := ?_) ?_ ?_
                                  rotate_left
                                  · show Act.put _ (some 25) _ = _
                                    simp only [Act.put, List.setIfInBounds_toArray, List.set_cons_zero, List.set_cons_succ, i64_w, i32_w]
                                    rfl
                                  refine pure_ (i := 9) (N := some 26) (v := ?_) (a' := ?_) #[true, false, false, false, true, true, true, true, true, true, false, false] rfl rfl (any_of HT_.out (by kernel_rfl)) (fun _ _ _ h => h) (Or.inl ⟨by rfl, ?_⟩) ?_ ?_
                                  rotate_left
                                  · intro w'
                                    go_simp
                                    with_reducible rfl
                                  rotate_left
                                  · simp only [Act.put, List.setIfInBounds_toArray, List.set_cons_zero, List.set_cons_succ, i64_w, i32_w]
                                    rfl
                                  exact norm_ (by first | (simp only [putAll, Act.put, List.setIfInBounds_toArray, List.set_cons_zero, List.set_cons_succ]; done) | (simp only [putAll, Act.put, List.setIfInBounds_toArray, List.set_cons_zero, List.set_cons_succ]; rfl)) (hJ7_8 (v106) _ ⟨(by (with_reducible repeat (first | apply Kd.R_alloc | apply Kd.R_drewN | apply Kd.R_drew)); exact HO107.out), (by repeat (first | (with_reducible first | exact HB.out | apply below_alloc | apply pw_below_drewN | apply below_drew1) | exact HB.out))⟩)
                            · skip
                              rintro v102 w10 ⟨h0_, h1_⟩
                              have n0_ : Aside0 (Kd.R (Kd.int .u8) 5 w10 w.heap.size (fun _ => True) v102 y101) := ⟨h0_⟩
                              have n1_ : Aside0 (Below w.heap.size w w10) := ⟨h1_⟩
                              clear HB
                              clear h0_ h1_
                              have HO103 := n0_
                              have HB := n1_
                              clear n0_ n1_
                              have hHeld := trivial
                              refine norm_ (a' := ?_) ?_ ?_
                              rotate_left
                              · simp only [putAll, Act.put, List.setIfInBounds_toArray, List.set_cons_zero, List.set_cons_succ]
                                rfl
                              refine two_ (i := 2) (j := 7) (Ni := some 19) (Nj := some 24) #[true, true, true, false, true, true, true, false, false, false, false, false] #[true, true, false, false, true, true, true, true, false, false, false, false] rfl rfl rfl rfl (two_of HT_.out (by kernel_rfl)) (by decide) (by decide) (fun K hK => ?_) (fun K hK => ?_)
                              · skip
                                have hcv11 := own_string (P := Tryd.prog) Tryd.underlying48 Tryd.underlying5 Tryd.underlying9 (Kd.own_of_R HO103.out)
                                refine value_ (w1 := ?_) (v := ?_) (by rfl) rfl ?_ ?_
                                rotate_left 2
                                · go_simp
                                  constructor
                                  · rfl
                                  · rfl
                                clear hcv11
                                refine hK.out _ _ trivial (fun hHeld => ?_)
                                clear hK K
                                refine norm_ (a' := ?_) ?_ ?_
                                rotate_left
                                · show Act.put _ (some 19) _ = _
                                  simp only [Act.put, List.setIfInBounds_toArray, List.set_cons_zero, List.set_cons_succ, i64_w, i32_w]
                                  rfl
                                exact norm_ (by first | (simp only [putAll, Act.put, List.setIfInBounds_toArray, List.set_cons_zero, List.set_cons_succ]; done) | (simp only [putAll, Act.put, List.setIfInBounds_toArray, List.set_cons_zero, List.set_cons_succ]; rfl)) (hJ1_2 (v102) _ ⟨(by (with_reducible repeat (first | apply Kd.R_alloc | apply Kd.R_drewN | apply Kd.R_drew)); exact HO103.out), (by repeat (first | (with_reducible first | exact HB.out | apply below_alloc | apply pw_below_drewN | apply below_drew1) | exact HB.out))⟩)
                              · skip
                                refine Kd.R_lit_step (Kd.int .u8) _ 5 ?hg (N := 24) ?hd (xs := ([(((65 + ((1 + (Int.tmod a0 26)) % 256)) % 256) - 1) % 256] : List Int)) (inner := [.int .u8 ((((65 + ((1 + (Int.tmod a0 26)) % 256)) % 256) - 1) % 256)]) (ok := fun _ => True) (okp := fun _ => True) ?hr ?hp (fun _ hk => hk) trivial (Below.refl _ _) (Nat.le_refl _) (by simp) ?_; (case hd => rfl); (case hg => rfl); (case hr => first | (go_simp; done) | (go_simp; rfl) | (go_simp; refine congrArg (fun z => World.alloc _ (Obj.cells #[Value.int IntKind.u8 z] 5)) ?_; have u8w : ∀ x : Int, IntKind.u8.wrap x = x % 256 := (fun x => by unfold IntKind.wrap; simp [IntKind.bits, IntKind.signed]); simp only [u8w]; generalize Int.tmod a0 26 = t_; omega)); (case hp => exact (Reps.one (show Kd.M (Kd.int .u8) _ _ _ ((((65 + ((1 + (Int.tmod a0 26)) % 256)) % 256) - 1) % 256) [.int .u8 ((((65 + ((1 + (Int.tmod a0 26)) % 256)) % 256) - 1) % 256)] from rfl) (Reps.none _ _)))
                                intro v106 w11 ho12 hb hg_ hnew_
                                clear hg_ hnew_
                                (first | rw [← Ny105.out] at ho12 | (simp only [Int.reduceToNat] at ho12; rw [← Ny105.out] at ho12))
                                have n0_ := Aside0.mk (Kd.R_elder' (by (with_reducible repeat (first | apply Kd.R_alloc | apply Kd.R_drewN | apply Kd.R_drew)); exact HO103.out) (Kd.R_base ho12) hb)
                                have n1_ := Aside0.mk (Kd.R_lower (Kd.R_new' ho12 (Kd.R_lt (by (with_reducible repeat (first | apply Kd.R_alloc | apply Kd.R_drewN | apply Kd.R_drew)); exact HO103.out))) (below_size (by repeat (first | (with_reducible first | exact HB.out | apply below_alloc | apply pw_below_drewN | apply below_drew1) | exact HB.out))))
                                have n2_ := Aside0.mk (below_step (by repeat (first | (with_reducible first | exact HB.out | apply below_alloc | apply pw_below_drewN | apply below_drew1) | exact HB.out)) hb)
                                clear HO103
                                clear HB
                                have HO103 := n0_
                                have HO107 := n1_
                                have HB := n2_
                                clear n0_ n1_ n2_
                                clear hb ho12
                                refine hK.out _ _ trivial (fun hHeld => ?_)
                                clear hK K
                                refine norm_ (a' := ?_) ?_ ?_
                                rotate_left
                                · show Act.put _ (some 24) _ = _
                                  simp only [Act.put, List.setIfInBounds_toArray, List.set_cons_zero, List.set_cons_succ, i64_w, i32_w]
                                  rfl
                                exact norm_ (by first | (simp only [putAll, Act.put, List.setIfInBounds_toArray, List.set_cons_zero, List.set_cons_succ]; done) | (simp only [putAll, Act.put, List.setIfInBounds_toArray, List.set_cons_zero, List.set_cons_succ]; rfl)) (hJ1_7 (v102, v106) _ ⟨(by (with_reducible repeat (first | apply Kd.R_alloc | apply Kd.R_drewN | apply Kd.R_drew)); exact Kd.R_mono HO103.out (fun _ hk => hk.2)), (by (with_reducible repeat (first | apply Kd.R_alloc | apply Kd.R_drewN | apply Kd.R_drew)); exact Kd.R_mono HO107.out (fun _ hk => hk.2)), (by repeat (first | (with_reducible first | exact HB.out | apply below_alloc | apply pw_below_drewN | apply below_drew1) | exact HB.out))⟩)
                          · skip
                            rintro v106 w11 ⟨h0_, h1_⟩
                            have n0_ : Aside0 (Kd.R (Kd.int .u8) 5 w11 w.heap.size (fun _ => True) v106 y105) := ⟨h0_⟩
                            have n1_ : Aside0 (Below w.heap.size w w11) := ⟨h1_⟩
                            clear HB
                            clear h0_ h1_
                            have HO107 := n0_
                            have HB := n1_
                            clear n0_ n1_
                            have hHeld := trivial
                            refine norm_ (a' := ?_) ?_ ?_
                            rotate_left
                            · simp only [putAll, Act.put, List.setIfInBounds_toArray, List.set_cons_zero, List.set_cons_succ]
                              rfl
                            refine one_ (i := 1) (N := some 18) #[true, true, false, false, true, true, true, true, true, true, false, false] rfl rfl (one_of HT_.out (by kernel_rfl)) (by decide) (fun K hK => ?_)
                            refine Kd.R_lit_step (Kd.int .u8) _ 5 ?hg (N := 18) ?hd (xs := ([(1 + (Int.tmod a0 26)) % 256] : List Int)) (inner := [.int .u8 ((1 + (Int.tmod a0 26)) % 256)]) (ok := fun _ => True) (okp := fun _ => True) ?hr ?hp (fun _ hk => hk) trivial (Below.refl _ _) (Nat.le_refl _) (by simp) ?_; (case hd => rfl); (case hg => rfl); (case hr => first | (go_simp; done) | (go_simp; rfl) | (go_simp; refine congrArg (fun z => World.alloc _ (Obj.cells #[Value.int IntKind.u8 z] 5)) ?_; have u8w : ∀ x : Int, IntKind.u8.wrap x = x % 256 := (fun x => by unfold IntKind.wrap; simp [IntKind.bits, IntKind.signed]); simp only [u8w]; generalize Int.tmod a0 26 = t_; omega)); (case hp => exact (Reps.one (show Kd.M (Kd.int .u8) _ _ _ ((1 + (Int.tmod a0 26)) % 256) [.int .u8 ((1 + (Int.tmod a0 26)) % 256)] from rfl) (Reps.none _ _)))
                            intro v102 w12 ho13 hb hg_ hnew_
                            clear hg_ hnew_
                            (first | rw [← Ny101.out] at ho13 | (simp only [Int.reduceToNat] at ho13; rw [← Ny101.out] at ho13))
                            have n0_ := Aside0.mk (Kd.R_elder' (by (with_reducible repeat (first | apply Kd.R_alloc | apply Kd.R_drewN | apply Kd.R_drew)); exact HO107.out) (Kd.R_base ho13) hb)
                            have n1_ := Aside0.mk (Kd.R_lower (Kd.R_new' ho13 (Kd.R_lt (by (with_reducible repeat (first | apply Kd.R_alloc | apply Kd.R_drewN | apply Kd.R_drew)); exact HO107.out))) (below_size (by repeat (first | (with_reducible first | exact HB.out | apply below_alloc | apply pw_below_drewN | apply below_drew1) | exact HB.out))))
                            have n2_ := Aside0.mk (below_step (by repeat (first | (with_reducible first | exact HB.out | apply below_alloc | apply pw_below_drewN | apply below_drew1) | exact HB.out)) hb)
                            clear HO107
                            clear HB
                            have HO107 := n0_
                            have HO103 := n1_
                            have HB := n2_
                            clear n0_ n1_ n2_
                            clear hb ho13
                            refine hK.out _ _ trivial (fun hHeld => ?_)
                            clear hK K
                            refine norm_ (a' := ?_) ?_ ?_
                            rotate_left
                            · show Act.put _ (some 18) _ = _
                              simp only [Act.put, List.setIfInBounds_toArray, List.set_cons_zero, List.set_cons_succ, i64_w, i32_w]
                              rfl
                            exact norm_ (by first | (simp only [putAll, Act.put, List.setIfInBounds_toArray, List.set_cons_zero, List.set_cons_succ]; done) | (simp only [putAll, Act.put, List.setIfInBounds_toArray, List.set_cons_zero, List.set_cons_succ]; rfl)) (hJ1_7_8 (v102, v106) _ ⟨(by (with_reducible repeat (first | apply Kd.R_alloc | apply Kd.R_drewN | apply Kd.R_drew)); exact Kd.R_mono HO103.out (fun _ hk => hk.2)), (by (with_reducible repeat (first | apply Kd.R_alloc | apply Kd.R_drewN | apply Kd.R_drew)); exact Kd.R_mono HO107.out (fun _ hk => hk.2)), (by repeat (first | (with_reducible first | exact HB.out | apply below_alloc | apply pw_below_drewN | apply below_drew1) | exact HB.out))⟩)
                        · skip
                          rintro ⟨v102, v106⟩ w12 ⟨h0_, h1_, h2_⟩
                          have n0_ : Aside0 (Kd.R (Kd.int .u8) 5 w12 w.heap.size (fun k_ => some k_ ≠ (v106 : Value).ownBlock) v102 y101) := ⟨h0_⟩
                          have n1_ : Aside0 (Kd.R (Kd.int .u8) 5 w12 w.heap.size (fun k_ => some k_ ≠ (v102 : Value).ownBlock) v106 y105) := ⟨h1_⟩
                          have n2_ : Aside0 (Below w.heap.size w w12) := ⟨h2_⟩
                          clear HB
                          clear h0_ h1_ h2_
                          have HO103 := n0_
                          have HO107 := n1_
                          have HB := n2_
                          clear n0_ n1_ n2_
                          have hHeld := trivial
                          refine norm_ (a' := ?_) ?_ ?_
                          rotate_left
                          · simp only [putAll, Act.put, List.setIfInBounds_toArray, List.set_cons_zero, List.set_cons_succ]
                            rfl
                          refine two_ (i := 2) (j := 8) (Ni := some 19) (Nj := some 25) #[true, true, true, false, true, true, true, true, false, false, false, false] #[true, true, false, false, true, true, true, true, true, false, false, false] rfl rfl rfl rfl (two_of HT_.out (by kernel_rfl)) (by decide) (by decide) (fun K hK => ?_) (fun K hK => ?_)
                          · skip
                            have hcv13 := own_string (P := Tryd.prog) Tryd.underlying48 Tryd.underlying5 Tryd.underlying9 (Kd.own_of_R HO103.out)
                            refine value_ (w1 := ?_) (v := ?_) (by rfl) rfl ?_ ?_
                            rotate_left 2
                            · go_simp
                              constructor
                              · rfl
                              · rfl
                            clear hcv13
                            refine hK.out _ _ trivial (fun hHeld => ?_)
                            clear hK K
                            refine norm_ (a' := ?_) ?_ ?_
                            rotate_left
                            · show Act.put _ (some 19) _ = _
                              simp only [Act.put, List.setIfInBounds_toArray, List.set_cons_zero, List.set_cons_succ, i64_w, i32_w]
                              rfl
                            exact norm_ (by first | (simp only [putAll, Act.put, List.setIfInBounds_toArray, List.set_cons_zero, List.set_cons_succ]; done) | (simp only [putAll, Act.put, List.setIfInBounds_toArray, List.set_cons_zero, List.set_cons_succ]; rfl)) (hJ1_2_7 (v102, v106) _ ⟨(by (with_reducible repeat (first | apply Kd.R_alloc | apply Kd.R_drewN | apply Kd.R_drew)); exact HO103.out), (by (with_reducible repeat (first | apply Kd.R_alloc | apply Kd.R_drewN | apply Kd.R_drew)); exact HO107.out), (by repeat (first | (with_reducible first | exact HB.out | apply below_alloc | apply pw_below_drewN | apply below_drew1) | exact HB.out))⟩)
                          · skip
                            have hcv13 := own_string (P := Tryd.prog) Tryd.underlying48 Tryd.underlying5 Tryd.underlying9 (Kd.own_of_R HO107.out)
                            refine value_ (w1 := ?_) (v := ?_) (by rfl) rfl ?_ ?_
                            rotate_left 2
                            · go_simp
                              constructor
                              · rfl
                              · rfl
                            clear hcv13
                            refine hK.out _ _ trivial (fun hHeld => ?_)
                            clear hK K
                            refine norm_ (a' := ?_) ?_ ?_
                            rotate_left
                            · show Act.put _ (some 25) _ = _
                              simp only [Act.put, List.setIfInBounds_toArray, List.set_cons_zero, List.set_cons_succ, i64_w, i32_w]
                              rfl
                            refine pure_ (i := 9) (N := some 26) (v := ?_) (a' := ?_) #[true, true, false, false, true, true, true, true, true, true, false, false] rfl rfl (any_of HT_.out (by kernel_rfl)) (fun _ _ _ h => h) (Or.inl ⟨by rfl, ?_⟩) ?_ ?_
                            rotate_left
                            · intro w'
                              go_simp
                              with_reducible rfl
                            rotate_left
                            · simp only [Act.put, List.setIfInBounds_toArray, List.set_cons_zero, List.set_cons_succ, i64_w, i32_w]
                              rfl
                            exact norm_ (by first | (simp only [putAll, Act.put, List.setIfInBounds_toArray, List.set_cons_zero, List.set_cons_succ]; done) | (simp only [putAll, Act.put, List.setIfInBounds_toArray, List.set_cons_zero, List.set_cons_succ]; rfl)) (hJ1_7_8 (v102, v106) _ ⟨(by (with_reducible repeat (first | apply Kd.R_alloc | apply Kd.R_drewN | apply Kd.R_drew)); exact HO103.out), (by (with_reducible repeat (first | apply Kd.R_alloc | apply Kd.R_drewN | apply Kd.R_drew)); exact HO107.out), (by repeat (first | (with_reducible first | exact HB.out | apply below_alloc | apply pw_below_drewN | apply below_drew1) | exact HB.out))⟩)
                      · skip
                        rintro v102 w11 ⟨h0_, h1_⟩
                        have n0_ : Aside0 (Kd.R (Kd.int .u8) 5 w11 w.heap.size (fun _ => True) v102 y101) := ⟨h0_⟩
                        have n1_ : Aside0 (Below w.heap.size w w11) := ⟨h1_⟩
                        clear HB
                        clear h0_ h1_
                        have HO103 := n0_
                        have HB := n1_
                        clear n0_ n1_
                        have hHeld := trivial
                        refine norm_ (a' := ?_) ?_ ?_
                        rotate_left
                        · simp only [putAll, Act.put, List.setIfInBounds_toArray, List.set_cons_zero, List.set_cons_succ]
                          rfl
                        refine two_ (i := 3) (j := 7) (Ni := some 20) (Nj := some 24) #[true, true, true, true, true, true, true, false, false, false, false, false] #[true, true, true, false, true, true, true, true, false, false, false, false] rfl rfl rfl rfl (two_of HT_.out (by kernel_rfl)) (by decide) (by decide) (fun K hK => ?_) (fun K hK => ?_)
                        · skip
                          refine goes_ Tryd.func32 (by kernel_rfl) rfl #[.string (strOfNums y101)] (by rfl) rfl rfl (by (try simp only [List.map_toArray, List.map_cons, List.map_nil]); first | done | rfl | (simp only [List.length_drop, List.length_take]; rfl) | (simp only [Int.toNat_natCast, ByteArray.extract_zero_size]; rfl)) ?_
                          with_reducible refine (impl_KeyOf.calls (strOfNums y101) t104 _ A5.out (HTT.out.below (by repeat (first | (with_reducible first | exact HB.out | apply below_alloc | apply pw_below_drewN | apply below_drew1) | exact HB.out)))).mono ?_
                          rintro e w12 ⟨rfl, hb⟩
                          refine ⟨_, rfl, ?_⟩
                          have n0_ := Aside0.mk (Kd.R_below (by (with_reducible repeat (first | apply Kd.R_alloc | apply Kd.R_drewN | apply Kd.R_drew)); exact HO103.out) hb)
                          have n1_ := Aside0.mk (below_step (by repeat (first | (with_reducible first | exact HB.out | apply below_alloc | apply pw_below_drewN | apply below_drew1) | exact HB.out)) hb)
                          clear HO103
                          clear HB
                          have HO103 := n0_
                          have HB := n1_
                          clear n0_ n1_
                          (try clear hb)
                          (try clear hb2)
                          (try clear hk)
                          (try clear hi)
                          refine hK.out _ _ trivial (fun hHeld => ?_)
                          clear hK K
                          refine norm_ (a' := ?_) ?_ ?_
                          rotate_left
                          · show Act.put _ (some 20) _ = _
                            simp only [Act.put, List.setIfInBounds_toArray, List.set_cons_zero, List.set_cons_succ, i64_w, i32_w]
                            rfl
                          exact norm_ (by first | (simp only [putAll, Act.put, List.setIfInBounds_toArray, List.set_cons_zero, List.set_cons_succ]; done) | (simp only [putAll, Act.put, List.setIfInBounds_toArray, List.set_cons_zero, List.set_cons_succ]; rfl)) (hJ1_2_3 (v102) _ ⟨(by (with_reducible repeat (first | apply Kd.R_alloc | apply Kd.R_drewN | apply Kd.R_drew)); exact HO103.out), (by repeat (first | (with_reducible first | exact HB.out | apply below_alloc | apply pw_below_drewN | apply below_drew1) | exact HB.out))⟩)
                        · skip
                          refine Kd.R_lit_step (Kd.int .u8) _ 5 ?hg (N := 24) ?hd (xs := ([(((65 + ((1 + (Int.tmod a0 26)) % 256)) % 256) - 1) % 256] : List Int)) (inner := [.int .u8 ((((65 + ((1 + (Int.tmod a0 26)) % 256)) % 256) - 1) % 256)]) (ok := fun _ => True) (okp := fun _ => True) ?hr ?hp (fun _ hk => hk) trivial (Below.refl _ _) (Nat.le_refl _) (by simp) ?_; (case hd => rfl); (case hg => rfl); (case hr => first | (go_simp; done) | (go_simp; rfl) | (go_simp; refine congrArg (fun z => World.alloc _ (Obj.cells #[Value.int IntKind.u8 z] 5)) ?_; have u8w : ∀ x : Int, IntKind.u8.wrap x = x % 256 := (fun x => by unfold IntKind.wrap; simp [IntKind.bits, IntKind.signed]); simp only [u8w]; generalize Int.tmod a0 26 = t_; omega)); (case hp => exact (Reps.one (show Kd.M (Kd.int .u8) _ _ _ ((((65 + ((1 + (Int.tmod a0 26)) % 256)) % 256) - 1) % 256) [.int .u8 ((((65 + ((1 + (Int.tmod a0 26)) % 256)) % 256) - 1) % 256)] from rfl) (Reps.none _ _)))
                          intro v106 w12 ho13 hb hg_ hnew_
                          clear hg_ hnew_
                          (first | rw [← Ny105.out] at ho13 | (simp only [Int.reduceToNat] at ho13; rw [← Ny105.out] at ho13))
                          have n0_ := Aside0.mk (Kd.R_elder' (by (with_reducible repeat (first | apply Kd.R_alloc | apply Kd.R_drewN | apply Kd.R_drew)); exact HO103.out) (Kd.R_base ho13) hb)
                          have n1_ := Aside0.mk (Kd.R_lower (Kd.R_new' ho13 (Kd.R_lt (by (with_reducible repeat (first | apply Kd.R_alloc | apply Kd.R_drewN | apply Kd.R_drew)); exact HO103.out))) (below_size (by repeat (first | (with_reducible first | exact HB.out | apply below_alloc | apply pw_below_drewN | apply below_drew1) | exact HB.out))))
                          have n2_ := Aside0.mk (below_step (by repeat (first | (with_reducible first | exact HB.out | apply below_alloc | apply pw_below_drewN | apply below_drew1) | exact HB.out)) hb)
                          clear HO103
                          clear HB
                          have HO103 := n0_
                          have HO107 := n1_
                          have HB := n2_
                          clear n0_ n1_ n2_
                          clear hb ho13
                          refine hK.out _ _ trivial (fun hHeld => ?_)
                          clear hK K
                          refine norm_ (a' := ?_) ?_ ?_
                          rotate_left
                          · show Act.put _ (some 24) _ = _
                            simp only [Act.put, List.setIfInBounds_toArray, List.set_cons_zero, List.set_cons_succ, i64_w, i32_w]
                            rfl
                          exact norm_ (by first | (simp only [putAll, Act.put, List.setIfInBounds_toArray, List.set_cons_zero, List.set_cons_succ]; done) | (simp only [putAll, Act.put, List.setIfInBounds_toArray, List.set_cons_zero, List.set_cons_succ]; rfl)) (hJ1_2_7 (v102, v106) _ ⟨(by (with_reducible repeat (first | apply Kd.R_alloc | apply Kd.R_drewN | apply Kd.R_drew)); exact Kd.R_mono HO103.out (fun _ hk => hk.2)), (by (with_reducible repeat (first | apply Kd.R_alloc | apply Kd.R_drewN | apply Kd.R_drew)); exact Kd.R_mono HO107.out (fun _ hk => hk.2)), (by repeat (first | (with_reducible first | exact HB.out | apply below_alloc | apply pw_below_drewN | apply below_drew1) | exact HB.out))⟩)
                    · skip
                      rintro ⟨v102, v106⟩ w13 ⟨h0_, h1_, h2_⟩
                      have n0_ : Aside0 (Kd.R (Kd.int .u8) 5 w13 w.heap.size (fun k_ => some k_ ≠ (v106 : Value).ownBlock) v102 y101) := ⟨h0_⟩
                      have n1_ : Aside0 (Kd.R (Kd.int .u8) 5 w13 w.heap.size (fun k_ => some k_ ≠ (v102 : Value).ownBlock) v106 y105) := ⟨h1_⟩
                      have n2_ : Aside0 (Below w.heap.size w w13) := ⟨h2_⟩
                      clear HB
                      clear h0_ h1_ h2_
                      have HO103 := n0_
                      have HO107 := n1_
                      have HB := n2_
                      clear n0_ n1_ n2_
                      have hHeld := trivial
                      refine norm_ (a' := ?_) ?_ ?_
                      rotate_left
                      · simp only [putAll, Act.put, List.setIfInBounds_toArray, List.set_cons_zero, List.set_cons_succ]
                        rfl
                      refine one_ (i := 2) (N := some 19) #[true, true, true, false, true, true, true, true, true, true, false, false] rfl rfl (one_of HT_.out (by kernel_rfl)) (by decide) (fun K hK => ?_)
                      have hcv14 := own_string (P := Tryd.prog) Tryd.underlying48 Tryd.underlying5 Tryd.underlying9 (Kd.own_of_R HO103.out)
                      refine value_ (w1 := ?_) (v := ?_) (by rfl) rfl ?_ ?_
                      rotate_left 2
                      · go_simp
                        constructor
                        · rfl
                        · rfl
                      clear hcv14
                      refine hK.out _ _ trivial (fun hHeld => ?_)
                      clear hK K
                      refine norm_ (a' := ?_) ?_ ?_
                      rotate_left
                      · show Act.put _ (some 19) _ = _
                        simp only [Act.put, List.setIfInBounds_toArray, List.set_cons_zero, List.set_cons_succ, i64_w, i32_w]
                        rfl
                      exact norm_ (by first | (simp only [putAll, Act.put, List.setIfInBounds_toArray, List.set_cons_zero, List.set_cons_succ]; done) | (simp only [putAll, Act.put, List.setIfInBounds_toArray, List.set_cons_zero, List.set_cons_succ]; rfl)) (hJ1_2_7_8 (v102, v106) _ ⟨(by (with_reducible repeat (first | apply Kd.R_alloc | apply Kd.R_drewN | apply Kd.R_drew)); exact HO103.out), (by (with_reducible repeat (first | apply Kd.R_alloc | apply Kd.R_drewN | apply Kd.R_drew)); exact HO107.out), (by repeat (first | (with_reducible first | exact HB.out | apply below_alloc | apply pw_below_drewN | apply below_drew1) | exact HB.out))⟩)
                  · skip
                    rintro ⟨v102, v106⟩ w13 ⟨h0_, h1_, h2_⟩
                    have n0_ : Aside0 (Kd.R (Kd.int .u8) 5 w13 w.heap.size (fun k_ => some k_ ≠ (v106 : Value).ownBlock) v102 y101) := ⟨h0_⟩
                    have n1_ : Aside0 (Kd.R (Kd.int .u8) 5 w13 w.heap.size (fun k_ => some k_ ≠ (v102 : Value).ownBlock) v106 y105) := ⟨h1_⟩
                    have n2_ : Aside0 (Below w.heap.size w w13) := ⟨h2_⟩
                    clear HB
                    clear h0_ h1_ h2_
                    have HO103 := n0_
                    have HO107 := n1_
                    have HB := n2_
                    clear n0_ n1_ n2_
                    have hHeld := trivial
                    refine norm_ (a' := ?_) ?_ ?_
                    rotate_left
                    · simp only [putAll, Act.put, List.setIfInBounds_toArray, List.set_cons_zero, List.set_cons_succ]
                      rfl
                    refine two_ (i := 3) (j := 8) (Ni := some 20) (Nj := some 25) #[true, true, true, true, true, true, true, true, false, false, false, false] #[true, true, true, false, true, true, true, true, true, false, false, false] rfl rfl rfl rfl (two_of HT_.out (by kernel_rfl)) (by decide) (by decide) (fun K hK => ?_) (fun K hK => ?_)
                    · skip
                      refine goes_ Tryd.func32 (by kernel_rfl) rfl #[.string (strOfNums y101)] (by rfl) rfl rfl (by (try simp only [List.map_toArray, List.map_cons, List.map_nil]); first | done | rfl | (simp only [List.length_drop, List.length_take]; rfl) | (simp only [Int.toNat_natCast, ByteArray.extract_zero_size]; rfl)) ?_
                      with_reducible refine (impl_KeyOf.calls (strOfNums y101) t104 _ A5.out (HTT.out.below (by repeat (first | (with_reducible first | exact HB.out | apply below_alloc | apply pw_below_drewN | apply below_drew1) | exact HB.out)))).mono ?_
                      rintro e w14 ⟨rfl, hb⟩
                      refine ⟨_, rfl, ?_⟩
                      have n0_ := Aside0.mk (Kd.R_below (by (with_reducible repeat (first | apply Kd.R_alloc | apply Kd.R_drewN | apply Kd.R_drew)); exact HO103.out) hb)
                      have n1_ := Aside0.mk (Kd.R_below (by (with_reducible repeat (first | apply Kd.R_alloc | apply Kd.R_drewN | apply Kd.R_drew)); exact HO107.out) hb)
                      have n2_ := Aside0.mk (below_step (by repeat (first | (with_reducible first | exact HB.out | apply below_alloc | apply pw_below_drewN | apply below_drew1) | exact HB.out)) hb)
                      clear HO103
                      clear HO107
                      clear HB
                      have HO103 := n0_
                      have HO107 := n1_
                      have HB := n2_
                      clear n0_ n1_ n2_
                      (try clear hb)
                      (try clear hb2)
                      (try clear hk)
                      (try clear hi)
                      refine hK.out _ _ trivial (fun hHeld => ?_)
                      clear hK K
                      refine norm_ (a' := ?_) ?_ ?_
                      rotate_left
                      · show Act.put _ (some 20) _ = _
                        simp only [Act.put, List.setIfInBounds_toArray, List.set_cons_zero, List.set_cons_succ, i64_w, i32_w]
                        rfl
                      exact norm_ (by first | (simp only [putAll, Act.put, List.setIfInBounds_toArray, List.set_cons_zero, List.set_cons_succ]; done) | (simp only [putAll, Act.put, List.setIfInBounds_toArray, List.set_cons_zero, List.set_cons_succ]; rfl)) (hJ1_2_3_7 (v102, v106) _ ⟨(by (with_reducible repeat (first | apply Kd.R_alloc | apply Kd.R_drewN | apply Kd.R_drew)); exact HO103.out), (by (with_reducible repeat (first | apply Kd.R_alloc | apply Kd.R_drewN | apply Kd.R_drew)); exact HO107.out), (by repeat (first | (with_reducible first | exact HB.out | apply below_alloc | apply pw_below_drewN | apply below_drew1) | exact HB.out))⟩)
                    · skip
                      have hcv14 := own_string (P := Tryd.prog) Tryd.underlying48 Tryd.underlying5 Tryd.underlying9 (Kd.own_of_R HO107.out)
                      refine value_ (w1 := ?_) (v := ?_) (by rfl) rfl ?_ ?_
                      rotate_left 2
                      · go_simp
                        constructor
                        · rfl
                        · rfl
                      clear hcv14
                      refine hK.out _ _ trivial (fun hHeld => ?_)
                      clear hK K
                      refine norm_ (a' := ?_) ?_ ?_
                      rotate_left
                      · show Act.put _ (some 25) _ = _
                        simp only [Act.put, List.setIfInBounds_toArray, List.set_cons_zero, List.set_cons_succ, i64_w, i32_w]
                        rfl
                      refine pure_ (i := 9) (N := some 26) (v := ?_) (a' := ?_) #[true, true, true, false, true, true, true, true, true, true, false, false] rfl rfl (any_of HT_.out (by kernel_rfl)) (fun _ _ _ h => h) (Or.inl ⟨by rfl, ?_⟩) ?_ ?_
                      rotate_left
                      · intro w'
                        go_simp
                        with_reducible rfl
                      rotate_left
                      · simp only [Act.put, List.setIfInBounds_toArray, List.set_cons_zero, List.set_cons_succ, i64_w, i32_w]
                        rfl
                      exact norm_ (by first | (simp only [putAll, Act.put, List.setIfInBounds_toArray, List.set_cons_zero, List.set_cons_succ]; done) | (simp only [putAll, Act.put, List.setIfInBounds_toArray, List.set_cons_zero, List.set_cons_succ]; rfl)) (hJ1_2_7_8 (v102, v106) _ ⟨(by (with_reducible repeat (first | apply Kd.R_alloc | apply Kd.R_drewN | apply Kd.R_drew)); exact HO103.out), (by (with_reducible repeat (first | apply Kd.R_alloc | apply Kd.R_drewN | apply Kd.R_drew)); exact HO107.out), (by repeat (first | (with_reducible first | exact HB.out | apply below_alloc | apply pw_below_drewN | apply below_drew1) | exact HB.out))⟩)
                · skip
                  rintro v102 w12 ⟨h0_, h1_⟩
                  have n0_ : Aside0 (Kd.R (Kd.int .u8) 5 w12 w.heap.size (fun _ => True) v102 y101) := ⟨h0_⟩
                  have n1_ : Aside0 (Below w.heap.size w w12) := ⟨h1_⟩
                  clear HB
                  clear h0_ h1_
                  have HO103 := n0_
                  have HB := n1_
                  clear n0_ n1_
                  have hHeld := trivial
                  refine norm_ (a' := ?_) ?_ ?_
                  rotate_left
                  · simp only [putAll, Act.put, List.setIfInBounds_toArray, List.set_cons_zero, List.set_cons_succ]
                    rfl
                  refine one_ (i := 7) (N := some 24) #[true, true, true, true, true, true, true, true, false, false, false, false] rfl rfl (one_of HT_.out (by kernel_rfl)) (by decide) (fun K hK => ?_)
                  refine Kd.R_lit_step (Kd.int .u8) _ 5 ?hg (N := 24) ?hd (xs := ([(((65 + ((1 + (Int.tmod a0 26)) % 256)) % 256) - 1) % 256] : List Int)) (inner := [.int .u8 ((((65 + ((1 + (Int.tmod a0 26)) % 256)) % 256) - 1) % 256)]) (ok := fun _ => True) (okp := fun _ => True) ?hr ?hp (fun _ hk => hk) trivial (Below.refl _ _) (Nat.le_refl _) (by simp) ?_; (case hd => rfl); (case hg => rfl); (case hr => first | (go_simp; done) | (go_simp; rfl) | (go_simp; refine congrArg (fun z => World.alloc _ (Obj.cells #[Value.int IntKind.u8 z] 5)) ?_; have u8w : ∀ x : Int, IntKind.u8.wrap x = x % 256 := (fun x => by unfold IntKind.wrap; simp [IntKind.bits, IntKind.signed]); simp only [u8w]; generalize Int.tmod a0 26 = t_; omega)); (case hp => exact (Reps.one (show Kd.M (Kd.int .u8) _ _ _ ((((65 + ((1 + (Int.tmod a0 26)) % 256)) % 256) - 1) % 256) [.int .u8 ((((65 + ((1 + (Int.tmod a0 26)) % 256)) % 256) - 1) % 256)] from rfl) (Reps.none _ _)))
                  intro v106 w13 ho14 hb hg_ hnew_
                  clear hg_ hnew_
                  (first | rw [← Ny105.out] at ho14 | (simp only [Int.reduceToNat] at ho14; rw [← Ny105.out] at ho14))
                  have n0_ := Aside0.mk (Kd.R_elder' (by (with_reducible repeat (first | apply Kd.R_alloc | apply Kd.R_drewN | apply Kd.R_drew)); exact HO103.out) (Kd.R_base ho14) hb)
                  have n1_ := Aside0.mk (Kd.R_lower (Kd.R_new' ho14 (Kd.R_lt (by (with_reducible repeat (first | apply Kd.R_alloc | apply Kd.R_drewN | apply Kd.R_drew)); exact HO103.out))) (below_size (by repeat (first | (with_reducible first | exact HB.out | apply below_alloc | apply pw_below_drewN | apply below_drew1) | exact HB.out))))
                  have n2_ := Aside0.mk (below_step (by repeat (first | (with_reducible first | exact HB.out | apply below_alloc | apply pw_below_drewN | apply below_drew1) | exact HB.out)) hb)
                  clear HO103
                  clear HB
                  have HO103 := n0_
                  have HO107 := n1_
                  have HB := n2_
                  clear n0_ n1_ n2_
                  clear hb ho14
                  refine hK.out _ _ trivial (fun hHeld => ?_)
                  clear hK K
                  refine norm_ (a' := ?_) ?_ ?_
                  rotate_left
                  · show Act.put _ (some 24) _ = _
                    simp only [Act.put, List.setIfInBounds_toArray, List.set_cons_zero, List.set_cons_succ, i64_w, i32_w]
                    rfl
                  exact norm_ (by first | (simp only [putAll, Act.put, List.setIfInBounds_toArray, List.set_cons_zero, List.set_cons_succ]; done) | (simp only [putAll, Act.put, List.setIfInBounds_toArray, List.set_cons_zero, List.set_cons_succ]; rfl)) (hJ1_2_3_7 (v102, v106) _ ⟨(by (with_reducible repeat (first | apply Kd.R_alloc | apply Kd.R_drewN | apply Kd.R_drew)); exact Kd.R_mono HO103.out (fun _ hk => hk.2)), (by (with_reducible repeat (first | apply Kd.R_alloc | apply Kd.R_drewN | apply Kd.R_drew)); exact Kd.R_mono HO107.out (fun _ hk => hk.2)), (by repeat (first | (with_reducible first | exact HB.out | apply below_alloc | apply pw_below_drewN | apply below_drew1) | exact HB.out))⟩)
              · skip
                rintro ⟨v102, v106⟩ w14 ⟨h0_, h1_, h2_⟩
                have n0_ : Aside0 (Kd.R (Kd.int .u8) 5 w14 w.heap.size (fun k_ => some k_ ≠ (v106 : Value).ownBlock) v102 y101) := ⟨h0_⟩
                have n1_ : Aside0 (Kd.R (Kd.int .u8) 5 w14 w.heap.size (fun k_ => some k_ ≠ (v102 : Value).ownBlock) v106 y105) := ⟨h1_⟩
                have n2_ : Aside0 (Below w.heap.size w w14) := ⟨h2_⟩
                clear HB
                clear h0_ h1_ h2_
                have HO103 := n0_
                have HO107 := n1_
                have HB := n2_
                clear n0_ n1_ n2_
                have hHeld := trivial
                refine norm_ (a' := ?_) ?_ ?_
                rotate_left
                · simp only [putAll, Act.put, List.setIfInBounds_toArray, List.set_cons_zero, List.set_cons_succ]
                  rfl
                refine one_ (i := 3) (N := some 20) #[true, true, true, true, true, true, true, true, true, true, false, false] rfl rfl (one_of HT_.out (by kernel_rfl)) (by decide) (fun K hK => ?_)
                refine goes_ Tryd.func32 (by kernel_rfl) rfl #[.string (strOfNums y101)] (by rfl) rfl rfl (by (try simp only [List.map_toArray, List.map_cons, List.map_nil]); first | done | rfl | (simp only [List.length_drop, List.length_take]; rfl) | (simp only [Int.toNat_natCast, ByteArray.extract_zero_size]; rfl)) ?_
                with_reducible refine (impl_KeyOf.calls (strOfNums y101) t104 _ A5.out (HTT.out.below (by repeat (first | (with_reducible first | exact HB.out | apply below_alloc | apply pw_below_drewN | apply below_drew1) | exact HB.out)))).mono ?_
                rintro e w15 ⟨rfl, hb⟩
                refine ⟨_, rfl, ?_⟩
                have n0_ := Aside0.mk (Kd.R_below (by (with_reducible repeat (first | apply Kd.R_alloc | apply Kd.R_drewN | apply Kd.R_drew)); exact HO103.out) hb)
                have n1_ := Aside0.mk (Kd.R_below (by (with_reducible repeat (first | apply Kd.R_alloc | apply Kd.R_drewN | apply Kd.R_drew)); exact HO107.out) hb)
                have n2_ := Aside0.mk (below_step (by repeat (first | (with_reducible first | exact HB.out | apply below_alloc | apply pw_below_drewN | apply below_drew1) | exact HB.out)) hb)
                clear HO103
                clear HO107
                clear HB
                have HO103 := n0_
                have HO107 := n1_
                have HB := n2_
                clear n0_ n1_ n2_
                (try clear hb)
                (try clear hb2)
                (try clear hk)
                (try clear hi)
                refine hK.out _ _ trivial (fun hHeld => ?_)
                clear hK K
                refine norm_ (a' := ?_) ?_ ?_
                rotate_left
                · show Act.put _ (some 20) _ = _
                  simp only [Act.put, List.setIfInBounds_toArray, List.set_cons_zero, List.set_cons_succ, i64_w, i32_w]
                  rfl
                exact norm_ (by first | (simp only [putAll, Act.put, List.setIfInBounds_toArray, List.set_cons_zero, List.set_cons_succ]; done) | (simp only [putAll, Act.put, List.setIfInBounds_toArray, List.set_cons_zero, List.set_cons_succ]; rfl)) (hJ1_2_3_7_8 (v102, v106) _ ⟨(by (with_reducible repeat (first | apply Kd.R_alloc | apply Kd.R_drewN | apply Kd.R_drew)); exact HO103.out), (by (with_reducible repeat (first | apply Kd.R_alloc | apply Kd.R_drewN | apply Kd.R_drew)); exact HO107.out), (by repeat (first | (with_reducible first | exact HB.out | apply below_alloc | apply pw_below_drewN | apply below_drew1) | exact HB.out))⟩)
            · skip
              rintro ⟨v102, v106⟩ w14 ⟨h0_, h1_, h2_⟩
              have n0_ : Aside0 (Kd.R (Kd.int .u8) 5 w14 w.heap.size (fun k_ => some k_ ≠ (v106 : Value).ownBlock) v102 y101) := ⟨h0_⟩
              have n1_ : Aside0 (Kd.R (Kd.int .u8) 5 w14 w.heap.size (fun k_ => some k_ ≠ (v102 : Value).ownBlock) v106 y105) := ⟨h1_⟩
              have n2_ : Aside0 (Below w.heap.size w w14) := ⟨h2_⟩
              clear HB
              clear h0_ h1_ h2_
              have HO103 := n0_
              have HO107 := n1_
              have HB := n2_
              clear n0_ n1_ n2_
              have hHeld := trivial
              refine norm_ (a' := ?_) ?_ ?_
              rotate_left
              · simp only [putAll, Act.put, List.setIfInBounds_toArray, List.set_cons_zero, List.set_cons_succ]
                rfl
              refine one_ (i := 8) (N := some 25) #[true, true, true, true, true, true, true, true, true, false, false, false] rfl rfl (one_of HT_.out (by kernel_rfl)) (by decide) (fun K hK => ?_)
              have hcv15 := own_string (P := Tryd.prog) Tryd.underlying48 Tryd.underlying5 Tryd.underlying9 (Kd.own_of_R HO107.out)
              refine value_ (w1 := ?_) (v := ?_) (by rfl) rfl ?_ ?_
              rotate_left 2
              · go_simp
                constructor
                · rfl
                · rfl
              clear hcv15
              refine hK.out _ _ trivial (fun hHeld => ?_)
              clear hK K
              refine norm_ (a' := ?_) ?_ ?_
              rotate_left
              · show Act.put _ (some 25) _ = _
                simp only [Act.put, List.setIfInBounds_toArray, List.set_cons_zero, List.set_cons_succ, i64_w, i32_w]
                rfl
              refine pure_ (i := 9) (N := some 26) (v := ?_) (a' := ?_) #[true, true, true, true, true, true, true, true, true, true, false, false] rfl rfl (any_of HT_.out (by kernel_rfl)) (fun _ _ _ h => h) (Or.inl ⟨by rfl, ?_⟩) ?_ ?_
              rotate_left
              · intro w'
                go_simp
                with_reducible rfl
              rotate_left
              · simp only [Act.put, List.setIfInBounds_toArray, List.set_cons_zero, List.set_cons_succ, i64_w, i32_w]
                rfl
              exact norm_ (by first | (simp only [putAll, Act.put, List.setIfInBounds_toArray, List.set_cons_zero, List.set_cons_succ]; done) | (simp only [putAll, Act.put, List.setIfInBounds_toArray, List.set_cons_zero, List.set_cons_succ]; rfl)) (hJ1_2_3_7_8 (v102, v106) _ ⟨(by (with_reducible repeat (first | apply Kd.R_alloc | apply Kd.R_drewN | apply Kd.R_drew)); exact HO103.out), (by (with_reducible repeat (first | apply Kd.R_alloc | apply Kd.R_drewN | apply Kd.R_drew)); exact HO107.out), (by repeat (first | (with_reducible first | exact HB.out | apply below_alloc | apply pw_below_drewN | apply below_drew1) | exact HB.out))⟩)
          rintro ⟨v102, v106⟩ w15 ⟨h0_, h1_, h2_⟩
          have n0_ : Aside0 (Kd.R (Kd.int .u8) 5 w15 w.heap.size (fun k_ => some k_ ≠ (v106 : Value).ownBlock) v102 y101) := ⟨h0_⟩
          have n1_ : Aside0 (Kd.R (Kd.int .u8) 5 w15 w.heap.size (fun k_ => some k_ ≠ (v102 : Value).ownBlock) v106 y105) := ⟨h1_⟩
          have n2_ : Aside0 (Below w.heap.size w w15) := ⟨h2_⟩
          clear HB
          clear h0_ h1_ h2_
          have HO103 := n0_
          have HO107 := n1_
          have HB := n2_
          clear n0_ n1_ n2_
          have hHeld := trivial
          refine norm_ (a' := ?_) ?_ ?_
          rotate_left
          · simp only [putAll, Act.put, List.setIfInBounds_toArray, List.set_cons_zero, List.set_cons_succ]
            rfl
          refine pure_ (i := 10) (N := some 27) (v := ?_) (a' := ?_) #[true, true, true, true, true, true, true, true, true, true, true, false] rfl rfl (any_of HT_.out (by kernel_rfl)) (fun _ _ _ h => h) (Or.inl ⟨by rfl, ?_⟩) ?_ ?_
          rotate_left
          · intro w'
            go_simp
            with_reducible rfl
          rotate_left
          · simp only [Act.put, List.setIfInBounds_toArray, List.set_cons_zero, List.set_cons_succ, i64_w, i32_w]
            rfl
          refine pure_ (i := 11) (N := some 2) (v := ?_) (a' := ?_) #[true, true, true, true, true, true, true, true, true, true, true, true] rfl rfl (any_of HT_.out (by kernel_rfl)) (fun _ _ _ h => h) (Or.inl ⟨by rfl, ?_⟩) ?_ ?_
          rotate_left
          · intro w'
            go_simp
            with_reducible rfl
          rotate_left
          · simp only [Act.put, List.setIfInBounds_toArray, List.set_cons_zero, List.set_cons_succ, i64_w, i32_w]
            rfl
          refine done_ (done_of HT_.out (by kernel_rfl)) ?_
          try go_wp2
          go_ret
          exact ⟨by first | rfl | (simp [errW_none, errW_some] <;> rfl) | (simp [*, errW_none, errW_some] <;> rfl), by repeat (first | (with_reducible first | exact HB.out | apply below_alloc | apply pw_below_drewN | apply below_drew1) | exact HB.out)⟩
        · rw [if_neg c6] at H
          exact absurd H (by simp)
/-- THE ONE PURE STATEMENT of laws_FnKeyControls: yours. -/
def laws_FnKeyControls.Pure : Prop := ∀ (a0 : Int), (Lit.int .u8 a0).wf = true → laws_FnKeyControls.f a0 = some true
theorem laws_FnKeyControls.walk (P : laws_FnKeyControls.Pure) (a0 : Int) (w : World) (w0 : (Lit.int .u8 a0).wf = true) (hT : TabH w) :
    Calls Tryd.prog 9 #[.int .u8 a0] w fun e w' => e = .returned (.bool true) ∧ Below w.heap.size w w' := by
  have h := P a0 w0
  refine (laws_FnKeyControls.calls a0 true w h hT).mono ?_
  rintro e w' ⟨rfl, hd⟩
  exact ⟨rfl, hd⟩
end Go.Proofs.YthbdaoapjnofkaaDoor.PFnKeyControls
