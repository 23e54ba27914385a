/- Printed by a program of this seat (xprint) out of the translation: Go functions as plain functions, and the walks that show them; no condition. -/
import Derived.Test.YthkblefeifdhaaaPFnWordPlacesx0
import Derived.Test.YthkblefeifdhaaaHWords
import Derived.Test.YthkblefeifdhaaaPFnWordPlacesx1
namespace Go.Proofs.Ythkblefeifdhaaa.PFnWordPlaces
open Go.RowKit Go.Proofs.Ythkblefeifdhaaa.H Go.Proofs.Ythkblefeifdhaaa.R Go.Proofs.YthkblefeifdhaaaW.PrintWords Go.Proofs.YthkblefeifdhaaaW.PrintLast Go.Proofs.YthkblefeifdhaaaW.PrintMore
attribute [local go_sem] max2_int min2_int max_two min_two max_three min_three max_four min_four   -- for this text's walks alone
set_option linter.unusedVariables false
set_option linter.unusedSimpArgs false

/-! ### laws_FnWordPlaces: function 11 -/
def laws_FnWordPlaces.f (k : Nat) (a0_0 : ByteArray) (a0_1 : Int) : Option (Bool) := (laws_zzFits2.f a0_0 a0_1).bind fun t129 => (if t129 = true then ((spec_DocRight.f k a0_0 a0_1).bind fun t130 => (if t130 = true then ((spec_Before.f a0_0 a0_1).bind fun t131 => ((spec_After.f a0_0 a0_1).bind fun t132 => ((impl_WordPlaces.f k a0_0 a0_1).bind fun bt133 => ((spec_Start.f k t131 (⟨#[32]⟩ : ByteArray) false).bind fun t137 => (if bt133.1 = t137 then ((spec_Start.f k t131 (⟨#[32]⟩ : ByteArray) true).bind fun t138 => (if bt133.2.1 = t138 then ((spec_End.f k t132 (⟨#[32]⟩ : ByteArray) false).bind fun t139 => (if bt133.2.2.1 = t139 then ((spec_End.f k t132 (⟨#[32]⟩ : ByteArray) true).bind fun t140 => (some (bt133.2.2.2 == t140))) else (some false))) else (some false))) else (some false)))))) else (some true))) else (some true))
theorem laws_FnWordPlaces.mono : ∀ a0 a1 k, LeO (laws_FnWordPlaces.f k a0 a1) (laws_FnWordPlaces.f (k + 1) a0 a1) := by
  intro a0 a1 k
  unfold laws_FnWordPlaces.f
  repeat' first
      | (with_reducible exact impl_WordPlaces.mono _ _ _)
      | (with_reducible exact spec_DocRight.mono _ _ _)
      | (with_reducible exact spec_End.mono _ _ _ _)
      | (with_reducible exact spec_Start.mono _ _ _ _)
      | (with_reducible exact LeO.refl _)
      | (with_reducible exact LeO.none _)
      | (with_reducible refine LeO.ite ?_ ?_)
      | (with_reducible refine LeO.bind ?_ (fun _ => ?_))
      | exact impl_WordPlaces.mono _ _ _
      | exact spec_DocRight.mono _ _ _
      | exact spec_End.mono _ _ _ _
      | exact spec_Start.mono _ _ _ _
      | exact LeO.none _
      | refine LeO.ite ?_ ?_
      | refine LeO.bind ?_ (fun _ => ?_)
set_option maxHeartbeats 8000000 in
set_option maxRecDepth 100000 in
theorem laws_FnWordPlaces.calls (k : Nat) (a0_0 : ByteArray) (a0_1 : Int) (r : Bool) (w : World) (h : laws_FnWordPlaces.f k a0_0 a0_1 = some r) :
    Calls Try.prog 11 #[.agg #[.string a0_0, .int .i64 a0_1]] w fun e w' => e = .returned (.bool r) ∧ Below w.heap.size w w' := by
  have hu57 := Try.underlying57
  have HB := Aside0.mk (Below.refl w.heap.size w)
  have H : ((laws_zzFits2.f a0_0 a0_1).bind fun t129 => (if t129 = true then ((spec_DocRight.f k a0_0 a0_1).bind fun t130 => (if t130 = true then ((spec_Before.f a0_0 a0_1).bind fun t131 => ((spec_After.f a0_0 a0_1).bind fun t132 => ((impl_WordPlaces.f k a0_0 a0_1).bind fun bt133 => ((spec_Start.f k t131 (⟨#[32]⟩ : ByteArray) false).bind fun t137 => (if bt133.1 = t137 then ((spec_Start.f k t131 (⟨#[32]⟩ : ByteArray) true).bind fun t138 => (if bt133.2.1 = t138 then ((spec_End.f k t132 (⟨#[32]⟩ : ByteArray) false).bind fun t139 => (if bt133.2.2.1 = t139 then ((spec_End.f k t132 (⟨#[32]⟩ : ByteArray) true).bind fun t140 => (some (bt133.2.2.2 == t140))) else (some false))) else (some false))) else (some false)))))) else (some true))) else (some true))) = some r := h
  clear h
  replace H := Option.bind_eq_some_iff.mp H
  obtain ⟨t129, A20, H⟩ := H
  replace H : (if t129 = true then ((spec_DocRight.f k a0_0 a0_1).bind fun t130 => (if t130 = true then ((spec_Before.f a0_0 a0_1).bind fun t131 => ((spec_After.f a0_0 a0_1).bind fun t132 => ((impl_WordPlaces.f k a0_0 a0_1).bind fun bt133 => ((spec_Start.f k t131 (⟨#[32]⟩ : ByteArray) false).bind fun t137 => (if bt133.1 = t137 then ((spec_Start.f k t131 (⟨#[32]⟩ : ByteArray) true).bind fun t138 => (if bt133.2.1 = t138 then ((spec_End.f k t132 (⟨#[32]⟩ : ByteArray) false).bind fun t139 => (if bt133.2.2.1 = t139 then ((spec_End.f k t132 (⟨#[32]⟩ : ByteArray) true).bind fun t140 => (some (bt133.2.2.2 == t140))) else (some false))) else (some false))) else (some false)))))) else (some true))) else (some true)) = some r := H
  have A2 := Aside0.mk A20
  clear A20
  by_cases c3 : t129 = true
  · subst c3
    have H1 : ((spec_DocRight.f k a0_0 a0_1).bind fun t130 => (if t130 = true then ((spec_Before.f a0_0 a0_1).bind fun t131 => ((spec_After.f a0_0 a0_1).bind fun t132 => ((impl_WordPlaces.f k a0_0 a0_1).bind fun bt133 => ((spec_Start.f k t131 (⟨#[32]⟩ : ByteArray) false).bind fun t137 => (if bt133.1 = t137 then ((spec_Start.f k t131 (⟨#[32]⟩ : ByteArray) true).bind fun t138 => (if bt133.2.1 = t138 then ((spec_End.f k t132 (⟨#[32]⟩ : ByteArray) false).bind fun t139 => (if bt133.2.2.1 = t139 then ((spec_End.f k t132 (⟨#[32]⟩ : ByteArray) true).bind fun t140 => (some (bt133.2.2.2 == t140))) else (some false))) else (some false))) else (some false)))))) else (some true))) = some r := by rw [if_pos rfl] at H; exact H
    clear H
    have H := H1
    clear H1
    replace H := Option.bind_eq_some_iff.mp H
    obtain ⟨t130, A40, H⟩ := H
    replace H : (if t130 = true then ((spec_Before.f a0_0 a0_1).bind fun t131 => ((spec_After.f a0_0 a0_1).bind fun t132 => ((impl_WordPlaces.f k a0_0 a0_1).bind fun bt133 => ((spec_Start.f k t131 (⟨#[32]⟩ : ByteArray) false).bind fun t137 => (if bt133.1 = t137 then ((spec_Start.f k t131 (⟨#[32]⟩ : ByteArray) true).bind fun t138 => (if bt133.2.1 = t138 then ((spec_End.f k t132 (⟨#[32]⟩ : ByteArray) false).bind fun t139 => (if bt133.2.2.1 = t139 then ((spec_End.f k t132 (⟨#[32]⟩ : ByteArray) true).bind fun t140 => (some (bt133.2.2.2 == t140))) else (some false))) else (some false))) else (some false)))))) else (some true)) = some r := H
    have A4 := Aside0.mk A40
    clear A40
    by_cases c5 : t130 = true
    · subst c5
      have H1 : ((spec_Before.f a0_0 a0_1).bind fun t131 => ((spec_After.f a0_0 a0_1).bind fun t132 => ((impl_WordPlaces.f k a0_0 a0_1).bind fun bt133 => ((spec_Start.f k t131 (⟨#[32]⟩ : ByteArray) false).bind fun t137 => (if bt133.1 = t137 then ((spec_Start.f k t131 (⟨#[32]⟩ : ByteArray) true).bind fun t138 => (if bt133.2.1 = t138 then ((spec_End.f k t132 (⟨#[32]⟩ : ByteArray) false).bind fun t139 => (if bt133.2.2.1 = t139 then ((spec_End.f k t132 (⟨#[32]⟩ : ByteArray) true).bind fun t140 => (some (bt133.2.2.2 == t140))) else (some false))) else (some false))) else (some false)))))) = some r := by rw [if_pos rfl] at H; exact H
      clear H
      have H := H1
      clear H1
      replace H := Option.bind_eq_some_iff.mp H
      obtain ⟨t131, A60, H⟩ := H
      replace H : ((spec_After.f a0_0 a0_1).bind fun t132 => ((impl_WordPlaces.f k a0_0 a0_1).bind fun bt133 => ((spec_Start.f k t131 (⟨#[32]⟩ : ByteArray) false).bind fun t137 => (if bt133.1 = t137 then ((spec_Start.f k t131 (⟨#[32]⟩ : ByteArray) true).bind fun t138 => (if bt133.2.1 = t138 then ((spec_End.f k t132 (⟨#[32]⟩ : ByteArray) false).bind fun t139 => (if bt133.2.2.1 = t139 then ((spec_End.f k t132 (⟨#[32]⟩ : ByteArray) true).bind fun t140 => (some (bt133.2.2.2 == t140))) else (some false))) else (some false))) else (some false))))) = some r := H
      have A6 := Aside0.mk A60
      clear A60
      replace H := Option.bind_eq_some_iff.mp H
      obtain ⟨t132, A70, H⟩ := H
      replace H : ((impl_WordPlaces.f k a0_0 a0_1).bind fun bt133 => ((spec_Start.f k t131 (⟨#[32]⟩ : ByteArray) false).bind fun t137 => (if bt133.1 = t137 then ((spec_Start.f k t131 (⟨#[32]⟩ : ByteArray) true).bind fun t138 => (if bt133.2.1 = t138 then ((spec_End.f k t132 (⟨#[32]⟩ : ByteArray) false).bind fun t139 => (if bt133.2.2.1 = t139 then ((spec_End.f k t132 (⟨#[32]⟩ : ByteArray) true).bind fun t140 => (some (bt133.2.2.2 == t140))) else (some false))) else (some false))) else (some false)))) = some r := H
      have A7 := Aside0.mk A70
      clear A70
      replace H := Option.bind_eq_some_iff.mp H
      obtain ⟨⟨t133, t134, t135, t136⟩, A80, H⟩ := H
      replace H : ((spec_Start.f k t131 (⟨#[32]⟩ : ByteArray) false).bind fun t137 => (if t133 = t137 then ((spec_Start.f k t131 (⟨#[32]⟩ : ByteArray) true).bind fun t138 => (if t134 = t138 then ((spec_End.f k t132 (⟨#[32]⟩ : ByteArray) false).bind fun t139 => (if t135 = t139 then ((spec_End.f k t132 (⟨#[32]⟩ : ByteArray) true).bind fun t140 => (some (t136 == t140))) else (some false))) else (some false))) else (some false))) = some r := H
      have A8 := Aside0.mk A80
      clear A80
      replace H := Option.bind_eq_some_iff.mp H
      obtain ⟨t137, A90, H⟩ := H
      replace H : (if t133 = t137 then ((spec_Start.f k t131 (⟨#[32]⟩ : ByteArray) true).bind fun t138 => (if t134 = t138 then ((spec_End.f k t132 (⟨#[32]⟩ : ByteArray) false).bind fun t139 => (if t135 = t139 then ((spec_End.f k t132 (⟨#[32]⟩ : ByteArray) true).bind fun t140 => (some (t136 == t140))) else (some false))) else (some false))) else (some false)) = some r := H
      have A9 := Aside0.mk A90
      clear A90
      by_cases c10 : t133 = t137
      · rw [if_pos c10] at H
        have c10b0 : (t133 == t137) = true := beq_iff_eq.mpr c10
        have c10b1 : (t133 != t137) = false := bne_eq_false_iff_eq.mpr c10
        clear c10
        replace H := Option.bind_eq_some_iff.mp H
        obtain ⟨t138, A110, H⟩ := H
        replace H : (if t134 = t138 then ((spec_End.f k t132 (⟨#[32]⟩ : ByteArray) false).bind fun t139 => (if t135 = t139 then ((spec_End.f k t132 (⟨#[32]⟩ : ByteArray) true).bind fun t140 => (some (t136 == t140))) else (some false))) else (some false)) = some r := H
        have A11 := Aside0.mk A110
        clear A110
        by_cases c12 : t134 = t138
        · rw [if_pos c12] at H
          have c12b0 : (t134 == t138) = true := beq_iff_eq.mpr c12
          have c12b1 : (t134 != t138) = false := bne_eq_false_iff_eq.mpr c12
          clear c12
          replace H := Option.bind_eq_some_iff.mp H
          obtain ⟨t139, A130, H⟩ := H
          replace H : (if t135 = t139 then ((spec_End.f k t132 (⟨#[32]⟩ : ByteArray) true).bind fun t140 => (some (t136 == t140))) else (some false)) = some r := H
          have A13 := Aside0.mk A130
          clear A130
          by_cases c14 : t135 = t139
          · rw [if_pos c14] at H
            have c14b0 : (t135 == t139) = true := beq_iff_eq.mpr c14
            have c14b1 : (t135 != t139) = false := bne_eq_false_iff_eq.mpr c14
            clear c14
            replace H := Option.bind_eq_some_iff.mp H
            obtain ⟨t140, A150, H⟩ := H
            replace H : (some (t136 == t140)) = some r := H
            have A15 := Aside0.mk A150
            clear A150
            obtain rfl := Option.some.inj H
            go_enter Try.func11, Try.ntmps11
            try go_wp2_with (first | ((with_reducible refine gate_dst (N := 1) rfl ?_); refine box_event ?hg (N := 1) ?hd (cs := #[.string a0_0, .int .i64 a0_1]) (t := 57) ?hr ?_; (case hd => rfl); (case hg => rfl); (case hr => first | (go_simp; done) | (go_simp; rfl)); intro gb128 hg w16 hbox hb; have n0_ := Aside0.mk (below_step (by repeat (first | (with_reducible first | exact HB.out | apply below_alloc | apply pw_below_drewN | apply below_drew1) | exact HB.out)) hb); have n1_ := Aside0.mk (hbox); have n2_ := Aside0.mk ((by rw [hg]; exact (below_size (by repeat (first | (with_reducible first | exact HB.out | apply below_alloc | apply pw_below_drewN | apply below_drew1) | exact HB.out))) : w.heap.size ≤ gb128)); have n3_ := Aside0.mk ((by rw [hg]; exact (below_size (by repeat (first | (with_reducible first | exact HB.out | apply below_alloc | apply pw_below_drewN | apply below_drew1) | exact HB.out))) : w.heap.size ≤ gb128)); clear HB; have HB := n0_; have BK128 := n1_; have GW128 := n2_; have GE128 := n3_; clear n0_ n1_ n2_ n3_; clear hb hbox hg; have hcz17_0 : w16.cell? ⟨gb128, 0, none⟩ = some (.string a0_0) := (blk_cell BK128.out 0).trans rfl; have hcz17_1 : w16.cell? ⟨gb128, 1, none⟩ = some (.int .i64 a0_1) := (blk_cell BK128.out 1).trans rfl; have hfz17_0 := blk_frozen BK128.out 0; have hfz17_1 := blk_frozen BK128.out 1) | ((with_reducible refine gate_callee (f := 32) rfl ?_); refine goesL_ (some 10) rfl rfl Try.func32 (by kernel_rfl) rfl #[.agg #[.string a0_0, .int .i64 a0_1]] rfl (by (try simp only [List.map_toArray, List.map_cons, List.map_nil]); first | done | rfl | (simp only [List.length_drop, List.length_take]; rfl) | (simp only [Int.toNat_natCast, ByteArray.extract_zero_size]; rfl)) ?_; (with_reducible refine (laws_zzFits2.calls a0_0 a0_1 true _ A2.out).mono ?_); rintro e w18 ⟨rfl, hb⟩; refine ⟨_, rfl, ?_⟩; have n0_ := Aside0.mk (blk_below (g := gb128) (o := .cells #[.string a0_0, .int .i64 a0_1] 57 (0, 0)) (by (with_reducible repeat (first | refine blk_drewN ?_ _ | refine blk_drew ?_ | refine blk_alloc ?_ _)); exact BK128.out) hb); have n1_ := Aside0.mk (below_step (by repeat (first | (with_reducible first | exact HB.out | apply below_alloc | apply pw_below_drewN | apply below_drew1 | refine below_set ?_ GE128.out) | exact HB.out)) hb); clear BK128; clear HB; have BK128 := n0_; have HB := n1_; clear n0_ n1_; (try clear hb); (try clear hb2); (try clear hk); (try clear hi); have hcz19_0 : w18.cell? ⟨gb128, 0, none⟩ = some (.string a0_0) := (blk_cell BK128.out 0).trans rfl; have hcz19_1 : w18.cell? ⟨gb128, 1, none⟩ = some (.int .i64 a0_1) := (blk_cell BK128.out 1).trans rfl; have hfz19_0 := blk_frozen BK128.out 0; have hfz19_1 := blk_frozen BK128.out 1) | ((with_reducible refine gate_callee (f := 33) rfl ?_); refine goesL_ (some 13) rfl rfl Try.func33 (by kernel_rfl) rfl #[.agg #[.string a0_0, .int .i64 a0_1]] rfl (by (try simp only [List.map_toArray, List.map_cons, List.map_nil]); first | done | rfl | (simp only [List.length_drop, List.length_take]; rfl) | (simp only [Int.toNat_natCast, ByteArray.extract_zero_size]; rfl)) ?_; (with_reducible refine (spec_DocRight.calls k a0_0 a0_1 true _ A4.out).mono ?_); rintro e w20 ⟨rfl, hb⟩; refine ⟨_, rfl, ?_⟩; have n0_ := Aside0.mk (blk_below (g := gb128) (o := .cells #[.string a0_0, .int .i64 a0_1] 57 (0, 0)) (by (with_reducible repeat (first | refine blk_drewN ?_ _ | refine blk_drew ?_ | refine blk_alloc ?_ _)); exact BK128.out) hb); have n1_ := Aside0.mk (below_step (by repeat (first | (with_reducible first | exact HB.out | apply below_alloc | apply pw_below_drewN | apply below_drew1 | refine below_set ?_ GE128.out) | exact HB.out)) hb); clear BK128; clear HB; have BK128 := n0_; have HB := n1_; clear n0_ n1_; (try clear hb); (try clear hb2); (try clear hk); (try clear hi)))
            have n0_ := Aside0.mk (blk_drew BK128.out)
            have n1_ := Aside0.mk (below_drew1 HB.out)
            clear BK128
            clear HB
            have BK128 := n0_
            have HB := n1_
            clear n0_ n1_
            refine start_ (n := 6) (S := fun w' => w'.cell? ⟨gb128, 0, none⟩ = some (.string a0_0) ∧ w'.cell? ⟨gb128, 1, none⟩ = some (.int .i64 a0_1)) (ds := []) #[false, false, false, false, false, false] (by kernel_rfl) rfl rfl ⟨(blk_cell BK128.out 0).trans rfl, (blk_cell BK128.out 1).trans rfl⟩ (fun hHeld => ?_)
            generalize w20.drew = w21 at BK128 HB hHeld ⊢
            refine take_ (i := 0) (N := some 15) (v := ?_) (a' := ?_) #[true, false, false, false, false, false] rfl rfl (by kernel_rfl) (fun _ _ _ h => h) (Or.inl ⟨by rfl, ?_⟩) hHeld ?_ ?_
            rotate_left
            · rintro w' ⟨s0, s1⟩
              go_simp
              with_reducible rfl
            rotate_left
            · simp only [Act.put, List.setIfInBounds_toArray, List.set_cons_zero, List.set_cons_succ, i64_w, i32_w]
              rfl
            refine take_ (i := 2) (N := some 17) (v := ?_) (a' := ?_) #[true, false, true, false, false, false] rfl rfl (by kernel_rfl) (fun _ _ _ h => h) (Or.inl ⟨by rfl, ?_⟩) hHeld ?_ ?_
            rotate_left
            · rintro w' ⟨s0, s1⟩
              go_simp
              with_reducible rfl
            rotate_left
            · simp only [Act.put, List.setIfInBounds_toArray, List.set_cons_zero, List.set_cons_succ, i64_w, i32_w]
              rfl
            refine one_ (i := 1) (N := some 16) #[true, true, true, false, false, false] rfl rfl (by kernel_rfl) (by decide) (fun K hK => ?_)
            refine goes_ Try.func34 (by kernel_rfl) rfl #[.agg #[.string a0_0, .int .i64 a0_1]] (by rfl) rfl rfl (by (try simp only [List.map_toArray, List.map_cons, List.map_nil]); first | done | rfl | (simp only [List.length_drop, List.length_take]; rfl) | (simp only [Int.toNat_natCast, ByteArray.extract_zero_size]; rfl)) ?_
            with_reducible refine (spec_Before.calls a0_0 a0_1 t131 _ A6.out).mono ?_
            rintro e w22 ⟨rfl, hb⟩
            refine ⟨_, rfl, ?_⟩
            have n0_ := Aside0.mk (blk_below (g := gb128) (o := .cells #[.string a0_0, .int .i64 a0_1] 57 (0, 0)) (by (with_reducible repeat (first | refine blk_drewN ?_ _ | refine blk_drew ?_ | refine blk_alloc ?_ _)); exact BK128.out) hb)
            have n1_ := Aside0.mk (below_step (by repeat (first | (with_reducible first | exact HB.out | apply below_alloc | apply pw_below_drewN | apply below_drew1 | refine below_set ?_ GE128.out) | exact HB.out)) hb)
            clear BK128
            clear HB
            have BK128 := n0_
            have HB := n1_
            clear n0_ n1_
            (try clear hb)
            (try clear hb2)
            (try clear hk)
            (try clear hi)
            refine hK.out _ _ ⟨(blk_cell BK128.out 0).trans rfl, (blk_cell BK128.out 1).trans rfl⟩ (fun hHeld => ?_)
            clear hK K
            refine norm_ (a' := ?_) ?_ ?_
            rotate_left
            · show Act.put _ (some 16) _ = _
              simp only [Act.put, List.setIfInBounds_toArray, List.set_cons_zero, List.set_cons_succ, i64_w, i32_w]
              rfl
            refine one_ (i := 3) (N := some 18) #[true, true, true, true, false, false] rfl rfl (by kernel_rfl) (by decide) (fun K hK => ?_)
            refine goes_ Try.func35 (by kernel_rfl) rfl #[.agg #[.string a0_0, .int .i64 a0_1]] (by rfl) rfl rfl (by (try simp only [List.map_toArray, List.map_cons, List.map_nil]); first | done | rfl | (simp only [List.length_drop, List.length_take]; rfl) | (simp only [Int.toNat_natCast, ByteArray.extract_zero_size]; rfl)) ?_
            with_reducible refine (spec_After.calls a0_0 a0_1 t132 _ A7.out).mono ?_
            rintro e w23 ⟨rfl, hb⟩
            refine ⟨_, rfl, ?_⟩
            have n0_ := Aside0.mk (blk_below (g := gb128) (o := .cells #[.string a0_0, .int .i64 a0_1] 57 (0, 0)) (by (with_reducible repeat (first | refine blk_drewN ?_ _ | refine blk_drew ?_ | refine blk_alloc ?_ _)); exact BK128.out) hb)
            have n1_ := Aside0.mk (below_step (by repeat (first | (with_reducible first | exact HB.out | apply below_alloc | apply pw_below_drewN | apply below_drew1 | refine below_set ?_ GE128.out) | exact HB.out)) hb)
            clear BK128
            clear HB
            have BK128 := n0_
            have HB := n1_
            clear n0_ n1_
            (try clear hb)
            (try clear hb2)
            (try clear hk)
            (try clear hi)
            refine hK.out _ _ ⟨(blk_cell BK128.out 0).trans rfl, (blk_cell BK128.out 1).trans rfl⟩ (fun hHeld => ?_)
            clear hK K
            refine norm_ (a' := ?_) ?_ ?_
            rotate_left
            · show Act.put _ (some 18) _ = _
              simp only [Act.put, List.setIfInBounds_toArray, List.set_cons_zero, List.set_cons_succ, i64_w, i32_w]
              rfl
            refine pure_ (i := 4) (N := some 3) (v := ?_) (a' := ?_) #[true, true, true, true, true, false] rfl rfl (by kernel_rfl) (fun _ _ _ h => h) (Or.inl ⟨by rfl, ?_⟩) ?_ ?_
            rotate_left
            · intro w'
              go_simp
              with_reducible rfl
            rotate_left
            · simp only [Act.put, List.setIfInBounds_toArray, List.set_cons_zero, List.set_cons_succ, i64_w, i32_w]
              rfl
            refine pure_ (i := 5) (N := some 4) (v := ?_) (a' := ?_) #[true, true, true, true, true, true] rfl rfl (by kernel_rfl) (fun _ _ _ h => h) (Or.inl ⟨by rfl, ?_⟩) ?_ ?_
            rotate_left
            · intro w'
              go_simp
              with_reducible rfl
            rotate_left
            · simp only [Act.put, List.setIfInBounds_toArray, List.set_cons_zero, List.set_cons_succ, i64_w, i32_w]
              rfl
            refine done_ (by kernel_rfl) ?_
            have hcz24_0 : w23.cell? ⟨gb128, 0, none⟩ = some (.string a0_0) := (blk_cell BK128.out 0).trans rfl
            have hcz24_1 : w23.cell? ⟨gb128, 1, none⟩ = some (.int .i64 a0_1) := (blk_cell BK128.out 1).trans rfl
            have hfz24_0 := blk_frozen BK128.out 0
            have hfz24_1 := blk_frozen BK128.out 1
            try go_wp2_with (first | ((with_reducible refine gate_callee (f := 36) rfl ?_); refine goesL_ (some 21) rfl rfl Try.func36 (by kernel_rfl) rfl #[.agg #[.string a0_0, .int .i64 a0_1]] rfl (by (try simp only [List.map_toArray, List.map_cons, List.map_nil]); first | done | rfl | (simp only [List.length_drop, List.length_take]; rfl) | (simp only [Int.toNat_natCast, ByteArray.extract_zero_size]; rfl)) ?_; (with_reducible refine (impl_WordPlaces.calls k a0_0 a0_1 t133 t134 t135 t136 _ A8.out).mono ?_); rintro e w25 ⟨rfl, hb⟩; refine ⟨_, rfl, ?_⟩; have n0_ := Aside0.mk (blk_below (g := gb128) (o := .cells #[.string a0_0, .int .i64 a0_1] 57 (0, 0)) (by (with_reducible repeat (first | refine blk_drewN ?_ _ | refine blk_drew ?_ | refine blk_alloc ?_ _)); exact BK128.out) hb); have n1_ := Aside0.mk (below_step (by repeat (first | (with_reducible first | exact HB.out | apply below_alloc | apply pw_below_drewN | apply below_drew1 | refine below_set ?_ GE128.out) | exact HB.out)) hb); clear BK128; clear HB; have BK128 := n0_; have HB := n1_; clear n0_ n1_; (try clear hb); (try clear hb2); (try clear hk); (try clear hi)) | ((with_reducible refine gate_callee (f := 37) rfl ?_); refine goesL_ (some 28) rfl rfl Try.func37 (by kernel_rfl) rfl #[.string t131, .string (⟨#[32]⟩ : ByteArray), .bool false] rfl (by (try simp only [List.map_toArray, List.map_cons, List.map_nil]); first | done | rfl | (simp only [List.length_drop, List.length_take]; rfl) | (simp only [Int.toNat_natCast, ByteArray.extract_zero_size]; rfl)) ?_; (with_reducible refine (spec_Start.calls k t131 (⟨#[32]⟩ : ByteArray) false t137 _ A9.out).mono ?_); rintro e w' ⟨rfl, ⟨nd, rfl⟩⟩; refine ⟨_, rfl, ?_⟩) | (go_at_call 37; (with_reducible refine (spec_Start.calls k t131 (⟨#[32]⟩ : ByteArray) true t138 _ A11.out).mono ?_); rintro e w' ⟨rfl, ⟨nd, rfl⟩⟩) | (go_at_call 38; (with_reducible refine (spec_End.calls k t132 (⟨#[32]⟩ : ByteArray) false t139 _ A13.out).mono ?_); rintro e w' ⟨rfl, ⟨nd, rfl⟩⟩) | (go_at_call 38; (with_reducible refine (spec_End.calls k t132 (⟨#[32]⟩ : ByteArray) true t140 _ A15.out).mono ?_); rintro e w' ⟨rfl, ⟨nd, rfl⟩⟩))
            go_ret
            exact ⟨by first | rfl | (simp [errW_none, errW_some] <;> rfl) | (simp [*, errW_none, errW_some] <;> rfl), by repeat (first | (with_reducible first | exact HB.out | apply below_alloc | apply pw_below_drewN | apply below_drew1 | refine below_set ?_ GE128.out) | exact HB.out)⟩
          · rw [if_neg c14] at H
            have c14b0 : (t135 == t139) = false := beq_eq_false_iff_ne.mpr c14
            have c14b1 : (t135 != t139) = true := bne_iff_ne.mpr c14
            obtain rfl := Option.some.inj H
            go_enter Try.func11, Try.ntmps11
            try go_wp2_with (first | ((with_reducible refine gate_dst (N := 1) rfl ?_); refine box_event ?hg (N := 1) ?hd (cs := #[.string a0_0, .int .i64 a0_1]) (t := 57) ?hr ?_; (case hd => rfl); (case hg => rfl); (case hr => first | (go_simp; done) | (go_simp; rfl)); intro gb128 hg w26 hbox hb; have n0_ := Aside0.mk (below_step (by repeat (first | (with_reducible first | exact HB.out | apply below_alloc | apply pw_below_drewN | apply below_drew1) | exact HB.out)) hb); have n1_ := Aside0.mk (hbox); have n2_ := Aside0.mk ((by rw [hg]; exact (below_size (by repeat (first | (with_reducible first | exact HB.out | apply below_alloc | apply pw_below_drewN | apply below_drew1) | exact HB.out))) : w.heap.size ≤ gb128)); have n3_ := Aside0.mk ((by rw [hg]; exact (below_size (by repeat (first | (with_reducible first | exact HB.out | apply below_alloc | apply pw_below_drewN | apply below_drew1) | exact HB.out))) : w.heap.size ≤ gb128)); clear HB; have HB := n0_; have BK128 := n1_; have GW128 := n2_; have GE128 := n3_; clear n0_ n1_ n2_ n3_; clear hb hbox hg; have hcz27_0 : w26.cell? ⟨gb128, 0, none⟩ = some (.string a0_0) := (blk_cell BK128.out 0).trans rfl; have hcz27_1 : w26.cell? ⟨gb128, 1, none⟩ = some (.int .i64 a0_1) := (blk_cell BK128.out 1).trans rfl; have hfz27_0 := blk_frozen BK128.out 0; have hfz27_1 := blk_frozen BK128.out 1) | ((with_reducible refine gate_callee (f := 32) rfl ?_); refine goesL_ (some 10) rfl rfl Try.func32 (by kernel_rfl) rfl #[.agg #[.string a0_0, .int .i64 a0_1]] rfl (by (try simp only [List.map_toArray, List.map_cons, List.map_nil]); first | done | rfl | (simp only [List.length_drop, List.length_take]; rfl) | (simp only [Int.toNat_natCast, ByteArray.extract_zero_size]; rfl)) ?_; (with_reducible refine (laws_zzFits2.calls a0_0 a0_1 true _ A2.out).mono ?_); rintro e w28 ⟨rfl, hb⟩; refine ⟨_, rfl, ?_⟩; have n0_ := Aside0.mk (blk_below (g := gb128) (o := .cells #[.string a0_0, .int .i64 a0_1] 57 (0, 0)) (by (with_reducible repeat (first | refine blk_drewN ?_ _ | refine blk_drew ?_ | refine blk_alloc ?_ _)); exact BK128.out) hb); have n1_ := Aside0.mk (below_step (by repeat (first | (with_reducible first | exact HB.out | apply below_alloc | apply pw_below_drewN | apply below_drew1 | refine below_set ?_ GE128.out) | exact HB.out)) hb); clear BK128; clear HB; have BK128 := n0_; have HB := n1_; clear n0_ n1_; (try clear hb); (try clear hb2); (try clear hk); (try clear hi); have hcz29_0 : w28.cell? ⟨gb128, 0, none⟩ = some (.string a0_0) := (blk_cell BK128.out 0).trans rfl; have hcz29_1 : w28.cell? ⟨gb128, 1, none⟩ = some (.int .i64 a0_1) := (blk_cell BK128.out 1).trans rfl; have hfz29_0 := blk_frozen BK128.out 0; have hfz29_1 := blk_frozen BK128.out 1) | ((with_reducible refine gate_callee (f := 33) rfl ?_); refine goesL_ (some 13) rfl rfl Try.func33 (by kernel_rfl) rfl #[.agg #[.string a0_0, .int .i64 a0_1]] rfl (by (try simp only [List.map_toArray, List.map_cons, List.map_nil]); first | done | rfl | (simp only [List.length_drop, List.length_take]; rfl) | (simp only [Int.toNat_natCast, ByteArray.extract_zero_size]; rfl)) ?_; (with_reducible refine (spec_DocRight.calls k a0_0 a0_1 true _ A4.out).mono ?_); rintro e w30 ⟨rfl, hb⟩; refine ⟨_, rfl, ?_⟩; have n0_ := Aside0.mk (blk_below (g := gb128) (o := .cells #[.string a0_0, .int .i64 a0_1] 57 (0, 0)) (by (with_reducible repeat (first | refine blk_drewN ?_ _ | refine blk_drew ?_ | refine blk_alloc ?_ _)); exact BK128.out) hb); have n1_ := Aside0.mk (below_step (by repeat (first | (with_reducible first | exact HB.out | apply below_alloc | apply pw_below_drewN | apply below_drew1 | refine below_set ?_ GE128.out) | exact HB.out)) hb); clear BK128; clear HB; have BK128 := n0_; have HB := n1_; clear n0_ n1_; (try clear hb); (try clear hb2); (try clear hk); (try clear hi)))
            have n0_ := Aside0.mk (blk_drew BK128.out)
            have n1_ := Aside0.mk (below_drew1 HB.out)
            clear BK128
            clear HB
            have BK128 := n0_
            have HB := n1_
            clear n0_ n1_
            refine start_ (n := 6) (S := fun w' => w'.cell? ⟨gb128, 0, none⟩ = some (.string a0_0) ∧ w'.cell? ⟨gb128, 1, none⟩ = some (.int .i64 a0_1)) (ds := []) #[false, false, false, false, false, false] (by kernel_rfl) rfl rfl ⟨(blk_cell BK128.out 0).trans rfl, (blk_cell BK128.out 1).trans rfl⟩ (fun hHeld => ?_)
            generalize w30.drew = w31 at BK128 HB hHeld ⊢
            refine take_ (i := 0) (N := some 15) (v := ?_) (a' := ?_) #[true, false, false, false, false, false] rfl rfl (by kernel_rfl) (fun _ _ _ h => h) (Or.inl ⟨by rfl, ?_⟩) hHeld ?_ ?_
            rotate_left
            · rintro w' ⟨s0, s1⟩
              go_simp
              with_reducible rfl
            rotate_left
            · simp only [Act.put, List.setIfInBounds_toArray, List.set_cons_zero, List.set_cons_succ, i64_w, i32_w]
              rfl
            refine take_ (i := 2) (N := some 17) (v := ?_) (a' := ?_) #[true, false, true, false, false, false] rfl rfl (by kernel_rfl) (fun _ _ _ h => h) (Or.inl ⟨by rfl, ?_⟩) hHeld ?_ ?_
            rotate_left
            · rintro w' ⟨s0, s1⟩
              go_simp
              with_reducible rfl
            rotate_left
            · simp only [Act.put, List.setIfInBounds_toArray, List.set_cons_zero, List.set_cons_succ, i64_w, i32_w]
              rfl
            refine one_ (i := 1) (N := some 16) #[true, true, true, false, false, false] rfl rfl (by kernel_rfl) (by decide) (fun K hK => ?_)
            refine goes_ Try.func34 (by kernel_rfl) rfl #[.agg #[.string a0_0, .int .i64 a0_1]] (by rfl) rfl rfl (by (try simp only [List.map_toArray, List.map_cons, List.map_nil]); first | done | rfl | (simp only [List.length_drop, List.length_take]; rfl) | (simp only [Int.toNat_natCast, ByteArray.extract_zero_size]; rfl)) ?_
            with_reducible refine (spec_Before.calls a0_0 a0_1 t131 _ A6.out).mono ?_
            rintro e w32 ⟨rfl, hb⟩
            refine ⟨_, rfl, ?_⟩
            have n0_ := Aside0.mk (blk_below (g := gb128) (o := .cells #[.string a0_0, .int .i64 a0_1] 57 (0, 0)) (by (with_reducible repeat (first | refine blk_drewN ?_ _ | refine blk_drew ?_ | refine blk_alloc ?_ _)); exact BK128.out) hb)
            have n1_ := Aside0.mk (below_step (by repeat (first | (with_reducible first | exact HB.out | apply below_alloc | apply pw_below_drewN | apply below_drew1 | refine below_set ?_ GE128.out) | exact HB.out)) hb)
            clear BK128
            clear HB
            have BK128 := n0_
            have HB := n1_
            clear n0_ n1_
            (try clear hb)
            (try clear hb2)
            (try clear hk)
            (try clear hi)
            refine hK.out _ _ ⟨(blk_cell BK128.out 0).trans rfl, (blk_cell BK128.out 1).trans rfl⟩ (fun hHeld => ?_)
            clear hK K
            refine norm_ (a' := ?_) ?_ ?_
            rotate_left
            · show Act.put _ (some 16) _ = _
              simp only [Act.put, List.setIfInBounds_toArray, List.set_cons_zero, List.set_cons_succ, i64_w, i32_w]
              rfl
            refine one_ (i := 3) (N := some 18) #[true, true, true, true, false, false] rfl rfl (by kernel_rfl) (by decide) (fun K hK => ?_)
            refine goes_ Try.func35 (by kernel_rfl) rfl #[.agg #[.string a0_0, .int .i64 a0_1]] (by rfl) rfl rfl (by (try simp only [List.map_toArray, List.map_cons, List.map_nil]); first | done | rfl | (simp only [List.length_drop, List.length_take]; rfl) | (simp only [Int.toNat_natCast, ByteArray.extract_zero_size]; rfl)) ?_
            with_reducible refine (spec_After.calls a0_0 a0_1 t132 _ A7.out).mono ?_
            rintro e w33 ⟨rfl, hb⟩
            refine ⟨_, rfl, ?_⟩
            have n0_ := Aside0.mk (blk_below (g := gb128) (o := .cells #[.string a0_0, .int .i64 a0_1] 57 (0, 0)) (by (with_reducible repeat (first | refine blk_drewN ?_ _ | refine blk_drew ?_ | refine blk_alloc ?_ _)); exact BK128.out) hb)
            have n1_ := Aside0.mk (below_step (by repeat (first | (with_reducible first | exact HB.out | apply below_alloc | apply pw_below_drewN | apply below_drew1 | refine below_set ?_ GE128.out) | exact HB.out)) hb)
            clear BK128
            clear HB
            have BK128 := n0_
            have HB := n1_
            clear n0_ n1_
            (try clear hb)
            (try clear hb2)
            (try clear hk)
            (try clear hi)
            refine hK.out _ _ ⟨(blk_cell BK128.out 0).trans rfl, (blk_cell BK128.out 1).trans rfl⟩ (fun hHeld => ?_)
            clear hK K
            refine norm_ (a' := ?_) ?_ ?_
            rotate_left
            · show Act.put _ (some 18) _ = _
              simp only [Act.put, List.setIfInBounds_toArray, List.set_cons_zero, List.set_cons_succ, i64_w, i32_w]
              rfl
            refine pure_ (i := 4) (N := some 3) (v := ?_) (a' := ?_) #[true, true, true, true, true, false] rfl rfl (by kernel_rfl) (fun _ _ _ h => h) (Or.inl ⟨by rfl, ?_⟩) ?_ ?_
            rotate_left
            · intro w'
              go_simp
              with_reducible rfl
            rotate_left
            · simp only [Act.put, List.setIfInBounds_toArray, List.set_cons_zero, List.set_cons_succ, i64_w, i32_w]
              rfl
            refine pure_ (i := 5) (N := some 4) (v := ?_) (a' := ?_) #[true, true, true, true, true, true] rfl rfl (by kernel_rfl) (fun _ _ _ h => h) (Or.inl ⟨by rfl, ?_⟩) ?_ ?_
            rotate_left
            · intro w'
              go_simp
              with_reducible rfl
            rotate_left
            · simp only [Act.put, List.setIfInBounds_toArray, List.set_cons_zero, List.set_cons_succ, i64_w, i32_w]
              rfl
            refine done_ (by kernel_rfl) ?_
            have hcz34_0 : w33.cell? ⟨gb128, 0, none⟩ = some (.string a0_0) := (blk_cell BK128.out 0).trans rfl
            have hcz34_1 : w33.cell? ⟨gb128, 1, none⟩ = some (.int .i64 a0_1) := (blk_cell BK128.out 1).trans rfl
            have hfz34_0 := blk_frozen BK128.out 0
            have hfz34_1 := blk_frozen BK128.out 1
            try go_wp2_with (first | ((with_reducible refine gate_callee (f := 36) rfl ?_); refine goesL_ (some 21) rfl rfl Try.func36 (by kernel_rfl) rfl #[.agg #[.string a0_0, .int .i64 a0_1]] rfl (by (try simp only [List.map_toArray, List.map_cons, List.map_nil]); first | done | rfl | (simp only [List.length_drop, List.length_take]; rfl) | (simp only [Int.toNat_natCast, ByteArray.extract_zero_size]; rfl)) ?_; (with_reducible refine (impl_WordPlaces.calls k a0_0 a0_1 t133 t134 t135 t136 _ A8.out).mono ?_); rintro e w35 ⟨rfl, hb⟩; refine ⟨_, rfl, ?_⟩; have n0_ := Aside0.mk (blk_below (g := gb128) (o := .cells #[.string a0_0, .int .i64 a0_1] 57 (0, 0)) (by (with_reducible repeat (first | refine blk_drewN ?_ _ | refine blk_drew ?_ | refine blk_alloc ?_ _)); exact BK128.out) hb); have n1_ := Aside0.mk (below_step (by repeat (first | (with_reducible first | exact HB.out | apply below_alloc | apply pw_below_drewN | apply below_drew1 | refine below_set ?_ GE128.out) | exact HB.out)) hb); clear BK128; clear HB; have BK128 := n0_; have HB := n1_; clear n0_ n1_; (try clear hb); (try clear hb2); (try clear hk); (try clear hi)) | ((with_reducible refine gate_callee (f := 37) rfl ?_); refine goesL_ (some 28) rfl rfl Try.func37 (by kernel_rfl) rfl #[.string t131, .string (⟨#[32]⟩ : ByteArray), .bool false] rfl (by (try simp only [List.map_toArray, List.map_cons, List.map_nil]); first | done | rfl | (simp only [List.length_drop, List.length_take]; rfl) | (simp only [Int.toNat_natCast, ByteArray.extract_zero_size]; rfl)) ?_; (with_reducible refine (spec_Start.calls k t131 (⟨#[32]⟩ : ByteArray) false t137 _ A9.out).mono ?_); rintro e w' ⟨rfl, ⟨nd, rfl⟩⟩; refine ⟨_, rfl, ?_⟩) | (go_at_call 37; (with_reducible refine (spec_Start.calls k t131 (⟨#[32]⟩ : ByteArray) true t138 _ A11.out).mono ?_); rintro e w' ⟨rfl, ⟨nd, rfl⟩⟩) | (go_at_call 38; (with_reducible refine (spec_End.calls k t132 (⟨#[32]⟩ : ByteArray) false t139 _ A13.out).mono ?_); rintro e w' ⟨rfl, ⟨nd, rfl⟩⟩))
            go_ret
            exact ⟨by first | rfl | (simp [errW_none, errW_some] <;> rfl) | (simp [*, errW_none, errW_some] <;> rfl), by repeat (first | (with_reducible first | exact HB.out | apply below_alloc | apply pw_below_drewN | apply below_drew1 | refine below_set ?_ GE128.out) | exact HB.out)⟩
        · rw [if_neg c12] at H
          have c12b0 : (t134 == t138) = false := beq_eq_false_iff_ne.mpr c12
          have c12b1 : (t134 != t138) = true := bne_iff_ne.mpr c12
          obtain rfl := Option.some.inj H
          go_enter Try.func11, Try.ntmps11
          try go_wp2_with (first | ((with_reducible refine gate_dst (N := 1) rfl ?_); refine box_event ?hg (N := 1) ?hd (cs := #[.string a0_0, .int .i64 a0_1]) (t := 57) ?hr ?_; (case hd => rfl); (case hg => rfl); (case hr => first | (go_simp; done) | (go_simp; rfl)); intro gb128 hg w36 hbox hb; have n0_ := Aside0.mk (below_step (by repeat (first | (with_reducible first | exact HB.out | apply below_alloc | apply pw_below_drewN | apply below_drew1) | exact HB.out)) hb); have n1_ := Aside0.mk (hbox); have n2_ := Aside0.mk ((by rw [hg]; exact (below_size (by repeat (first | (with_reducible first | exact HB.out | apply below_alloc | apply pw_below_drewN | apply below_drew1) | exact HB.out))) : w.heap.size ≤ gb128)); have n3_ := Aside0.mk ((by rw [hg]; exact (below_size (by repeat (first | (with_reducible first | exact HB.out | apply below_alloc | apply pw_below_drewN | apply below_drew1) | exact HB.out))) : w.heap.size ≤ gb128)); clear HB; have HB := n0_; have BK128 := n1_; have GW128 := n2_; have GE128 := n3_; clear n0_ n1_ n2_ n3_; clear hb hbox hg; have hcz37_0 : w36.cell? ⟨gb128, 0, none⟩ = some (.string a0_0) := (blk_cell BK128.out 0).trans rfl; have hcz37_1 : w36.cell? ⟨gb128, 1, none⟩ = some (.int .i64 a0_1) := (blk_cell BK128.out 1).trans rfl; have hfz37_0 := blk_frozen BK128.out 0; have hfz37_1 := blk_frozen BK128.out 1) | ((with_reducible refine gate_callee (f := 32) rfl ?_); refine goesL_ (some 10) rfl rfl Try.func32 (by kernel_rfl) rfl #[.agg #[.string a0_0, .int .i64 a0_1]] rfl (by (try simp only [List.map_toArray, List.map_cons, List.map_nil]); first | done | rfl | (simp only [List.length_drop, List.length_take]; rfl) | (simp only [Int.toNat_natCast, ByteArray.extract_zero_size]; rfl)) ?_; (with_reducible refine (laws_zzFits2.calls a0_0 a0_1 true _ A2.out).mono ?_); rintro e w38 ⟨rfl, hb⟩; refine ⟨_, rfl, ?_⟩; have n0_ := Aside0.mk (blk_below (g := gb128) (o := .cells #[.string a0_0, .int .i64 a0_1] 57 (0, 0)) (by (with_reducible repeat (first | refine blk_drewN ?_ _ | refine blk_drew ?_ | refine blk_alloc ?_ _)); exact BK128.out) hb); have n1_ := Aside0.mk (below_step (by repeat (first | (with_reducible first | exact HB.out | apply below_alloc | apply pw_below_drewN | apply below_drew1 | refine below_set ?_ GE128.out) | exact HB.out)) hb); clear BK128; clear HB; have BK128 := n0_; have HB := n1_; clear n0_ n1_; (try clear hb); (try clear hb2); (try clear hk); (try clear hi); have hcz39_0 : w38.cell? ⟨gb128, 0, none⟩ = some (.string a0_0) := (blk_cell BK128.out 0).trans rfl; have hcz39_1 : w38.cell? ⟨gb128, 1, none⟩ = some (.int .i64 a0_1) := (blk_cell BK128.out 1).trans rfl; have hfz39_0 := blk_frozen BK128.out 0; have hfz39_1 := blk_frozen BK128.out 1) | ((with_reducible refine gate_callee (f := 33) rfl ?_); refine goesL_ (some 13) rfl rfl Try.func33 (by kernel_rfl) rfl #[.agg #[.string a0_0, .int .i64 a0_1]] rfl (by (try simp only [List.map_toArray, List.map_cons, List.map_nil]); first | done | rfl | (simp only [List.length_drop, List.length_take]; rfl) | (simp only [Int.toNat_natCast, ByteArray.extract_zero_size]; rfl)) ?_; (with_reducible refine (spec_DocRight.calls k a0_0 a0_1 true _ A4.out).mono ?_); rintro e w40 ⟨rfl, hb⟩; refine ⟨_, rfl, ?_⟩; have n0_ := Aside0.mk (blk_below (g := gb128) (o := .cells #[.string a0_0, .int .i64 a0_1] 57 (0, 0)) (by (with_reducible repeat (first | refine blk_drewN ?_ _ | refine blk_drew ?_ | refine blk_alloc ?_ _)); exact BK128.out) hb); have n1_ := Aside0.mk (below_step (by repeat (first | (with_reducible first | exact HB.out | apply below_alloc | apply pw_below_drewN | apply below_drew1 | refine below_set ?_ GE128.out) | exact HB.out)) hb); clear BK128; clear HB; have BK128 := n0_; have HB := n1_; clear n0_ n1_; (try clear hb); (try clear hb2); (try clear hk); (try clear hi)))
          have n0_ := Aside0.mk (blk_drew BK128.out)
          have n1_ := Aside0.mk (below_drew1 HB.out)
          clear BK128
          clear HB
          have BK128 := n0_
          have HB := n1_
          clear n0_ n1_
          refine start_ (n := 6) (S := fun w' => w'.cell? ⟨gb128, 0, none⟩ = some (.string a0_0) ∧ w'.cell? ⟨gb128, 1, none⟩ = some (.int .i64 a0_1)) (ds := []) #[false, false, false, false, false, false] (by kernel_rfl) rfl rfl ⟨(blk_cell BK128.out 0).trans rfl, (blk_cell BK128.out 1).trans rfl⟩ (fun hHeld => ?_)
          generalize w40.drew = w41 at BK128 HB hHeld ⊢
          refine take_ (i := 0) (N := some 15) (v := ?_) (a' := ?_) #[true, false, false, false, false, false] rfl rfl (by kernel_rfl) (fun _ _ _ h => h) (Or.inl ⟨by rfl, ?_⟩) hHeld ?_ ?_
          rotate_left
          · rintro w' ⟨s0, s1⟩
            go_simp
            with_reducible rfl
          rotate_left
          · simp only [Act.put, List.setIfInBounds_toArray, List.set_cons_zero, List.set_cons_succ, i64_w, i32_w]
            rfl
          refine take_ (i := 2) (N := some 17) (v := ?_) (a' := ?_) #[true, false, true, false, false, false] rfl rfl (by kernel_rfl) (fun _ _ _ h => h) (Or.inl ⟨by rfl, ?_⟩) hHeld ?_ ?_
          rotate_left
          · rintro w' ⟨s0, s1⟩
            go_simp
            with_reducible rfl
          rotate_left
          · simp only [Act.put, List.setIfInBounds_toArray, List.set_cons_zero, List.set_cons_succ, i64_w, i32_w]
            rfl
          refine one_ (i := 1) (N := some 16) #[true, true, true, false, false, false] rfl rfl (by kernel_rfl) (by decide) (fun K hK => ?_)
          refine goes_ Try.func34 (by kernel_rfl) rfl #[.agg #[.string a0_0, .int .i64 a0_1]] (by rfl) rfl rfl (by (try simp only [List.map_toArray, List.map_cons, List.map_nil]); first | done | rfl | (simp only [List.length_drop, List.length_take]; rfl) | (simp only [Int.toNat_natCast, ByteArray.extract_zero_size]; rfl)) ?_
          with_reducible refine (spec_Before.calls a0_0 a0_1 t131 _ A6.out).mono ?_
          rintro e w42 ⟨rfl, hb⟩
          refine ⟨_, rfl, ?_⟩
          have n0_ := Aside0.mk (blk_below (g := gb128) (o := .cells #[.string a0_0, .int .i64 a0_1] 57 (0, 0)) (by (with_reducible repeat (first | refine blk_drewN ?_ _ | refine blk_drew ?_ | refine blk_alloc ?_ _)); exact BK128.out) hb)
          have n1_ := Aside0.mk (below_step (by repeat (first | (with_reducible first | exact HB.out | apply below_alloc | apply pw_below_drewN | apply below_drew1 | refine below_set ?_ GE128.out) | exact HB.out)) hb)
          clear BK128
          clear HB
          have BK128 := n0_
          have HB := n1_
          clear n0_ n1_
          (try clear hb)
          (try clear hb2)
          (try clear hk)
          (try clear hi)
          refine hK.out _ _ ⟨(blk_cell BK128.out 0).trans rfl, (blk_cell BK128.out 1).trans rfl⟩ (fun hHeld => ?_)
          clear hK K
          refine norm_ (a' := ?_) ?_ ?_
          rotate_left
          · show Act.put _ (some 16) _ = _
            simp only [Act.put, List.setIfInBounds_toArray, List.set_cons_zero, List.set_cons_succ, i64_w, i32_w]
            rfl
          refine one_ (i := 3) (N := some 18) #[true, true, true, true, false, false] rfl rfl (by kernel_rfl) (by decide) (fun K hK => ?_)
          refine goes_ Try.func35 (by kernel_rfl) rfl #[.agg #[.string a0_0, .int .i64 a0_1]] (by rfl) rfl rfl (by (try simp only [List.map_toArray, List.map_cons, List.map_nil]); first | done | rfl | (simp only [List.length_drop, List.length_take]; rfl) | (simp only [Int.toNat_natCast, ByteArray.extract_zero_size]; rfl)) ?_
          with_reducible refine (spec_After.calls a0_0 a0_1 t132 _ A7.out).mono ?_
          rintro e w43 ⟨rfl, hb⟩
          refine ⟨_, rfl, ?_⟩
          have n0_ := Aside0.mk (blk_below (g := gb128) (o := .cells #[.string a0_0, .int .i64 a0_1] 57 (0, 0)) (by (with_reducible repeat (first | refine blk_drewN ?_ _ | refine blk_drew ?_ | refine blk_alloc ?_ _)); exact BK128.out) hb)
          have n1_ := Aside0.mk (below_step (by repeat (first | (with_reducible first | exact HB.out | apply below_alloc | apply pw_below_drewN | apply below_drew1 | refine below_set ?_ GE128.out) | exact HB.out)) hb)
          clear BK128
          clear HB
          have BK128 := n0_
          have HB := n1_
          clear n0_ n1_
          (try clear hb)
          (try clear hb2)
          (try clear hk)
          (try clear hi)
          refine hK.out _ _ ⟨(blk_cell BK128.out 0).trans rfl, (blk_cell BK128.out 1).trans rfl⟩ (fun hHeld => ?_)
          clear hK K
          refine norm_ (a' := ?_) ?_ ?_
          rotate_left
          · show Act.put _ (some 18) _ = _
            simp only [Act.put, List.setIfInBounds_toArray, List.set_cons_zero, List.set_cons_succ, i64_w, i32_w]
            rfl
          refine pure_ (i := 4) (N := some 3) (v := ?_) (a' := ?_) #[true, true, true, true, true, false] rfl rfl (by kernel_rfl) (fun _ _ _ h => h) (Or.inl ⟨by rfl, ?_⟩) ?_ ?_
          rotate_left
          · intro w'
            go_simp
            with_reducible rfl
          rotate_left
          · simp only [Act.put, List.setIfInBounds_toArray, List.set_cons_zero, List.set_cons_succ, i64_w, i32_w]
            rfl
          refine pure_ (i := 5) (N := some 4) (v := ?_) (a' := ?_) #[true, true, true, true, true, true] rfl rfl (by kernel_rfl) (fun _ _ _ h => h) (Or.inl ⟨by rfl, ?_⟩) ?_ ?_
          rotate_left
          · intro w'
            go_simp
            with_reducible rfl
          rotate_left
          · simp only [Act.put, List.setIfInBounds_toArray, List.set_cons_zero, List.set_cons_succ, i64_w, i32_w]
            rfl
          refine done_ (by kernel_rfl) ?_
          have hcz44_0 : w43.cell? ⟨gb128, 0, none⟩ = some (.string a0_0) := (blk_cell BK128.out 0).trans rfl
          have hcz44_1 : w43.cell? ⟨gb128, 1, none⟩ = some (.int .i64 a0_1) := (blk_cell BK128.out 1).trans rfl
          have hfz44_0 := blk_frozen BK128.out 0
          have hfz44_1 := blk_frozen BK128.out 1
          try go_wp2_with (first | ((with_reducible refine gate_callee (f := 36) rfl ?_); refine goesL_ (some 21) rfl rfl Try.func36 (by kernel_rfl) rfl #[.agg #[.string a0_0, .int .i64 a0_1]] rfl (by (try simp only [List.map_toArray, List.map_cons, List.map_nil]); first | done | rfl | (simp only [List.length_drop, List.length_take]; rfl) | (simp only [Int.toNat_natCast, ByteArray.extract_zero_size]; rfl)) ?_; (with_reducible refine (impl_WordPlaces.calls k a0_0 a0_1 t133 t134 t135 t136 _ A8.out).mono ?_); rintro e w45 ⟨rfl, hb⟩; refine ⟨_, rfl, ?_⟩; have n0_ := Aside0.mk (blk_below (g := gb128) (o := .cells #[.string a0_0, .int .i64 a0_1] 57 (0, 0)) (by (with_reducible repeat (first | refine blk_drewN ?_ _ | refine blk_drew ?_ | refine blk_alloc ?_ _)); exact BK128.out) hb); have n1_ := Aside0.mk (below_step (by repeat (first | (with_reducible first | exact HB.out | apply below_alloc | apply pw_below_drewN | apply below_drew1 | refine below_set ?_ GE128.out) | exact HB.out)) hb); clear BK128; clear HB; have BK128 := n0_; have HB := n1_; clear n0_ n1_; (try clear hb); (try clear hb2); (try clear hk); (try clear hi)) | ((with_reducible refine gate_callee (f := 37) rfl ?_); refine goesL_ (some 28) rfl rfl Try.func37 (by kernel_rfl) rfl #[.string t131, .string (⟨#[32]⟩ : ByteArray), .bool false] rfl (by (try simp only [List.map_toArray, List.map_cons, List.map_nil]); first | done | rfl | (simp only [List.length_drop, List.length_take]; rfl) | (simp only [Int.toNat_natCast, ByteArray.extract_zero_size]; rfl)) ?_; (with_reducible refine (spec_Start.calls k t131 (⟨#[32]⟩ : ByteArray) false t137 _ A9.out).mono ?_); rintro e w' ⟨rfl, ⟨nd, rfl⟩⟩; refine ⟨_, rfl, ?_⟩) | (go_at_call 37; (with_reducible refine (spec_Start.calls k t131 (⟨#[32]⟩ : ByteArray) true t138 _ A11.out).mono ?_); rintro e w' ⟨rfl, ⟨nd, rfl⟩⟩))
          go_ret
          exact ⟨by first | rfl | (simp [errW_none, errW_some] <;> rfl) | (simp [*, errW_none, errW_some] <;> rfl), by repeat (first | (with_reducible first | exact HB.out | apply below_alloc | apply pw_below_drewN | apply below_drew1 | refine below_set ?_ GE128.out) | exact HB.out)⟩
      · rw [if_neg c10] at H
        have c10b0 : (t133 == t137) = false := beq_eq_false_iff_ne.mpr c10
        have c10b1 : (t133 != t137) = true := bne_iff_ne.mpr c10
        obtain rfl := Option.some.inj H
        go_enter Try.func11, Try.ntmps11
        try go_wp2_with (first | ((with_reducible refine gate_dst (N := 1) rfl ?_); refine box_event ?hg (N := 1) ?hd (cs := #[.string a0_0, .int .i64 a0_1]) (t := 57) ?hr ?_; (case hd => rfl); (case hg => rfl); (case hr => first | (go_simp; done) | (go_simp; rfl)); intro gb128 hg w46 hbox hb; have n0_ := Aside0.mk (below_step (by repeat (first | (with_reducible first | exact HB.out | apply below_alloc | apply pw_below_drewN | apply below_drew1) | exact HB.out)) hb); have n1_ := Aside0.mk (hbox); have n2_ := Aside0.mk ((by rw [hg]; exact (below_size (by repeat (first | (with_reducible first | exact HB.out | apply below_alloc | apply pw_below_drewN | apply below_drew1) | exact HB.out))) : w.heap.size ≤ gb128)); have n3_ := Aside0.mk ((by rw [hg]; exact (below_size (by repeat (first | (with_reducible first | exact HB.out | apply below_alloc | apply pw_below_drewN | apply below_drew1) | exact HB.out))) : w.heap.size ≤ gb128)); clear HB; have HB := n0_; have BK128 := n1_; have GW128 := n2_; have GE128 := n3_; clear n0_ n1_ n2_ n3_; clear hb hbox hg; have hcz47_0 : w46.cell? ⟨gb128, 0, none⟩ = some (.string a0_0) := (blk_cell BK128.out 0).trans rfl; have hcz47_1 : w46.cell? ⟨gb128, 1, none⟩ = some (.int .i64 a0_1) := (blk_cell BK128.out 1).trans rfl; have hfz47_0 := blk_frozen BK128.out 0; have hfz47_1 := blk_frozen BK128.out 1) | ((with_reducible refine gate_callee (f := 32) rfl ?_); refine goesL_ (some 10) rfl rfl Try.func32 (by kernel_rfl) rfl #[.agg #[.string a0_0, .int .i64 a0_1]] rfl (by (try simp only [List.map_toArray, List.map_cons, List.map_nil]); first | done | rfl | (simp only [List.length_drop, List.length_take]; rfl) | (simp only [Int.toNat_natCast, ByteArray.extract_zero_size]; rfl)) ?_; (with_reducible refine (laws_zzFits2.calls a0_0 a0_1 true _ A2.out).mono ?_); rintro e w48 ⟨rfl, hb⟩; refine ⟨_, rfl, ?_⟩; have n0_ := Aside0.mk (blk_below (g := gb128) (o := .cells #[.string a0_0, .int .i64 a0_1] 57 (0, 0)) (by (with_reducible repeat (first | refine blk_drewN ?_ _ | refine blk_drew ?_ | refine blk_alloc ?_ _)); exact BK128.out) hb); have n1_ := Aside0.mk (below_step (by repeat (first | (with_reducible first | exact HB.out | apply below_alloc | apply pw_below_drewN | apply below_drew1 | refine below_set ?_ GE128.out) | exact HB.out)) hb); clear BK128; clear HB; have BK128 := n0_; have HB := n1_; clear n0_ n1_; (try clear hb); (try clear hb2); (try clear hk); (try clear hi); have hcz49_0 : w48.cell? ⟨gb128, 0, none⟩ = some (.string a0_0) := (blk_cell BK128.out 0).trans rfl; have hcz49_1 : w48.cell? ⟨gb128, 1, none⟩ = some (.int .i64 a0_1) := (blk_cell BK128.out 1).trans rfl; have hfz49_0 := blk_frozen BK128.out 0; have hfz49_1 := blk_frozen BK128.out 1) | ((with_reducible refine gate_callee (f := 33) rfl ?_); refine goesL_ (some 13) rfl rfl Try.func33 (by kernel_rfl) rfl #[.agg #[.string a0_0, .int .i64 a0_1]] rfl (by (try simp only [List.map_toArray, List.map_cons, List.map_nil]); first | done | rfl | (simp only [List.length_drop, List.length_take]; rfl) | (simp only [Int.toNat_natCast, ByteArray.extract_zero_size]; rfl)) ?_; (with_reducible refine (spec_DocRight.calls k a0_0 a0_1 true _ A4.out).mono ?_); rintro e w50 ⟨rfl, hb⟩; refine ⟨_, rfl, ?_⟩; have n0_ := Aside0.mk (blk_below (g := gb128) (o := .cells #[.string a0_0, .int .i64 a0_1] 57 (0, 0)) (by (with_reducible repeat (first | refine blk_drewN ?_ _ | refine blk_drew ?_ | refine blk_alloc ?_ _)); exact BK128.out) hb); have n1_ := Aside0.mk (below_step (by repeat (first | (with_reducible first | exact HB.out | apply below_alloc | apply pw_below_drewN | apply below_drew1 | refine below_set ?_ GE128.out) | exact HB.out)) hb); clear BK128; clear HB; have BK128 := n0_; have HB := n1_; clear n0_ n1_; (try clear hb); (try clear hb2); (try clear hk); (try clear hi)))
        have n0_ := Aside0.mk (blk_drew BK128.out)
        have n1_ := Aside0.mk (below_drew1 HB.out)
        clear BK128
        clear HB
        have BK128 := n0_
        have HB := n1_
        clear n0_ n1_
        refine start_ (n := 6) (S := fun w' => w'.cell? ⟨gb128, 0, none⟩ = some (.string a0_0) ∧ w'.cell? ⟨gb128, 1, none⟩ = some (.int .i64 a0_1)) (ds := []) #[false, false, false, false, false, false] (by kernel_rfl) rfl rfl ⟨(blk_cell BK128.out 0).trans rfl, (blk_cell BK128.out 1).trans rfl⟩ (fun hHeld => ?_)
        generalize w50.drew = w51 at BK128 HB hHeld ⊢
        refine take_ (i := 0) (N := some 15) (v := ?_) (a' := ?_) #[true, false, false, false, false, false] rfl rfl (by kernel_rfl) (fun _ _ _ h => h) (Or.inl ⟨by rfl, ?_⟩) hHeld ?_ ?_
        rotate_left
        · rintro w' ⟨s0, s1⟩
          go_simp
          with_reducible rfl
        rotate_left
        · simp only [Act.put, List.setIfInBounds_toArray, List.set_cons_zero, List.set_cons_succ, i64_w, i32_w]
          rfl
        refine take_ (i := 2) (N := some 17) (v := ?_) (a' := ?_) #[true, false, true, false, false, false] rfl rfl (by kernel_rfl) (fun _ _ _ h => h) (Or.inl ⟨by rfl, ?_⟩) hHeld ?_ ?_
        rotate_left
        · rintro w' ⟨s0, s1⟩
          go_simp
          with_reducible rfl
        rotate_left
        · simp only [Act.put, List.setIfInBounds_toArray, List.set_cons_zero, List.set_cons_succ, i64_w, i32_w]
          rfl
        refine one_ (i := 1) (N := some 16) #[true, true, true, false, false, false] rfl rfl (by kernel_rfl) (by decide) (fun K hK => ?_)
        refine goes_ Try.func34 (by kernel_rfl) rfl #[.agg #[.string a0_0, .int .i64 a0_1]] (by rfl) rfl rfl (by (try simp only [List.map_toArray, List.map_cons, List.map_nil]); first | done | rfl | (simp only [List.length_drop, List.length_take]; rfl) | (simp only [Int.toNat_natCast, ByteArray.extract_zero_size]; rfl)) ?_
        with_reducible refine (spec_Before.calls a0_0 a0_1 t131 _ A6.out).mono ?_
        rintro e w52 ⟨rfl, hb⟩
        refine ⟨_, rfl, ?_⟩
        have n0_ := Aside0.mk (blk_below (g := gb128) (o := .cells #[.string a0_0, .int .i64 a0_1] 57 (0, 0)) (by (with_reducible repeat (first | refine blk_drewN ?_ _ | refine blk_drew ?_ | refine blk_alloc ?_ _)); exact BK128.out) hb)
        have n1_ := Aside0.mk (below_step (by repeat (first | (with_reducible first | exact HB.out | apply below_alloc | apply pw_below_drewN | apply below_drew1 | refine below_set ?_ GE128.out) | exact HB.out)) hb)
        clear BK128
        clear HB
        have BK128 := n0_
        have HB := n1_
        clear n0_ n1_
        (try clear hb)
        (try clear hb2)
        (try clear hk)
        (try clear hi)
        refine hK.out _ _ ⟨(blk_cell BK128.out 0).trans rfl, (blk_cell BK128.out 1).trans rfl⟩ (fun hHeld => ?_)
        clear hK K
        refine norm_ (a' := ?_) ?_ ?_
        rotate_left
        · show Act.put _ (some 16) _ = _
          simp only [Act.put, List.setIfInBounds_toArray, List.set_cons_zero, List.set_cons_succ, i64_w, i32_w]
          rfl
        refine one_ (i := 3) (N := some 18) #[true, true, true, true, false, false] rfl rfl (by kernel_rfl) (by decide) (fun K hK => ?_)
        refine goes_ Try.func35 (by kernel_rfl) rfl #[.agg #[.string a0_0, .int .i64 a0_1]] (by rfl) rfl rfl (by (try simp only [List.map_toArray, List.map_cons, List.map_nil]); first | done | rfl | (simp only [List.length_drop, List.length_take]; rfl) | (simp only [Int.toNat_natCast, ByteArray.extract_zero_size]; rfl)) ?_
        with_reducible refine (spec_After.calls a0_0 a0_1 t132 _ A7.out).mono ?_
        rintro e w53 ⟨rfl, hb⟩
        refine ⟨_, rfl, ?_⟩
        have n0_ := Aside0.mk (blk_below (g := gb128) (o := .cells #[.string a0_0, .int .i64 a0_1] 57 (0, 0)) (by (with_reducible repeat (first | refine blk_drewN ?_ _ | refine blk_drew ?_ | refine blk_alloc ?_ _)); exact BK128.out) hb)
        have n1_ := Aside0.mk (below_step (by repeat (first | (with_reducible first | exact HB.out | apply below_alloc | apply pw_below_drewN | apply below_drew1 | refine below_set ?_ GE128.out) | exact HB.out)) hb)
        clear BK128
        clear HB
        have BK128 := n0_
        have HB := n1_
        clear n0_ n1_
        (try clear hb)
        (try clear hb2)
        (try clear hk)
        (try clear hi)
        refine hK.out _ _ ⟨(blk_cell BK128.out 0).trans rfl, (blk_cell BK128.out 1).trans rfl⟩ (fun hHeld => ?_)
        clear hK K
        refine norm_ (a' := ?_) ?_ ?_
        rotate_left
        · show Act.put _ (some 18) _ = _
          simp only [Act.put, List.setIfInBounds_toArray, List.set_cons_zero, List.set_cons_succ, i64_w, i32_w]
          rfl
        refine pure_ (i := 4) (N := some 3) (v := ?_) (a' := ?_) #[true, true, true, true, true, false] rfl rfl (by kernel_rfl) (fun _ _ _ h => h) (Or.inl ⟨by rfl, ?_⟩) ?_ ?_
        rotate_left
        · intro w'
          go_simp
          with_reducible rfl
        rotate_left
        · simp only [Act.put, List.setIfInBounds_toArray, List.set_cons_zero, List.set_cons_succ, i64_w, i32_w]
          rfl
        refine pure_ (i := 5) (N := some 4) (v := ?_) (a' := ?_) #[true, true, true, true, true, true] rfl rfl (by kernel_rfl) (fun _ _ _ h => h) (Or.inl ⟨by rfl, ?_⟩) ?_ ?_
        rotate_left
        · intro w'
          go_simp
          with_reducible rfl
        rotate_left
        · simp only [Act.put, List.setIfInBounds_toArray, List.set_cons_zero, List.set_cons_succ, i64_w, i32_w]
          rfl
        refine done_ (by kernel_rfl) ?_
        have hcz54_0 : w53.cell? ⟨gb128, 0, none⟩ = some (.string a0_0) := (blk_cell BK128.out 0).trans rfl
        have hcz54_1 : w53.cell? ⟨gb128, 1, none⟩ = some (.int .i64 a0_1) := (blk_cell BK128.out 1).trans rfl
        have hfz54_0 := blk_frozen BK128.out 0
        have hfz54_1 := blk_frozen BK128.out 1
        try go_wp2_with (first | ((with_reducible refine gate_callee (f := 36) rfl ?_); refine goesL_ (some 21) rfl rfl Try.func36 (by kernel_rfl) rfl #[.agg #[.string a0_0, .int .i64 a0_1]] rfl (by (try simp only [List.map_toArray, List.map_cons, List.map_nil]); first | done | rfl | (simp only [List.length_drop, List.length_take]; rfl) | (simp only [Int.toNat_natCast, ByteArray.extract_zero_size]; rfl)) ?_; (with_reducible refine (impl_WordPlaces.calls k a0_0 a0_1 t133 t134 t135 t136 _ A8.out).mono ?_); rintro e w55 ⟨rfl, hb⟩; refine ⟨_, rfl, ?_⟩; have n0_ := Aside0.mk (blk_below (g := gb128) (o := .cells #[.string a0_0, .int .i64 a0_1] 57 (0, 0)) (by (with_reducible repeat (first | refine blk_drewN ?_ _ | refine blk_drew ?_ | refine blk_alloc ?_ _)); exact BK128.out) hb); have n1_ := Aside0.mk (below_step (by repeat (first | (with_reducible first | exact HB.out | apply below_alloc | apply pw_below_drewN | apply below_drew1 | refine below_set ?_ GE128.out) | exact HB.out)) hb); clear BK128; clear HB; have BK128 := n0_; have HB := n1_; clear n0_ n1_; (try clear hb); (try clear hb2); (try clear hk); (try clear hi)) | ((with_reducible refine gate_callee (f := 37) rfl ?_); refine goesL_ (some 28) rfl rfl Try.func37 (by kernel_rfl) rfl #[.string t131, .string (⟨#[32]⟩ : ByteArray), .bool false] rfl (by (try simp only [List.map_toArray, List.map_cons, List.map_nil]); first | done | rfl | (simp only [List.length_drop, List.length_take]; rfl) | (simp only [Int.toNat_natCast, ByteArray.extract_zero_size]; rfl)) ?_; (with_reducible refine (spec_Start.calls k t131 (⟨#[32]⟩ : ByteArray) false t137 _ A9.out).mono ?_); rintro e w' ⟨rfl, ⟨nd, rfl⟩⟩; refine ⟨_, rfl, ?_⟩))
        go_ret
        exact ⟨by first | rfl | (simp [errW_none, errW_some] <;> rfl) | (simp [*, errW_none, errW_some] <;> rfl), by repeat (first | (with_reducible first | exact HB.out | apply below_alloc | apply pw_below_drewN | apply below_drew1 | refine below_set ?_ GE128.out) | exact HB.out)⟩
    · replace c5 := Bool.eq_false_iff.mpr c5
      subst c5
      have H1 : (some true) = some r := by rw [if_neg (show ¬ (false = true) by decide)] at H; exact H
      clear H
      have H := H1
      clear H1
      obtain rfl := Option.some.inj H
      go_enter Try.func11, Try.ntmps11
      go_wp2_with (first | ((with_reducible refine gate_dst (N := 1) rfl ?_); refine box_event ?hg (N := 1) ?hd (cs := #[.string a0_0, .int .i64 a0_1]) (t := 57) ?hr ?_; (case hd => rfl); (case hg => rfl); (case hr => first | (go_simp; done) | (go_simp; rfl)); intro gb128 hg w56 hbox hb; have n0_ := Aside0.mk (below_step (by repeat (first | (with_reducible first | exact HB.out | apply below_alloc | apply pw_below_drewN | apply below_drew1) | exact HB.out)) hb); have n1_ := Aside0.mk (hbox); have n2_ := Aside0.mk ((by rw [hg]; exact (below_size (by repeat (first | (with_reducible first | exact HB.out | apply below_alloc | apply pw_below_drewN | apply below_drew1) | exact HB.out))) : w.heap.size ≤ gb128)); have n3_ := Aside0.mk ((by rw [hg]; exact (below_size (by repeat (first | (with_reducible first | exact HB.out | apply below_alloc | apply pw_below_drewN | apply below_drew1) | exact HB.out))) : w.heap.size ≤ gb128)); clear HB; have HB := n0_; have BK128 := n1_; have GW128 := n2_; have GE128 := n3_; clear n0_ n1_ n2_ n3_; clear hb hbox hg; have hcz57_0 : w56.cell? ⟨gb128, 0, none⟩ = some (.string a0_0) := (blk_cell BK128.out 0).trans rfl; have hcz57_1 : w56.cell? ⟨gb128, 1, none⟩ = some (.int .i64 a0_1) := (blk_cell BK128.out 1).trans rfl; have hfz57_0 := blk_frozen BK128.out 0; have hfz57_1 := blk_frozen BK128.out 1) | ((with_reducible refine gate_callee (f := 32) rfl ?_); refine goesL_ (some 10) rfl rfl Try.func32 (by kernel_rfl) rfl #[.agg #[.string a0_0, .int .i64 a0_1]] rfl (by (try simp only [List.map_toArray, List.map_cons, List.map_nil]); first | done | rfl | (simp only [List.length_drop, List.length_take]; rfl) | (simp only [Int.toNat_natCast, ByteArray.extract_zero_size]; rfl)) ?_; (with_reducible refine (laws_zzFits2.calls a0_0 a0_1 true _ A2.out).mono ?_); rintro e w58 ⟨rfl, hb⟩; refine ⟨_, rfl, ?_⟩; have n0_ := Aside0.mk (blk_below (g := gb128) (o := .cells #[.string a0_0, .int .i64 a0_1] 57 (0, 0)) (by (with_reducible repeat (first | refine blk_drewN ?_ _ | refine blk_drew ?_ | refine blk_alloc ?_ _)); exact BK128.out) hb); have n1_ := Aside0.mk (below_step (by repeat (first | (with_reducible first | exact HB.out | apply below_alloc | apply pw_below_drewN | apply below_drew1 | refine below_set ?_ GE128.out) | exact HB.out)) hb); clear BK128; clear HB; have BK128 := n0_; have HB := n1_; clear n0_ n1_; (try clear hb); (try clear hb2); (try clear hk); (try clear hi); have hcz59_0 : w58.cell? ⟨gb128, 0, none⟩ = some (.string a0_0) := (blk_cell BK128.out 0).trans rfl; have hcz59_1 : w58.cell? ⟨gb128, 1, none⟩ = some (.int .i64 a0_1) := (blk_cell BK128.out 1).trans rfl; have hfz59_0 := blk_frozen BK128.out 0; have hfz59_1 := blk_frozen BK128.out 1) | ((with_reducible refine gate_callee (f := 33) rfl ?_); refine goesL_ (some 13) rfl rfl Try.func33 (by kernel_rfl) rfl #[.agg #[.string a0_0, .int .i64 a0_1]] rfl (by (try simp only [List.map_toArray, List.map_cons, List.map_nil]); first | done | rfl | (simp only [List.length_drop, List.length_take]; rfl) | (simp only [Int.toNat_natCast, ByteArray.extract_zero_size]; rfl)) ?_; (with_reducible refine (spec_DocRight.calls k a0_0 a0_1 false _ A4.out).mono ?_); rintro e w60 ⟨rfl, hb⟩; refine ⟨_, rfl, ?_⟩; have n0_ := Aside0.mk (blk_below (g := gb128) (o := .cells #[.string a0_0, .int .i64 a0_1] 57 (0, 0)) (by (with_reducible repeat (first | refine blk_drewN ?_ _ | refine blk_drew ?_ | refine blk_alloc ?_ _)); exact BK128.out) hb); have n1_ := Aside0.mk (below_step (by repeat (first | (with_reducible first | exact HB.out | apply below_alloc | apply pw_below_drewN | apply below_drew1 | refine below_set ?_ GE128.out) | exact HB.out)) hb); clear BK128; clear HB; have BK128 := n0_; have HB := n1_; clear n0_ n1_; (try clear hb); (try clear hb2); (try clear hk); (try clear hi)))
      go_ret
      exact ⟨by first | rfl | (simp [errW_none, errW_some] <;> rfl) | (simp [*, errW_none, errW_some] <;> rfl), by repeat (first | (with_reducible first | exact HB.out | apply below_alloc | apply pw_below_drewN | apply below_drew1 | refine below_set ?_ GE128.out) | exact HB.out)⟩
  · replace c3 := Bool.eq_false_iff.mpr c3
    subst c3
    have H1 : (some true) = some r := by rw [if_neg (show ¬ (false = true) by decide)] at H; exact H
    clear H
    have H := H1
    clear H1
    obtain rfl := Option.some.inj H
    go_enter Try.func11, Try.ntmps11
    go_wp2_with (first | ((with_reducible refine gate_dst (N := 1) rfl ?_); refine box_event ?hg (N := 1) ?hd (cs := #[.string a0_0, .int .i64 a0_1]) (t := 57) ?hr ?_; (case hd => rfl); (case hg => rfl); (case hr => first | (go_simp; done) | (go_simp; rfl)); intro gb128 hg w61 hbox hb; have n0_ := Aside0.mk (below_step (by repeat (first | (with_reducible first | exact HB.out | apply below_alloc | apply pw_below_drewN | apply below_drew1) | exact HB.out)) hb); have n1_ := Aside0.mk (hbox); have n2_ := Aside0.mk ((by rw [hg]; exact (below_size (by repeat (first | (with_reducible first | exact HB.out | apply below_alloc | apply pw_below_drewN | apply below_drew1) | exact HB.out))) : w.heap.size ≤ gb128)); have n3_ := Aside0.mk ((by rw [hg]; exact (below_size (by repeat (first | (with_reducible first | exact HB.out | apply below_alloc | apply pw_below_drewN | apply below_drew1) | exact HB.out))) : w.heap.size ≤ gb128)); clear HB; have HB := n0_; have BK128 := n1_; have GW128 := n2_; have GE128 := n3_; clear n0_ n1_ n2_ n3_; clear hb hbox hg; have hcz62_0 : w61.cell? ⟨gb128, 0, none⟩ = some (.string a0_0) := (blk_cell BK128.out 0).trans rfl; have hcz62_1 : w61.cell? ⟨gb128, 1, none⟩ = some (.int .i64 a0_1) := (blk_cell BK128.out 1).trans rfl; have hfz62_0 := blk_frozen BK128.out 0; have hfz62_1 := blk_frozen BK128.out 1) | ((with_reducible refine gate_callee (f := 32) rfl ?_); refine goesL_ (some 10) rfl rfl Try.func32 (by kernel_rfl) rfl #[.agg #[.string a0_0, .int .i64 a0_1]] rfl (by (try simp only [List.map_toArray, List.map_cons, List.map_nil]); first | done | rfl | (simp only [List.length_drop, List.length_take]; rfl) | (simp only [Int.toNat_natCast, ByteArray.extract_zero_size]; rfl)) ?_; (with_reducible refine (laws_zzFits2.calls a0_0 a0_1 false _ A2.out).mono ?_); rintro e w63 ⟨rfl, hb⟩; refine ⟨_, rfl, ?_⟩; have n0_ := Aside0.mk (blk_below (g := gb128) (o := .cells #[.string a0_0, .int .i64 a0_1] 57 (0, 0)) (by (with_reducible repeat (first | refine blk_drewN ?_ _ | refine blk_drew ?_ | refine blk_alloc ?_ _)); exact BK128.out) hb); have n1_ := Aside0.mk (below_step (by repeat (first | (with_reducible first | exact HB.out | apply below_alloc | apply pw_below_drewN | apply below_drew1 | refine below_set ?_ GE128.out) | exact HB.out)) hb); clear BK128; clear HB; have BK128 := n0_; have HB := n1_; clear n0_ n1_; (try clear hb); (try clear hb2); (try clear hk); (try clear hi)))
    go_ret
    exact ⟨by first | rfl | (simp [errW_none, errW_some] <;> rfl) | (simp [*, errW_none, errW_some] <;> rfl), by repeat (first | (with_reducible first | exact HB.out | apply below_alloc | apply pw_below_drewN | apply below_drew1 | refine below_set ?_ GE128.out) | exact HB.out)⟩

/-- THE ONE PURE STATEMENT of laws_FnWordPlaces: yours. -/
def laws_FnWordPlaces.Pure : Prop := ∀ (a0_0 : ByteArray) (a0_1 : Int), a0_0.size ≤ maxLen → (Lit.int .i64 a0_1).wf = true → ∃ k, laws_FnWordPlaces.f k a0_0 a0_1 = some true
theorem laws_FnWordPlaces.walk (P : laws_FnWordPlaces.Pure) (a0_0 : ByteArray) (a0_1 : Int) (w : World) (hg0_0 : a0_0.size ≤ maxLen) (hg0_1 : (Lit.int .i64 a0_1).wf = true) :
    Calls Try.prog 11 #[.agg #[.string a0_0, .int .i64 a0_1]] w fun e w' => e = .returned (.bool true) ∧ Below w.heap.size w w' := by
  obtain ⟨k, h⟩ := P a0_0 a0_1 hg0_0 hg0_1
  refine (laws_FnWordPlaces.calls k a0_0 a0_1 true w h).mono ?_
  rintro e w' ⟨rfl, hd⟩
  exact ⟨rfl, hd⟩

end Go.Proofs.Ythkblefeifdhaaa.PFnWordPlaces
