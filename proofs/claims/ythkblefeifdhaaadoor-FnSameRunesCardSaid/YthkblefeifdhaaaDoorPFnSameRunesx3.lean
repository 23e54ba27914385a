/- Printed by a program of this seat (xprint) out of the translation: Go functions as plain functions, and the walks that show them; no condition. -/
import Derived.Test.YthkblefeifdhaaaDoorPFnSameRunesx0
import Derived.Test.YthkblefeifdhaaaDoorPFnSameRunesx1
import Derived.Test.YthkblefeifdhaaaDoorPFnSameRunesx2
namespace Go.Proofs.YthkblefeifdhaaaDoor.PFnSameRunes
open Go.RowKit Go.Proofs.YthkblefeifdhaaaDoor.H Go.Proofs.YthkblefeifdhaaaDoor.R Go.Proofs.YthkblefeifdhaaaDoorW.PrintWords Go.Proofs.YthkblefeifdhaaaDoorW.PrintLast Go.Proofs.YthkblefeifdhaaaDoorW.PrintMore
attribute [local go_sem] max2_int min2_int max_two min_two max_three min_three max_four min_four   -- for this text's walks alone
set_option linter.unusedVariables false
set_option linter.unusedSimpArgs false

/-! ### readline_Runes_HasPrefix: function 20 -/
def readline_Runes_HasPrefix.f (k : Nat)  (l1 : List Int) (l2 : List Int) : Option (Bool) := if (l1.length : Int) < (l2.length : Int) then (some false) else (if 0 ≤ (l2.length : Int) then (if (l2.length : Int) ≤ (l1.length : Int) then ((readline_Runes_Equal.f k (l1.take ((l2.length : Int) : Int).toNat) l2).bind fun t137 => (some t137)) else (none)) else (none))
theorem readline_Runes_HasPrefix.mono : ∀ a0 a1 k, LeO (readline_Runes_HasPrefix.f k a0 a1) (readline_Runes_HasPrefix.f (k + 1) a0 a1) := by
  intro a0 a1 k
  unfold readline_Runes_HasPrefix.f
  repeat' first
      | (with_reducible exact readline_Runes_Equal.mono _ _ _)
      | (with_reducible exact LeO.refl _)
      | (with_reducible exact LeO.none _)
      | (with_reducible refine LeO.ite ?_ ?_)
      | (with_reducible refine LeO.bind ?_ (fun _ => ?_))
      | exact readline_Runes_Equal.mono _ _ _
      | exact LeO.none _
      | refine LeO.ite ?_ ?_
      | refine LeO.bind ?_ (fun _ => ?_)
def readline_Runes_HasPrefix.T3 : Bool × List (List Nat × List Nat) := (true, [([], []), ([], []), ([], []), ([2], [2]), ([1, 3], [1, 3]), ([], []), ([0, 4, 5], [0, 4, 5]), ([6, 6, 0, 1, 2, 3, 4, 5, 6], [6])])
def readline_Runes_HasPrefix.B3 : List Nat := [0, 0, 0, 4, 14, 0, 63, 127]
theorem readline_Runes_HasPrefix.tab3 : rtab .any (opsOf Tryd.f20 3) = readline_Runes_HasPrefix.T3 := by kernel_rfl
theorem readline_Runes_HasPrefix.bits3 : waitsOk readline_Runes_HasPrefix.T3.2 readline_Runes_HasPrefix.B3 = true := by kernel_rfl
set_option maxHeartbeats 8000000 in
set_option maxRecDepth 100000 in
theorem readline_Runes_HasPrefix.calls (k : Nat)  (A1 : Option Addr) (c1 : Nat) (l1 : List Int) (A2 : Option Addr) (c2 : Nat) (l2 : List Int) (r : Bool) (w : World) (hr1 : Kd.C (Kd.int .i32) w A1 l1.length l1) (hc1 : l1.length ≤ c1) (hr2 : Kd.C (Kd.int .i32) w A2 l2.length l2) (hc2 : l2.length ≤ c2) (h : readline_Runes_HasPrefix.f k l1 l2 = some r) :
    Calls Tryd.prog 20 #[.agg #[], .slice A1 l1.length c1, .slice A2 l2.length c2] w fun e w' => e = .returned (.bool r) ∧ Below w.heap.size w w' := by
  have hu32 := Tryd.underlying32
  have HR1 := Aside0.mk hr1
  have HC1 := Aside0.mk hc1
  clear hr1 hc1
  have HR2 := Aside0.mk hr2
  have HC2 := Aside0.mk hc2
  clear hr2 hc2
  have HB := Aside0.mk (Below.refl w.heap.size w)
  have H : (if (l1.length : Int) < (l2.length : Int) then (some false) else (if 0 ≤ (l2.length : Int) then (if (l2.length : Int) ≤ (l1.length : Int) then ((readline_Runes_Equal.f k (l1.take ((l2.length : Int) : Int).toNat) l2).bind fun t137 => (some t137)) else (none)) else (none))) = some r := h
  clear h
  by_cases c4 : (l1.length : Int) < (l2.length : Int)
  · rw [if_pos c4] at H
    have c4b0 : decide ((l1.length : Int) < (l2.length : Int)) = true := decide_eq_true c4
    have c4b1 : decide (l1.length < l2.length) = true := decide_eq_true (Int.ofNat_lt.mp c4)
    clear c4
    obtain rfl := Option.some.inj H
    go_enter Tryd.func20, Tryd.ntmps20
    go_wp2_with (first | ((with_reducible refine gate_dst (N := 3) rfl ?_); refine box_event ?hg (N := 3) ?hd (cs := #[]) (t := 32) ?hr ?_; (case hd => rfl); (case hg => rfl); (case hr => first | (go_simp; done) | (go_simp; rfl)); intro gb135 hg w5 hbox hb; have n0_ := Aside0.mk (below_step (by repeat (first | (with_reducible first | exact HB.out | apply below_alloc | apply pw_below_drewN | apply below_drew1) | exact HB.out)) hb); have n1_ := Aside0.mk (hbox); have n2_ := Aside0.mk ((by rw [hg]; exact (below_size (by repeat (first | (with_reducible first | exact HB.out | apply below_alloc | apply pw_below_drewN | apply below_drew1) | exact HB.out))) : w.heap.size ≤ gb135)); have n3_ := Aside0.mk ((by rw [hg]; exact (below_size (by repeat (first | (with_reducible first | exact HB.out | apply below_alloc | apply pw_below_drewN | apply below_drew1) | exact HB.out))) : w.heap.size ≤ gb135)); clear HB; have HB := n0_; have BK135 := n1_; have GW135 := n2_; have GE135 := n3_; clear n0_ n1_ n2_ n3_; clear hb hbox hg))
    go_ret
    exact ⟨by first | rfl | (simp [errW_none, errW_some] <;> rfl) | (simp [*, errW_none, errW_some] <;> rfl), by repeat (first | (with_reducible first | exact HB.out | apply below_alloc | apply pw_below_drewN | apply below_drew1 | refine below_set ?_ GE135.out) | exact HB.out)⟩
  · rw [if_neg c4] at H
    have c4b0 : decide ((l1.length : Int) < (l2.length : Int)) = false := decide_eq_false c4
    have c4b1 : decide (l1.length < l2.length) = false := decide_eq_false (fun h => c4 (Int.ofNat_lt.mpr h))
    clear c4
    by_cases c6 : 0 ≤ (l2.length : Int)
    · rw [if_pos c6] at H
      have c6b0 := eq_true c6
      have c6b1 : decide (0 ≤ (l2.length : Int)) = true := decide_eq_true c6
      clear c6
      by_cases c7 : (l2.length : Int) ≤ (l1.length : Int)
      · rw [if_pos c7] at H
        have c7b0 := eq_true c7
        have c7b1 : decide ((l2.length : Int) ≤ (l1.length : Int)) = true := decide_eq_true c7
        clear c7
        replace H := Option.bind_eq_some_iff.mp H
        obtain ⟨t137, A80, H⟩ := H
        replace H : (some t137) = some r := H
        have A8 := Aside0.mk A80
        clear A80
        obtain rfl := Option.some.inj H
        go_enter Tryd.func20, Tryd.ntmps20
        try go_wp2_with (first | ((with_reducible refine gate_dst (N := 3) rfl ?_); refine box_event ?hg (N := 3) ?hd (cs := #[]) (t := 32) ?hr ?_; (case hd => rfl); (case hg => rfl); (case hr => first | (go_simp; done) | (go_simp; rfl)); intro gb135 hg w9 hbox hb; have n0_ := Aside0.mk (below_step (by repeat (first | (with_reducible first | exact HB.out | apply below_alloc | apply pw_below_drewN | apply below_drew1) | exact HB.out)) hb); have n1_ := Aside0.mk (hbox); have n2_ := Aside0.mk ((by rw [hg]; exact (below_size (by repeat (first | (with_reducible first | exact HB.out | apply below_alloc | apply pw_below_drewN | apply below_drew1) | exact HB.out))) : w.heap.size ≤ gb135)); have n3_ := Aside0.mk ((by rw [hg]; exact (below_size (by repeat (first | (with_reducible first | exact HB.out | apply below_alloc | apply pw_below_drewN | apply below_drew1) | exact HB.out))) : w.heap.size ≤ gb135)); clear HB; have HB := n0_; have BK135 := n1_; have GW135 := n2_; have GE135 := n3_; clear n0_ n1_ n2_ n3_; clear hb hbox hg))
        have n0_ := Aside0.mk (blk_drew BK135.out)
        have n1_ := Aside0.mk (below_drew1 HB.out)
        clear BK135
        clear HB
        have BK135 := n0_
        have HB := n1_
        clear n0_ n1_
        obtain ⟨i011, hi011, _, hsz11, _⟩ := info_parts info21
        obtain ⟨hcut11, hA11, hC11⟩ := print_take_of (P := Tryd.prog) (Value.int .i32) 0 26 21 .i64 Tryd.underlying26 hi011 hsz11 A1 c1 l1 (l2.length : Int) (of_decide_eq_true (by first | (with_reducible assumption) | assumption)) (of_decide_eq_true (by first | (with_reducible assumption) | assumption)) HC1.out
        have HR136 := Aside0.mk (Kd.C_of_reads (h1 := fun _ => rfl) (hA11 _ (Kd.reads_of_C HR1.out)))
        have HC136 := Aside0.mk hC11
        clear hA11 hC11 hi011 hsz11
        refine start_ (n := 8) (S := fun w' => True) (ds := []) #[false, false, false, false, false, false, false, false] (by kernel_rfl) rfl rfl trivial (fun hHeld => ?_); refine with_tabW readline_Runes_HasPrefix.tab3 readline_Runes_HasPrefix.bits3 (fun HT_ HW_ => ?_)
        generalize w9.drew = w10 at BK135 HB HR136 hHeld ⊢
        refine pure_ (i := 1) (N := some 13) (v := ?_) (a' := ?_) #[false, true, false, false, false, false, false, false] rfl rfl (any_of HT_.out (by kernel_rfl)) (fun _ _ _ h => h) (Or.inl ⟨by rfl, ?_⟩) ?_ ?_
        rotate_left
        · intro w'
          go_simp
          with_reducible rfl
        rotate_left
        · simp only [Act.put, List.setIfInBounds_toArray, List.set_cons_zero, List.set_cons_succ, i64_w, i32_w]
          rfl
        refine pure_ (i := 2) (N := some 14) (v := ?_) (a' := ?_) #[false, true, true, false, false, false, false, false] rfl rfl (any_of HT_.out (by kernel_rfl)) (fun _ _ _ h => h) (Or.inl ⟨by rfl, ?_⟩) ?_ ?_
        rotate_left
        · intro w'
          go_simp
          with_reducible rfl
        rotate_left
        · simp only [Act.put, List.setIfInBounds_toArray, List.set_cons_zero, List.set_cons_succ, i64_w, i32_w]
          rfl
        refine pure_ (i := 3) (N := some 15) (v := ?_) (a' := ?_) #[false, true, true, true, false, false, false, false] rfl rfl (any_of HT_.out (by kernel_rfl)) (fun _ _ _ h => h) (Or.inl ⟨by rfl, ?_⟩) ?_ ?_
        rotate_left
        · intro w'
          go_simp
          with_reducible rfl
        rotate_left
        · simp only [Act.put, List.setIfInBounds_toArray, List.set_cons_zero, List.set_cons_succ, i64_w, i32_w]
          rfl
        refine pure_ (i := 4) (N := some 16) (v := ?_) (a' := ?_) #[false, true, true, true, true, false, false, false] rfl rfl (any_of HT_.out (by kernel_rfl)) (fun _ _ _ h => h) (Or.inl ⟨by rfl, ?_⟩) ?_ ?_
        rotate_left
        · intro w'
          go_simp
          with_reducible rfl
        rotate_left
        · simp only [Act.put, List.setIfInBounds_toArray, List.set_cons_zero, List.set_cons_succ, i64_w, i32_w]
          rfl
        refine pure_ (i := 5) (N := some 17) (v := ?_) (a' := ?_) #[false, true, true, true, true, true, false, false] rfl rfl (any_of HT_.out (by kernel_rfl)) (fun _ _ _ h => h) (Or.inl ⟨by rfl, ?_⟩) ?_ ?_
        rotate_left
        · intro w'
          go_simp
          with_reducible rfl
        rotate_left
        · simp only [Act.put, List.setIfInBounds_toArray, List.set_cons_zero, List.set_cons_succ, i64_w, i32_w]
          rfl
        refine take_ (i := 0) (N := some 12) (v := ?_) (a' := ?_) #[true, true, true, true, true, true, false, false] rfl rfl (take_ofW HT_.out HW_.out (by kernel_rfl)) (fun _ _ _ h => h) (Or.inl ⟨by rfl, ?_⟩) hHeld ?_ ?_
        rotate_left
        · intro w' _
          go_simp
          with_reducible rfl
        rotate_left
        · simp only [Act.put, List.setIfInBounds_toArray, List.set_cons_zero, List.set_cons_succ, i64_w, i32_w]
          rfl
        refine one_ (i := 6) (N := some 18) #[true, true, true, true, true, true, true, false] rfl rfl (one_of HT_.out (by kernel_rfl)) (by decide) (fun K hK => ?_)
        refine goes_ Tryd.func18 (by kernel_rfl) rfl #[.agg #[], .slice A1 (l1.take ((l2.length : Int) : Int).toNat).length c1, .slice A2 l2.length c2] (by rfl) rfl rfl (by (try simp only [List.map_toArray, List.map_cons, List.map_nil]); first | done | (rw [show (l1.take ((l2.length : Int) : Int).toNat).length = (l2.length : Int).toNat from (by rw [List.length_take]; have h_ : ((l2.length : Int) : Int) ≤ (l1.length : Int) := of_decide_eq_true (by first | (with_reducible assumption) | assumption); omega)] <;> rfl) | rfl | (simp only [List.length_drop, List.length_take]; rfl)) ?_
        with_reducible refine (readline_Runes_Equal.calls k  _ _ (l1.take ((l2.length : Int) : Int).toNat) _ _ l2 t137 _ ?side1 ?side2 ?side3 ?side4 A8.out).mono ?_
        (case side1 => repeat (first | exact (Kd.C_below HR136.out HB.out) | (with_reducible refine Kd.C_alloc ?_ _) | (with_reducible refine Kd.C_drewN ?_ _) | (with_reducible refine Kd.C_drew ?_)))
        (case side2 => exact HC136.out)
        (case side3 => repeat (first | exact (Kd.C_below HR2.out HB.out) | (with_reducible refine Kd.C_alloc ?_ _) | (with_reducible refine Kd.C_drewN ?_ _) | (with_reducible refine Kd.C_drew ?_)))
        (case side4 => exact HC2.out)
        rintro e w12 ⟨rfl, hb⟩
        refine ⟨_, rfl, ?_⟩
        have n0_ := Aside0.mk (blk_below (g := gb135) (o := .cells #[] 32 (0, 0)) (by (with_reducible repeat (first | refine blk_drewN ?_ _ | refine blk_drew ?_ | refine blk_alloc ?_ _)); exact BK135.out) hb)
        have n1_ := Aside0.mk (below_step (by repeat (first | (with_reducible first | exact HB.out | apply below_alloc | apply pw_below_drewN | apply below_drew1 | refine below_set ?_ GE135.out) | exact HB.out)) hb)
        clear BK135
        clear HB
        have BK135 := n0_
        have HB := n1_
        clear n0_ n1_
        (try clear hb)
        (try clear hb2)
        (try clear hk)
        (try clear hi)
        refine hK.out _ _ trivial (fun hHeld => ?_)
        clear hK K
        refine norm_ (a' := ?_) ?_ ?_
        rotate_left
        · show Act.put _ (some 18) _ = _
          simp only [Act.put, List.setIfInBounds_toArray, List.set_cons_zero, List.set_cons_succ, i64_w, i32_w]
          rfl
        refine pure_ (i := 7) (N := some 6) (v := ?_) (a' := ?_) #[true, true, true, true, true, true, true, true] rfl rfl (any_of HT_.out (by kernel_rfl)) (fun _ _ _ h => h) (Or.inl ⟨by rfl, ?_⟩) ?_ ?_
        rotate_left
        · intro w'
          go_simp
          with_reducible rfl
        rotate_left
        · simp only [Act.put, List.setIfInBounds_toArray, List.set_cons_zero, List.set_cons_succ, i64_w, i32_w]
          rfl
        refine done_ (done_of HT_.out (by kernel_rfl)) ?_
        try go_wp2
        go_ret
        exact ⟨by first | rfl | (simp [errW_none, errW_some] <;> rfl) | (simp [*, errW_none, errW_some] <;> rfl), by repeat (first | (with_reducible first | exact HB.out | apply below_alloc | apply pw_below_drewN | apply below_drew1 | refine below_set ?_ GE135.out) | exact HB.out)⟩
      · rw [if_neg c7] at H
        exact absurd H (by simp)
    · rw [if_neg c6] at H
      exact absurd H (by simp)

/-! ### impl_BeginsRunes: function 11 -/
def impl_BeginsRunes.f (k : Nat) (a0 : ByteArray) (a1 : ByteArray) (a2 : Bool) : Option (Bool) := if a2 = true then (if (runesOf a0).length ≤ 70368744177664 then (if (runesOf a1).length ≤ 70368744177664 then ((readline_Runes_HasPrefixFold.f k (runesOf a0) (runesOf a1)).bind fun t144 => (some t144)) else (none)) else (none)) else (if (runesOf a0).length ≤ 70368744177664 then (if (runesOf a1).length ≤ 70368744177664 then ((readline_Runes_HasPrefix.f k (runesOf a0) (runesOf a1)).bind fun t151 => (some t151)) else (none)) else (none))
theorem impl_BeginsRunes.mono : ∀ a0 a1 a2 k, LeO (impl_BeginsRunes.f k a0 a1 a2) (impl_BeginsRunes.f (k + 1) a0 a1 a2) := by
  intro a0 a1 a2 k
  unfold impl_BeginsRunes.f
  repeat' first
      | (with_reducible exact readline_Runes_HasPrefix.mono _ _ _)
      | (with_reducible exact readline_Runes_HasPrefixFold.mono _ _ _)
      | (with_reducible exact LeO.refl _)
      | (with_reducible exact LeO.none _)
      | (with_reducible refine LeO.ite ?_ ?_)
      | (with_reducible refine LeO.bind ?_ (fun _ => ?_))
      | exact readline_Runes_HasPrefix.mono _ _ _
      | exact readline_Runes_HasPrefixFold.mono _ _ _
      | exact LeO.none _
      | refine LeO.ite ?_ ?_
      | refine LeO.bind ?_ (fun _ => ?_)
set_option maxHeartbeats 8000000 in
set_option maxRecDepth 100000 in
theorem impl_BeginsRunes.calls (k : Nat) (a0 : ByteArray) (a1 : ByteArray) (a2 : Bool) (r : Bool) (w : World) (h : impl_BeginsRunes.f k a0 a1 a2 = some r) :
    Calls Tryd.prog 11 #[.string a0, .string a1, .bool a2] w fun e w' => e = .returned (.bool r) ∧ Below w.heap.size w w' := by
  have hu32 := Tryd.underlying32
  have HB := Aside0.mk (Below.refl w.heap.size w)
  have H : (if a2 = true then (if (runesOf a0).length ≤ 70368744177664 then (if (runesOf a1).length ≤ 70368744177664 then ((readline_Runes_HasPrefixFold.f k (runesOf a0) (runesOf a1)).bind fun t144 => (some t144)) else (none)) else (none)) else (if (runesOf a0).length ≤ 70368744177664 then (if (runesOf a1).length ≤ 70368744177664 then ((readline_Runes_HasPrefix.f k (runesOf a0) (runesOf a1)).bind fun t151 => (some t151)) else (none)) else (none))) = some r := h
  clear h
  by_cases c4 : a2 = true
  · subst c4
    have H1 : (if (runesOf a0).length ≤ 70368744177664 then (if (runesOf a1).length ≤ 70368744177664 then ((readline_Runes_HasPrefixFold.f k (runesOf a0) (runesOf a1)).bind fun t144 => (some t144)) else (none)) else (none)) = some r := by rw [if_pos rfl] at H; exact H
    clear H
    have H := H1
    clear H1
    by_cases c5 : (runesOf a0).length ≤ 70368744177664
    · rw [if_pos c5] at H
      have c5b0 := eq_true c5
      have c5b1 : decide ((runesOf a0).length ≤ 70368744177664) = true := decide_eq_true c5
      clear c5
      obtain ⟨y138, hy138⟩ : ∃ y_ : List Int, y_ = (runesOf a0) := ⟨_, rfl⟩
      replace H : (if (runesOf a1).length ≤ 70368744177664 then ((readline_Runes_HasPrefixFold.f k y138 (runesOf a1)).bind fun t144 => (some t144)) else (none)) = some r := by first | (rw [hy138]; with_reducible exact H) | (have H2_ := (Option.bind_some _ _).symm.trans H; rw [hy138]; with_reducible exact H2_) | (have H2_ := (Option.bind_some _ _).symm.trans H; with_reducible exact H2_) | with_reducible exact H | (rw [hy138]; exact H) | exact H
      have Ny138 := Aside0.mk hy138
      clear hy138
      by_cases c6 : (runesOf a1).length ≤ 70368744177664
      · rw [if_pos c6] at H
        have c6b0 := eq_true c6
        have c6b1 : decide ((runesOf a1).length ≤ 70368744177664) = true := decide_eq_true c6
        clear c6
        obtain ⟨y141, hy141⟩ : ∃ y_ : List Int, y_ = (runesOf a1) := ⟨_, rfl⟩
        replace H : ((readline_Runes_HasPrefixFold.f k y138 y141).bind fun t144 => (some t144)) = some r := by first | (rw [hy141]; with_reducible exact H) | (have H2_ := (Option.bind_some _ _).symm.trans H; rw [hy141]; with_reducible exact H2_) | (have H2_ := (Option.bind_some _ _).symm.trans H; with_reducible exact H2_) | with_reducible exact H | (rw [hy141]; exact H) | exact H
        have Ny141 := Aside0.mk hy141
        clear hy141
        replace H := Option.bind_eq_some_iff.mp H
        obtain ⟨t144, A70, H⟩ := H
        replace H : (some t144) = some r := H
        have A7 := Aside0.mk A70
        clear A70
        obtain rfl := Option.some.inj H
        go_enter Tryd.func11, Tryd.ntmps11
        go_wp2_with (first | ((with_reducible refine gate_dst (N := 10) rfl ?_); refine R_runes _ 21 rfl (N := 10) rfl 9 26 _ rfl a0 rfl Tryd.underlying9 Tryd.underlying26 Tryd.underlying21 (ok := fun _ => True) (okp := fun _ => True) (fun _ hk => hk) trivial (of_decide_eq_true (by first | (with_reducible assumption) | assumption)) (Below.refl _ _) (Nat.le_refl _) ?_; intro v139 w8 ho9 hb hg_ hnew_; clear hg_ hnew_; (first | rw [← Ny138.out] at ho9 | (simp only [Int.reduceToNat] at ho9; rw [← Ny138.out] at ho9)); have n0_ := Aside0.mk (Kd.R_lower ho9 (below_size (by repeat (first | (with_reducible first | exact HB.out | apply below_alloc | apply pw_below_drewN | apply below_drew1) | exact HB.out)))); have n1_ := Aside0.mk (below_step (by repeat (first | (with_reducible first | exact HB.out | apply below_alloc | apply pw_below_drewN | apply below_drew1) | exact HB.out)) hb); clear HB; have HO140 := n0_; have HB := n1_; clear n0_ n1_; clear hb ho9) | ((with_reducible refine gate_dst (N := 12) rfl ?_); refine R_runes _ 21 rfl (N := 12) rfl 9 26 _ rfl a1 rfl Tryd.underlying9 Tryd.underlying26 Tryd.underlying21 (ok := fun _ => True) (okp := fun _ => True) (fun _ hk => hk) trivial (of_decide_eq_true (by first | (with_reducible assumption) | assumption)) (Below.refl _ _) (Nat.le_refl _) ?_; intro v142 w10 ho11 hb hg_ hnew_; clear hg_ hnew_; (first | rw [← Ny141.out] at ho11 | (simp only [Int.reduceToNat] at ho11; rw [← Ny141.out] at ho11)); have n0_ := Aside0.mk (Kd.R_elder' (by (with_reducible repeat (first | apply Kd.R_alloc | apply Kd.R_drewN | apply Kd.R_drew)); exact HO140.out) (Kd.R_base ho11) hb); have n1_ := Aside0.mk (Kd.R_lower (Kd.R_new' ho11 (Kd.R_lt (by (with_reducible repeat (first | apply Kd.R_alloc | apply Kd.R_drewN | apply Kd.R_drew)); exact HO140.out))) (below_size (by repeat (first | (with_reducible first | exact HB.out | apply below_alloc | apply pw_below_drewN | apply below_drew1) | exact HB.out)))); have n2_ := Aside0.mk (below_step (by repeat (first | (with_reducible first | exact HB.out | apply below_alloc | apply pw_below_drewN | apply below_drew1) | exact HB.out)) hb); clear HO140; clear HB; have HO140 := n0_; have HO143 := n1_; have HB := n2_; clear n0_ n1_ n2_; clear hb ho11; obtain ⟨Ao12, co12, eo12⟩ := Kd.R_slice HO140.out; subst eo12; obtain ⟨Ao13, co13, eo13⟩ := Kd.R_slice HO143.out; subst eo13) | ((with_reducible refine gate_callee (f := 19) rfl ?_); refine goesL_ (some 13) rfl rfl Tryd.func19 (by kernel_rfl) rfl #[.agg #[], .slice Ao12 y138.length co12, .slice Ao13 y141.length co13] rfl (by (try simp only [List.map_toArray, List.map_cons, List.map_nil]); first | done | rfl | (simp only [List.length_drop, List.length_take]; rfl)) ?_; (with_reducible refine (readline_Runes_HasPrefixFold.calls k  _ _ y138 _ _ y141 t144 _ ?side1 ?side2 ?side3 ?side4 A7.out).mono ?_); (case side1 => repeat (first | exact (Kd.R_reads' HO140.out).2.2 | (with_reducible refine Kd.C_alloc ?_ _) | (with_reducible refine Kd.C_drewN ?_ _) | (with_reducible refine Kd.C_drew ?_))); (case side2 => exact (Kd.R_reads' HO140.out).2.1); (case side3 => repeat (first | exact (Kd.R_reads' HO143.out).2.2 | (with_reducible refine Kd.C_alloc ?_ _) | (with_reducible refine Kd.C_drewN ?_ _) | (with_reducible refine Kd.C_drew ?_))); (case side4 => exact (Kd.R_reads' HO143.out).2.1); rintro e w14 ⟨rfl, hb⟩; refine ⟨_, rfl, ?_⟩; have n0_ := Aside0.mk (Kd.R_below (by (with_reducible repeat (first | apply Kd.R_alloc | apply Kd.R_drewN | apply Kd.R_drew)); exact HO140.out) hb); have n1_ := Aside0.mk (Kd.R_below (by (with_reducible repeat (first | apply Kd.R_alloc | apply Kd.R_drewN | apply Kd.R_drew)); exact HO143.out) hb); have n2_ := Aside0.mk (below_step (by repeat (first | (with_reducible first | exact HB.out | apply below_alloc | apply pw_below_drewN | apply below_drew1) | exact HB.out)) hb); clear HO140; clear HO143; clear HB; have HO140 := n0_; have HO143 := n1_; have HB := n2_; clear n0_ n1_ n2_; (try clear hb); (try clear hb2); (try clear hk); (try clear hi)))
        go_ret
        exact ⟨by first | rfl | (simp [errW_none, errW_some] <;> rfl) | (simp [*, errW_none, errW_some] <;> rfl), by repeat (first | (with_reducible first | exact HB.out | apply below_alloc | apply pw_below_drewN | apply below_drew1) | exact HB.out)⟩
      · rw [if_neg c6] at H
        exact absurd H (by simp)
    · rw [if_neg c5] at H
      exact absurd H (by simp)
  · replace c4 := Bool.eq_false_iff.mpr c4
    subst c4
    have H1 : (if (runesOf a0).length ≤ 70368744177664 then (if (runesOf a1).length ≤ 70368744177664 then ((readline_Runes_HasPrefix.f k (runesOf a0) (runesOf a1)).bind fun t151 => (some t151)) else (none)) else (none)) = some r := by rw [if_neg (show ¬ (false = true) by decide)] at H; exact H
    clear H
    have H := H1
    clear H1
    by_cases c15 : (runesOf a0).length ≤ 70368744177664
    · rw [if_pos c15] at H
      have c15b0 := eq_true c15
      have c15b1 : decide ((runesOf a0).length ≤ 70368744177664) = true := decide_eq_true c15
      clear c15
      obtain ⟨y145, hy145⟩ : ∃ y_ : List Int, y_ = (runesOf a0) := ⟨_, rfl⟩
      replace H : (if (runesOf a1).length ≤ 70368744177664 then ((readline_Runes_HasPrefix.f k y145 (runesOf a1)).bind fun t151 => (some t151)) else (none)) = some r := by first | (rw [hy145]; with_reducible exact H) | (have H2_ := (Option.bind_some _ _).symm.trans H; rw [hy145]; with_reducible exact H2_) | (have H2_ := (Option.bind_some _ _).symm.trans H; with_reducible exact H2_) | with_reducible exact H | (rw [hy145]; exact H) | exact H
      have Ny145 := Aside0.mk hy145
      clear hy145
      by_cases c16 : (runesOf a1).length ≤ 70368744177664
      · rw [if_pos c16] at H
        have c16b0 := eq_true c16
        have c16b1 : decide ((runesOf a1).length ≤ 70368744177664) = true := decide_eq_true c16
        clear c16
        obtain ⟨y148, hy148⟩ : ∃ y_ : List Int, y_ = (runesOf a1) := ⟨_, rfl⟩
        replace H : ((readline_Runes_HasPrefix.f k y145 y148).bind fun t151 => (some t151)) = some r := by first | (rw [hy148]; with_reducible exact H) | (have H2_ := (Option.bind_some _ _).symm.trans H; rw [hy148]; with_reducible exact H2_) | (have H2_ := (Option.bind_some _ _).symm.trans H; with_reducible exact H2_) | with_reducible exact H | (rw [hy148]; exact H) | exact H
        have Ny148 := Aside0.mk hy148
        clear hy148
        replace H := Option.bind_eq_some_iff.mp H
        obtain ⟨t151, A170, H⟩ := H
        replace H : (some t151) = some r := H
        have A17 := Aside0.mk A170
        clear A170
        obtain rfl := Option.some.inj H
        go_enter Tryd.func11, Tryd.ntmps11
        go_wp2_with (first | ((with_reducible refine gate_dst (N := 16) rfl ?_); refine R_runes _ 21 rfl (N := 16) rfl 9 26 _ rfl a0 rfl Tryd.underlying9 Tryd.underlying26 Tryd.underlying21 (ok := fun _ => True) (okp := fun _ => True) (fun _ hk => hk) trivial (of_decide_eq_true (by first | (with_reducible assumption) | assumption)) (Below.refl _ _) (Nat.le_refl _) ?_; intro v146 w18 ho19 hb hg_ hnew_; clear hg_ hnew_; (first | rw [← Ny145.out] at ho19 | (simp only [Int.reduceToNat] at ho19; rw [← Ny145.out] at ho19)); have n0_ := Aside0.mk (Kd.R_lower ho19 (below_size (by repeat (first | (with_reducible first | exact HB.out | apply below_alloc | apply pw_below_drewN | apply below_drew1) | exact HB.out)))); have n1_ := Aside0.mk (below_step (by repeat (first | (with_reducible first | exact HB.out | apply below_alloc | apply pw_below_drewN | apply below_drew1) | exact HB.out)) hb); clear HB; have HO147 := n0_; have HB := n1_; clear n0_ n1_; clear hb ho19) | ((with_reducible refine gate_dst (N := 18) rfl ?_); refine R_runes _ 21 rfl (N := 18) rfl 9 26 _ rfl a1 rfl Tryd.underlying9 Tryd.underlying26 Tryd.underlying21 (ok := fun _ => True) (okp := fun _ => True) (fun _ hk => hk) trivial (of_decide_eq_true (by first | (with_reducible assumption) | assumption)) (Below.refl _ _) (Nat.le_refl _) ?_; intro v149 w20 ho21 hb hg_ hnew_; clear hg_ hnew_; (first | rw [← Ny148.out] at ho21 | (simp only [Int.reduceToNat] at ho21; rw [← Ny148.out] at ho21)); have n0_ := Aside0.mk (Kd.R_elder' (by (with_reducible repeat (first | apply Kd.R_alloc | apply Kd.R_drewN | apply Kd.R_drew)); exact HO147.out) (Kd.R_base ho21) hb); have n1_ := Aside0.mk (Kd.R_lower (Kd.R_new' ho21 (Kd.R_lt (by (with_reducible repeat (first | apply Kd.R_alloc | apply Kd.R_drewN | apply Kd.R_drew)); exact HO147.out))) (below_size (by repeat (first | (with_reducible first | exact HB.out | apply below_alloc | apply pw_below_drewN | apply below_drew1) | exact HB.out)))); have n2_ := Aside0.mk (below_step (by repeat (first | (with_reducible first | exact HB.out | apply below_alloc | apply pw_below_drewN | apply below_drew1) | exact HB.out)) hb); clear HO147; clear HB; have HO147 := n0_; have HO150 := n1_; have HB := n2_; clear n0_ n1_ n2_; clear hb ho21; obtain ⟨Ao22, co22, eo22⟩ := Kd.R_slice HO147.out; subst eo22; obtain ⟨Ao23, co23, eo23⟩ := Kd.R_slice HO150.out; subst eo23) | ((with_reducible refine gate_callee (f := 20) rfl ?_); refine goesL_ (some 19) rfl rfl Tryd.func20 (by kernel_rfl) rfl #[.agg #[], .slice Ao22 y145.length co22, .slice Ao23 y148.length co23] rfl (by (try simp only [List.map_toArray, List.map_cons, List.map_nil]); first | done | rfl | (simp only [List.length_drop, List.length_take]; rfl)) ?_; (with_reducible refine (readline_Runes_HasPrefix.calls k  _ _ y145 _ _ y148 t151 _ ?side1 ?side2 ?side3 ?side4 A17.out).mono ?_); (case side1 => repeat (first | exact (Kd.R_reads' HO147.out).2.2 | (with_reducible refine Kd.C_alloc ?_ _) | (with_reducible refine Kd.C_drewN ?_ _) | (with_reducible refine Kd.C_drew ?_))); (case side2 => exact (Kd.R_reads' HO147.out).2.1); (case side3 => repeat (first | exact (Kd.R_reads' HO150.out).2.2 | (with_reducible refine Kd.C_alloc ?_ _) | (with_reducible refine Kd.C_drewN ?_ _) | (with_reducible refine Kd.C_drew ?_))); (case side4 => exact (Kd.R_reads' HO150.out).2.1); rintro e w24 ⟨rfl, hb⟩; refine ⟨_, rfl, ?_⟩; have n0_ := Aside0.mk (Kd.R_below (by (with_reducible repeat (first | apply Kd.R_alloc | apply Kd.R_drewN | apply Kd.R_drew)); exact HO147.out) hb); have n1_ := Aside0.mk (Kd.R_below (by (with_reducible repeat (first | apply Kd.R_alloc | apply Kd.R_drewN | apply Kd.R_drew)); exact HO150.out) hb); have n2_ := Aside0.mk (below_step (by repeat (first | (with_reducible first | exact HB.out | apply below_alloc | apply pw_below_drewN | apply below_drew1) | exact HB.out)) hb); clear HO147; clear HO150; clear HB; have HO147 := n0_; have HO150 := n1_; have HB := n2_; clear n0_ n1_ n2_; (try clear hb); (try clear hb2); (try clear hk); (try clear hi)))
        go_ret
        exact ⟨by first | rfl | (simp [errW_none, errW_some] <;> rfl) | (simp [*, errW_none, errW_some] <;> rfl), by repeat (first | (with_reducible first | exact HB.out | apply below_alloc | apply pw_below_drewN | apply below_drew1) | exact HB.out)⟩
      · rw [if_neg c16] at H
        exact absurd H (by simp)
    · rw [if_neg c15] at H
      exact absurd H (by simp)

/-! ### laws_FnSameRunes: function 4 -/
mutual
def laws_FnSameRunes.j0 : Nat → ByteArray → ByteArray → Bool → Bool → Option (Bool)
  | 0, _, _, _, _ => none
  | k + 1, x0, x1, x2, x17 => if x17 = true then (some true) else ((laws_whole9.f k (([x0, x1] : List ByteArray))).bind fun t155 => (if t155 = true then (if x2 = true then ((laws_ascii9.f k x0).bind fun t156 => (if t156 = true then ((laws_ascii9.f k x1).bind fun t157 => (laws_FnSameRunes.j1 k x0 x1 x2 (!t157))) else (laws_FnSameRunes.j1 k x0 x1 x2 true))) else (laws_FnSameRunes.j1 k x0 x1 x2 false)) else (laws_FnSameRunes.j1 k x0 x1 x2 true)))
def laws_FnSameRunes.j1 : Nat → ByteArray → ByteArray → Bool → Bool → Option (Bool)
  | 0, _, _, _, _ => none
  | k + 1, x0, x1, x2, x35 => if x35 = true then (some true) else (if (runesOf x0).length ≤ 70368744177664 then ((some (runesOf x0 : List Int)).bind fun y158 => (if (runesOf x1).length ≤ 70368744177664 then ((some (runesOf x1 : List Int)).bind fun y161 => (if (y158.length : Int) = (y161.length : Int) then ((spec_SameAt.f k y158 y161 0 x2).bind fun t164 => (laws_FnSameRunes.j2 k x0 x1 x2 y158 y161 t164)) else (laws_FnSameRunes.j2 k x0 x1 x2 y158 y161 false))) else (none))) else (none))
def laws_FnSameRunes.j2 : Nat → ByteArray → ByteArray → Bool → List Int → List Int → Bool → Option (Bool)
  | 0, _, _, _, _, _, _ => none
  | k + 1, x0, x1, x2, x7, x8, x9 => (impl_SameRunes.f k x0 x1 x2).bind fun t165 => (if (t165 == x9) = true then (if x1.toList = ([] : List UInt8) then ((impl_SameRunes.f k (⟨#[97]⟩ : ByteArray) (⟨#[97]⟩ : ByteArray) false).bind fun t166 => (some t166)) else ((impl_BeginsRunes.f k x0 x1 x2).bind fun t167 => ((spec_SameAt.f k x7 x8 0 x2).bind fun t168 => (if (t167 == t168) = true then ((impl_SameRunes.f k (⟨#[97]⟩ : ByteArray) (⟨#[97]⟩ : ByteArray) false).bind fun t169 => (some t169)) else (some false))))) else (some false))
end
def laws_FnSameRunes.f (k : Nat) (a0 : ByteArray) (a1 : ByteArray) (a2 : Bool) : Option (Bool) := if (a0.size : Int) > 2147483647 then (laws_FnSameRunes.j0 k a0 a1 a2 true) else (laws_FnSameRunes.j0 k a0 a1 a2 (decide ((a1.size : Int) > 2147483647)))
theorem laws_FnSameRunes.mono_l : ∀ k, (∀ y0 y1 y2 y3, LeO (laws_FnSameRunes.j0 k y0 y1 y2 y3) (laws_FnSameRunes.j0 (k + 1) y0 y1 y2 y3)) ∧ (∀ y0 y1 y2 y3, LeO (laws_FnSameRunes.j1 k y0 y1 y2 y3) (laws_FnSameRunes.j1 (k + 1) y0 y1 y2 y3)) ∧ (∀ y0 y1 y2 y3 y4 y5, LeO (laws_FnSameRunes.j2 k y0 y1 y2 y3 y4 y5) (laws_FnSameRunes.j2 (k + 1) y0 y1 y2 y3 y4 y5))
  | 0 => ⟨fun _ _ _ _ r h => by simp [laws_FnSameRunes.j0] at h, fun _ _ _ _ r h => by simp [laws_FnSameRunes.j1] at h, fun _ _ _ _ _ _ r h => by simp [laws_FnSameRunes.j2] at h⟩
  | k + 1 => by
    obtain ⟨ih0, ih1, ih2⟩ := laws_FnSameRunes.mono_l k
    refine ⟨?_, ?_, ?_⟩
    · intro y0 y1 y2 y3
      unfold laws_FnSameRunes.j0
      repeat' first
      | (with_reducible exact ih0 _ _ _ _)
      | (with_reducible exact ih1 _ _ _ _)
      | (with_reducible exact ih2 _ _ _ _ _ _)
      | (with_reducible exact impl_BeginsRunes.mono _ _ _ _)
      | (with_reducible exact impl_SameRunes.mono _ _ _ _)
      | (with_reducible exact laws_ascii9.mono _ _)
      | (with_reducible exact laws_whole9.mono _ _)
      | (with_reducible exact spec_SameAt.mono _ _ _ _ _)
      | (with_reducible exact LeO.refl _)
      | (with_reducible exact LeO.none _)
      | (with_reducible refine LeO.ite ?_ ?_)
      | (with_reducible refine LeO.bind ?_ (fun _ => ?_))
      | exact ih0 _ _ _ _
      | exact ih1 _ _ _ _
      | exact ih2 _ _ _ _ _ _
      | exact impl_BeginsRunes.mono _ _ _ _
      | exact impl_SameRunes.mono _ _ _ _
      | exact laws_ascii9.mono _ _
      | exact laws_whole9.mono _ _
      | exact spec_SameAt.mono _ _ _ _ _
      | exact LeO.none _
      | refine LeO.ite ?_ ?_
      | refine LeO.bind ?_ (fun _ => ?_)
    · intro y0 y1 y2 y3
      unfold laws_FnSameRunes.j1
      repeat' first
      | (with_reducible exact ih0 _ _ _ _)
      | (with_reducible exact ih1 _ _ _ _)
      | (with_reducible exact ih2 _ _ _ _ _ _)
      | (with_reducible exact impl_BeginsRunes.mono _ _ _ _)
      | (with_reducible exact impl_SameRunes.mono _ _ _ _)
      | (with_reducible exact laws_ascii9.mono _ _)
      | (with_reducible exact laws_whole9.mono _ _)
      | (with_reducible exact spec_SameAt.mono _ _ _ _ _)
      | (with_reducible exact LeO.refl _)
      | (with_reducible exact LeO.none _)
      | (with_reducible refine LeO.ite ?_ ?_)
      | (with_reducible refine LeO.bind ?_ (fun _ => ?_))
      | exact ih0 _ _ _ _
      | exact ih1 _ _ _ _
      | exact ih2 _ _ _ _ _ _
      | exact impl_BeginsRunes.mono _ _ _ _
      | exact impl_SameRunes.mono _ _ _ _
      | exact laws_ascii9.mono _ _
      | exact laws_whole9.mono _ _
      | exact spec_SameAt.mono _ _ _ _ _
      | exact LeO.none _
      | refine LeO.ite ?_ ?_
      | refine LeO.bind ?_ (fun _ => ?_)
    · intro y0 y1 y2 y3 y4 y5
      unfold laws_FnSameRunes.j2
      repeat' first
      | (with_reducible exact ih0 _ _ _ _)
      | (with_reducible exact ih1 _ _ _ _)
      | (with_reducible exact ih2 _ _ _ _ _ _)
      | (with_reducible exact impl_BeginsRunes.mono _ _ _ _)
      | (with_reducible exact impl_SameRunes.mono _ _ _ _)
      | (with_reducible exact laws_ascii9.mono _ _)
      | (with_reducible exact laws_whole9.mono _ _)
      | (with_reducible exact spec_SameAt.mono _ _ _ _ _)
      | (with_reducible exact LeO.refl _)
      | (with_reducible exact LeO.none _)
      | (with_reducible refine LeO.ite ?_ ?_)
      | (with_reducible refine LeO.bind ?_ (fun _ => ?_))
      | exact ih0 _ _ _ _
      | exact ih1 _ _ _ _
      | exact ih2 _ _ _ _ _ _
      | exact impl_BeginsRunes.mono _ _ _ _
      | exact impl_SameRunes.mono _ _ _ _
      | exact laws_ascii9.mono _ _
      | exact laws_whole9.mono _ _
      | exact spec_SameAt.mono _ _ _ _ _
      | exact LeO.none _
      | refine LeO.ite ?_ ?_
      | refine LeO.bind ?_ (fun _ => ?_)
theorem laws_FnSameRunes.mono : ∀ a0 a1 a2 k, LeO (laws_FnSameRunes.f k a0 a1 a2) (laws_FnSameRunes.f (k + 1) a0 a1 a2) := by
  intro a0 a1 a2 k
  obtain ⟨ih0, ih1, ih2⟩ := laws_FnSameRunes.mono_l k
  unfold laws_FnSameRunes.f
  repeat' first
      | (with_reducible exact ih0 _ _ _ _)
      | (with_reducible exact ih1 _ _ _ _)
      | (with_reducible exact ih2 _ _ _ _ _ _)
      | (with_reducible exact impl_BeginsRunes.mono _ _ _ _)
      | (with_reducible exact impl_SameRunes.mono _ _ _ _)
      | (with_reducible exact laws_ascii9.mono _ _)
      | (with_reducible exact laws_whole9.mono _ _)
      | (with_reducible exact spec_SameAt.mono _ _ _ _ _)
      | (with_reducible exact LeO.refl _)
      | (with_reducible exact LeO.none _)
      | (with_reducible refine LeO.ite ?_ ?_)
      | (with_reducible refine LeO.bind ?_ (fun _ => ?_))
      | exact ih0 _ _ _ _
      | exact ih1 _ _ _ _
      | exact ih2 _ _ _ _ _ _
      | exact impl_BeginsRunes.mono _ _ _ _
      | exact impl_SameRunes.mono _ _ _ _
      | exact laws_ascii9.mono _ _
      | exact laws_whole9.mono _ _
      | exact spec_SameAt.mono _ _ _ _ _
      | exact LeO.none _
      | refine LeO.ite ?_ ?_
      | refine LeO.bind ?_ (fun _ => ?_)
set_option maxHeartbeats 8000000 in
set_option maxRecDepth 100000 in
theorem laws_FnSameRunes.calls (k : Nat) (a0 : ByteArray) (a1 : ByteArray) (a2 : Bool) (r : Bool) (w : World) (h : laws_FnSameRunes.f k a0 a1 a2 = some r) :
    Calls Tryd.prog 4 #[.string a0, .string a1, .bool a2] w fun e w' => e = .returned (.bool r) ∧ Below w.heap.size w w' := by
  have HB := Aside0.mk (Below.refl w.heap.size w)
  have H : (if (a0.size : Int) > 2147483647 then (laws_FnSameRunes.j0 k a0 a1 a2 true) else (laws_FnSameRunes.j0 k a0 a1 a2 (decide ((a1.size : Int) > 2147483647)))) = some r := h
  clear h
  have HC4 := Aside0.mk H
  clear H
  go_enter Tryd.func4, Tryd.ntmps4
  go_upto_region 1 with (fail)
  go_cut [17] (fun v17 wc => ∃ (kq : Nat) (x17_3 : Bool), v17 = .bool x17_3 ∧ Aside0 (laws_FnSameRunes.j0 kq a0 a1 a2 x17_3 = some r) ∧ Aside0 (kq ≤ k) ∧ Aside0 (Below w.heap.size w wc))
  case first =>
    have H := HC4.out
    clear HC4
    by_cases c5 : (a0.size : Int) > 2147483647
    · rw [if_pos c5] at H
      have c5b0 : decide (2147483647 < (a0.size : Int)) = true := decide_eq_true c5
      have c5b1 : decide (2147483647 < a0.size) = true := decide_eq_true (by omega)
      clear c5
      (first | rw [c5b0] | (simp only [i64_w, i32_w]; rw [c5b0]) | skip)
      have H' := Aside0.mk H
      clear H
      go_wp2
      go_meet
      case rel => exact ⟨_, (true), (by first | rfl | (simp; done) | (simp [*]; done)), H', ⟨by first | omega | exact Nat.le_refl _⟩, ⟨by repeat (first | (with_reducible first | exact HB.out | apply below_alloc | apply pw_below_drewN | apply below_drew1) | exact HB.out)⟩⟩
    · rw [if_neg c5] at H
      have c5b0 : decide (2147483647 < (a0.size : Int)) = false := decide_eq_false c5
      have c5b1 : decide (2147483647 < a0.size) = false := decide_eq_false (by omega)
      clear c5
      (first | rw [c5b0] | (simp only [i64_w, i32_w]; rw [c5b0]) | skip)
      have H' := Aside0.mk H
      clear H
      go_wp2
      go_meet
      case rel => exact ⟨_, (decide ((a1.size : Int) > 2147483647)), (by first | rfl | (simp; done) | (simp [*]; done)), H', ⟨by first | omega | exact Nat.le_refl _⟩, ⟨by repeat (first | (with_reducible first | exact HB.out | apply below_alloc | apply pw_below_drewN | apply below_drew1) | exact HB.out)⟩⟩
  case rest =>
    clear HC4
    try clear p2
    try clear c4
    try clear c5
    try clear c5b0
    try clear c5b1
    obtain ⟨kq, x17_3, rfl, HA, HJ3, HB⟩ := hcut
    cases kq with
    | zero => exact absurd HA.out (by simp [laws_FnSameRunes.j0])
    | succ kj3 =>
      have H := HA.out
      clear HA
      simp only [laws_FnSameRunes.j0] at H
      by_cases c6 : x17_3 = true
      · subst c6
        have H1 : (some true) = some r := by rw [if_pos rfl] at H; exact H
        clear H
        have H := H1
        clear H1
        obtain rfl := Option.some.inj H
        go_wp2
        go_ret
        exact ⟨by first | rfl | (simp [errW_none, errW_some] <;> rfl) | (simp [*, errW_none, errW_some] <;> rfl), by repeat (first | (with_reducible first | exact HB.out | apply below_alloc | apply pw_below_drewN | apply below_drew1) | exact HB.out)⟩
      · replace c6 := Bool.eq_false_iff.mpr c6
        subst c6
        have H1 : ((laws_whole9.f kj3 (([a0, a1] : List ByteArray))).bind fun t155 => (if t155 = true then (if a2 = true then ((laws_ascii9.f kj3 a0).bind fun t156 => (if t156 = true then ((laws_ascii9.f kj3 a1).bind fun t157 => (laws_FnSameRunes.j1 kj3 a0 a1 a2 (!t157))) else (laws_FnSameRunes.j1 kj3 a0 a1 a2 true))) else (laws_FnSameRunes.j1 kj3 a0 a1 a2 false)) else (laws_FnSameRunes.j1 kj3 a0 a1 a2 true))) = some r := by rw [if_neg (show ¬ (false = true) by decide)] at H; exact H
        clear H
        have H := H1
        clear H1
        have HC7 := Aside0.mk H
        clear H
        go_upto_region 3 with (fail)
        go_cut [35] (fun v35 wc => ∃ (kq : Nat) (x35_6 : Bool), v35 = .bool x35_6 ∧ Aside0 (laws_FnSameRunes.j1 kq a0 a1 a2 x35_6 = some r) ∧ Aside0 (kq ≤ kj3) ∧ Aside0 (Below w.heap.size w wc))
        case first =>
          have H := HC7.out
          clear HC7
          obtain ⟨y152, hy152⟩ : ∃ y_ : List ByteArray, y_ = (([a0, a1] : List ByteArray)) := ⟨_, rfl⟩
          replace H : ((laws_whole9.f kj3 y152).bind fun t155 => (if t155 = true then (if a2 = true then ((laws_ascii9.f kj3 a0).bind fun t156 => (if t156 = true then ((laws_ascii9.f kj3 a1).bind fun t157 => (laws_FnSameRunes.j1 kj3 a0 a1 a2 (!t157))) else (laws_FnSameRunes.j1 kj3 a0 a1 a2 true))) else (laws_FnSameRunes.j1 kj3 a0 a1 a2 false)) else (laws_FnSameRunes.j1 kj3 a0 a1 a2 true))) = some r := by first | (rw [hy152]; with_reducible exact H) | (have H2_ := (Option.bind_some _ _).symm.trans H; rw [hy152]; with_reducible exact H2_) | (have H2_ := (Option.bind_some _ _).symm.trans H; with_reducible exact H2_) | with_reducible exact H | (rw [hy152]; exact H) | exact H
          have Ny152 := Aside0.mk hy152
          clear hy152
          replace H := Option.bind_eq_some_iff.mp H
          obtain ⟨t155, A80, H⟩ := H
          replace H : (if t155 = true then (if a2 = true then ((laws_ascii9.f kj3 a0).bind fun t156 => (if t156 = true then ((laws_ascii9.f kj3 a1).bind fun t157 => (laws_FnSameRunes.j1 kj3 a0 a1 a2 (!t157))) else (laws_FnSameRunes.j1 kj3 a0 a1 a2 true))) else (laws_FnSameRunes.j1 kj3 a0 a1 a2 false)) else (laws_FnSameRunes.j1 kj3 a0 a1 a2 true)) = some r := H
          have A8 := Aside0.mk A80
          clear A80
          by_cases c9 : t155 = true
          · subst c9
            have H1 : (if a2 = true then ((laws_ascii9.f kj3 a0).bind fun t156 => (if t156 = true then ((laws_ascii9.f kj3 a1).bind fun t157 => (laws_FnSameRunes.j1 kj3 a0 a1 a2 (!t157))) else (laws_FnSameRunes.j1 kj3 a0 a1 a2 true))) else (laws_FnSameRunes.j1 kj3 a0 a1 a2 false)) = some r := by rw [if_pos rfl] at H; exact H
            clear H
            have H := H1
            clear H1
            by_cases c10 : a2 = true
            · subst c10
              have H1 : ((laws_ascii9.f kj3 a0).bind fun t156 => (if t156 = true then ((laws_ascii9.f kj3 a1).bind fun t157 => (laws_FnSameRunes.j1 kj3 a0 a1 true (!t157))) else (laws_FnSameRunes.j1 kj3 a0 a1 true true))) = some r := by rw [if_pos rfl] at H; exact H
              clear H
              have H := H1
              clear H1
              replace H := Option.bind_eq_some_iff.mp H
              obtain ⟨t156, A110, H⟩ := H
              replace H : (if t156 = true then ((laws_ascii9.f kj3 a1).bind fun t157 => (laws_FnSameRunes.j1 kj3 a0 a1 true (!t157))) else (laws_FnSameRunes.j1 kj3 a0 a1 true true)) = some r := H
              have A11 := Aside0.mk A110
              clear A110
              by_cases c12 : t156 = true
              · subst c12
                have H1 : ((laws_ascii9.f kj3 a1).bind fun t157 => (laws_FnSameRunes.j1 kj3 a0 a1 true (!t157))) = some r := by rw [if_pos rfl] at H; exact H
                clear H
                have H := H1
                clear H1
                replace H := Option.bind_eq_some_iff.mp H
                obtain ⟨t157, A130, H⟩ := H
                replace H : (laws_FnSameRunes.j1 kj3 a0 a1 true (!t157)) = some r := H
                have A13 := Aside0.mk A130
                clear A130
                have H' := Aside0.mk H
                clear H
                go_wp2_with (first | ((with_reducible refine gate_dst (N := 20) rfl ?_); (try (refine gate_guard (by rfl) ?_; dsimp only)); refine Kd.R_lit Kd.string _ 9 ?hg (N := 20) ?hd (xs := ([a0, a1] : List ByteArray)) (inner := [.string a0, .string a1]) (ok := fun _ => True) (okp := fun _ => True) ?hr ?hp (fun _ hk => hk) trivial (Below.refl _ _) (Nat.le_refl _) (by simp) ?_; (case hd => rfl); (case hg => rfl); (case hr => first | (go_simp; done) | (go_simp; rfl)); (case hp => exact (Reps.one (show Kd.M Kd.string _ _ _ a0 [.string a0] from rfl) (Reps.one (show Kd.M Kd.string _ _ _ a1 [.string a1] from rfl) (Reps.none _ _)))); intro v153 w14 ho15 hb hg_ hnew_; clear hg_ hnew_; (first | rw [← Ny152.out] at ho15 | (simp only [Int.reduceToNat] at ho15; rw [← Ny152.out] at ho15)); have n0_ := Aside0.mk (Kd.R_lower ho15 (below_size (by repeat (first | (with_reducible first | exact HB.out | apply below_alloc | apply pw_below_drewN | apply below_drew1) | exact HB.out)))); have n1_ := Aside0.mk (below_step (by repeat (first | (with_reducible first | exact HB.out | apply below_alloc | apply pw_below_drewN | apply below_drew1) | exact HB.out)) hb); clear HB; have HO154 := n0_; have HB := n1_; clear n0_ n1_; clear hb ho15; obtain ⟨Ao16, co16, eo16⟩ := Kd.R_slice HO154.out; subst eo16) | ((with_reducible refine gate_callee (f := 5) rfl ?_); refine goesL_ (some 21) rfl rfl Tryd.func5 (by kernel_rfl) rfl #[.slice Ao16 y152.length co16] rfl (by (try simp only [List.map_toArray, List.map_cons, List.map_nil]); first | done | rfl | (simp only [List.length_drop, List.length_take]; rfl)) ?_; (with_reducible refine (laws_whole9.calls kj3 _ _ y152 true _ ?side1 ?side2 A8.out).mono ?_); (case side1 => repeat (first | exact (Kd.R_reads' HO154.out).2.2 | (with_reducible refine Kd.C_alloc ?_ _) | (with_reducible refine Kd.C_drewN ?_ _) | (with_reducible refine Kd.C_drew ?_))); (case side2 => exact (Kd.R_reads' HO154.out).2.1); rintro e w17 ⟨rfl, hb⟩; refine ⟨_, rfl, ?_⟩; have n0_ := Aside0.mk (Kd.R_below (by (with_reducible repeat (first | apply Kd.R_alloc | apply Kd.R_drewN | apply Kd.R_drew)); exact HO154.out) hb); have n1_ := Aside0.mk (below_step (by repeat (first | (with_reducible first | exact HB.out | apply below_alloc | apply pw_below_drewN | apply below_drew1) | exact HB.out)) hb); clear HO154; clear HB; have HO154 := n0_; have HB := n1_; clear n0_ n1_; (try clear hb); (try clear hb2); (try clear hk); (try clear hi)) | (go_at_call 8; (with_reducible refine (laws_ascii9.calls kj3 a0 true _ A11.out).mono ?_); rintro e w' ⟨rfl, ⟨nd, rfl⟩⟩) | (go_at_call 8; (with_reducible refine (laws_ascii9.calls kj3 a1 t157 _ A13.out).mono ?_); rintro e w' ⟨rfl, ⟨nd, rfl⟩⟩))
                go_meet
                case rel => exact ⟨_, (!t157), (by first | rfl | (simp; done) | (simp [*]; done)), H', ⟨by have := HJ3.out; first | omega | exact Nat.le_refl _⟩, ⟨by repeat (first | (with_reducible first | exact HB.out | apply below_alloc | apply pw_below_drewN | apply below_drew1) | exact HB.out)⟩⟩
              · replace c12 := Bool.eq_false_iff.mpr c12
                subst c12
                have H1 : (laws_FnSameRunes.j1 kj3 a0 a1 true true) = some r := by rw [if_neg (show ¬ (false = true) by decide)] at H; exact H
                clear H
                have H := H1
                clear H1
                have H' := Aside0.mk H
                clear H
                go_wp2_with (first | ((with_reducible refine gate_dst (N := 20) rfl ?_); (try (refine gate_guard (by rfl) ?_; dsimp only)); refine Kd.R_lit Kd.string _ 9 ?hg (N := 20) ?hd (xs := ([a0, a1] : List ByteArray)) (inner := [.string a0, .string a1]) (ok := fun _ => True) (okp := fun _ => True) ?hr ?hp (fun _ hk => hk) trivial (Below.refl _ _) (Nat.le_refl _) (by simp) ?_; (case hd => rfl); (case hg => rfl); (case hr => first | (go_simp; done) | (go_simp; rfl)); (case hp => exact (Reps.one (show Kd.M Kd.string _ _ _ a0 [.string a0] from rfl) (Reps.one (show Kd.M Kd.string _ _ _ a1 [.string a1] from rfl) (Reps.none _ _)))); intro v153 w18 ho19 hb hg_ hnew_; clear hg_ hnew_; (first | rw [← Ny152.out] at ho19 | (simp only [Int.reduceToNat] at ho19; rw [← Ny152.out] at ho19)); have n0_ := Aside0.mk (Kd.R_lower ho19 (below_size (by repeat (first | (with_reducible first | exact HB.out | apply below_alloc | apply pw_below_drewN | apply below_drew1) | exact HB.out)))); have n1_ := Aside0.mk (below_step (by repeat (first | (with_reducible first | exact HB.out | apply below_alloc | apply pw_below_drewN | apply below_drew1) | exact HB.out)) hb); clear HB; have HO154 := n0_; have HB := n1_; clear n0_ n1_; clear hb ho19; obtain ⟨Ao20, co20, eo20⟩ := Kd.R_slice HO154.out; subst eo20) | ((with_reducible refine gate_callee (f := 5) rfl ?_); refine goesL_ (some 21) rfl rfl Tryd.func5 (by kernel_rfl) rfl #[.slice Ao20 y152.length co20] rfl (by (try simp only [List.map_toArray, List.map_cons, List.map_nil]); first | done | rfl | (simp only [List.length_drop, List.length_take]; rfl)) ?_; (with_reducible refine (laws_whole9.calls kj3 _ _ y152 true _ ?side1 ?side2 A8.out).mono ?_); (case side1 => repeat (first | exact (Kd.R_reads' HO154.out).2.2 | (with_reducible refine Kd.C_alloc ?_ _) | (with_reducible refine Kd.C_drewN ?_ _) | (with_reducible refine Kd.C_drew ?_))); (case side2 => exact (Kd.R_reads' HO154.out).2.1); rintro e w21 ⟨rfl, hb⟩; refine ⟨_, rfl, ?_⟩; have n0_ := Aside0.mk (Kd.R_below (by (with_reducible repeat (first | apply Kd.R_alloc | apply Kd.R_drewN | apply Kd.R_drew)); exact HO154.out) hb); have n1_ := Aside0.mk (below_step (by repeat (first | (with_reducible first | exact HB.out | apply below_alloc | apply pw_below_drewN | apply below_drew1) | exact HB.out)) hb); clear HO154; clear HB; have HO154 := n0_; have HB := n1_; clear n0_ n1_; (try clear hb); (try clear hb2); (try clear hk); (try clear hi)) | (go_at_call 8; (with_reducible refine (laws_ascii9.calls kj3 a0 false _ A11.out).mono ?_); rintro e w' ⟨rfl, ⟨nd, rfl⟩⟩))
                go_meet
                case rel => exact ⟨_, (true), (by first | rfl | (simp; done) | (simp [*]; done)), H', ⟨by have := HJ3.out; first | omega | exact Nat.le_refl _⟩, ⟨by repeat (first | (with_reducible first | exact HB.out | apply below_alloc | apply pw_below_drewN | apply below_drew1) | exact HB.out)⟩⟩
            · replace c10 := Bool.eq_false_iff.mpr c10
              subst c10
              have H1 : (laws_FnSameRunes.j1 kj3 a0 a1 false false) = some r := by rw [if_neg (show ¬ (false = true) by decide)] at H; exact H
              clear H
              have H := H1
              clear H1
              have H' := Aside0.mk H
              clear H
              go_wp2_with (first | ((with_reducible refine gate_dst (N := 20) rfl ?_); (try (refine gate_guard (by rfl) ?_; dsimp only)); refine Kd.R_lit Kd.string _ 9 ?hg (N := 20) ?hd (xs := ([a0, a1] : List ByteArray)) (inner := [.string a0, .string a1]) (ok := fun _ => True) (okp := fun _ => True) ?hr ?hp (fun _ hk => hk) trivial (Below.refl _ _) (Nat.le_refl _) (by simp) ?_; (case hd => rfl); (case hg => rfl); (case hr => first | (go_simp; done) | (go_simp; rfl)); (case hp => exact (Reps.one (show Kd.M Kd.string _ _ _ a0 [.string a0] from rfl) (Reps.one (show Kd.M Kd.string _ _ _ a1 [.string a1] from rfl) (Reps.none _ _)))); intro v153 w22 ho23 hb hg_ hnew_; clear hg_ hnew_; (first | rw [← Ny152.out] at ho23 | (simp only [Int.reduceToNat] at ho23; rw [← Ny152.out] at ho23)); have n0_ := Aside0.mk (Kd.R_lower ho23 (below_size (by repeat (first | (with_reducible first | exact HB.out | apply below_alloc | apply pw_below_drewN | apply below_drew1) | exact HB.out)))); have n1_ := Aside0.mk (below_step (by repeat (first | (with_reducible first | exact HB.out | apply below_alloc | apply pw_below_drewN | apply below_drew1) | exact HB.out)) hb); clear HB; have HO154 := n0_; have HB := n1_; clear n0_ n1_; clear hb ho23; obtain ⟨Ao24, co24, eo24⟩ := Kd.R_slice HO154.out; subst eo24) | ((with_reducible refine gate_callee (f := 5) rfl ?_); refine goesL_ (some 21) rfl rfl Tryd.func5 (by kernel_rfl) rfl #[.slice Ao24 y152.length co24] rfl (by (try simp only [List.map_toArray, List.map_cons, List.map_nil]); first | done | rfl | (simp only [List.length_drop, List.length_take]; rfl)) ?_; (with_reducible refine (laws_whole9.calls kj3 _ _ y152 true _ ?side1 ?side2 A8.out).mono ?_); (case side1 => repeat (first | exact (Kd.R_reads' HO154.out).2.2 | (with_reducible refine Kd.C_alloc ?_ _) | (with_reducible refine Kd.C_drewN ?_ _) | (with_reducible refine Kd.C_drew ?_))); (case side2 => exact (Kd.R_reads' HO154.out).2.1); rintro e w25 ⟨rfl, hb⟩; refine ⟨_, rfl, ?_⟩; have n0_ := Aside0.mk (Kd.R_below (by (with_reducible repeat (first | apply Kd.R_alloc | apply Kd.R_drewN | apply Kd.R_drew)); exact HO154.out) hb); have n1_ := Aside0.mk (below_step (by repeat (first | (with_reducible first | exact HB.out | apply below_alloc | apply pw_below_drewN | apply below_drew1) | exact HB.out)) hb); clear HO154; clear HB; have HO154 := n0_; have HB := n1_; clear n0_ n1_; (try clear hb); (try clear hb2); (try clear hk); (try clear hi)))
              go_meet
              case rel => exact ⟨_, (false), (by first | rfl | (simp; done) | (simp [*]; done)), H', ⟨by have := HJ3.out; first | omega | exact Nat.le_refl _⟩, ⟨by repeat (first | (with_reducible first | exact HB.out | apply below_alloc | apply pw_below_drewN | apply below_drew1) | exact HB.out)⟩⟩
          · replace c9 := Bool.eq_false_iff.mpr c9
            subst c9
            have H1 : (laws_FnSameRunes.j1 kj3 a0 a1 a2 true) = some r := by rw [if_neg (show ¬ (false = true) by decide)] at H; exact H
            clear H
            have H := H1
            clear H1
            have H' := Aside0.mk H
            clear H
            go_wp2_with (first | ((with_reducible refine gate_dst (N := 20) rfl ?_); (try (refine gate_guard (by rfl) ?_; dsimp only)); refine Kd.R_lit Kd.string _ 9 ?hg (N := 20) ?hd (xs := ([a0, a1] : List ByteArray)) (inner := [.string a0, .string a1]) (ok := fun _ => True) (okp := fun _ => True) ?hr ?hp (fun _ hk => hk) trivial (Below.refl _ _) (Nat.le_refl _) (by simp) ?_; (case hd => rfl); (case hg => rfl); (case hr => first | (go_simp; done) | (go_simp; rfl)); (case hp => exact (Reps.one (show Kd.M Kd.string _ _ _ a0 [.string a0] from rfl) (Reps.one (show Kd.M Kd.string _ _ _ a1 [.string a1] from rfl) (Reps.none _ _)))); intro v153 w26 ho27 hb hg_ hnew_; clear hg_ hnew_; (first | rw [← Ny152.out] at ho27 | (simp only [Int.reduceToNat] at ho27; rw [← Ny152.out] at ho27)); have n0_ := Aside0.mk (Kd.R_lower ho27 (below_size (by repeat (first | (with_reducible first | exact HB.out | apply below_alloc | apply pw_below_drewN | apply below_drew1) | exact HB.out)))); have n1_ := Aside0.mk (below_step (by repeat (first | (with_reducible first | exact HB.out | apply below_alloc | apply pw_below_drewN | apply below_drew1) | exact HB.out)) hb); clear HB; have HO154 := n0_; have HB := n1_; clear n0_ n1_; clear hb ho27; obtain ⟨Ao28, co28, eo28⟩ := Kd.R_slice HO154.out; subst eo28) | ((with_reducible refine gate_callee (f := 5) rfl ?_); refine goesL_ (some 21) rfl rfl Tryd.func5 (by kernel_rfl) rfl #[.slice Ao28 y152.length co28] rfl (by (try simp only [List.map_toArray, List.map_cons, List.map_nil]); first | done | rfl | (simp only [List.length_drop, List.length_take]; rfl)) ?_; (with_reducible refine (laws_whole9.calls kj3 _ _ y152 false _ ?side1 ?side2 A8.out).mono ?_); (case side1 => repeat (first | exact (Kd.R_reads' HO154.out).2.2 | (with_reducible refine Kd.C_alloc ?_ _) | (with_reducible refine Kd.C_drewN ?_ _) | (with_reducible refine Kd.C_drew ?_))); (case side2 => exact (Kd.R_reads' HO154.out).2.1); rintro e w29 ⟨rfl, hb⟩; refine ⟨_, rfl, ?_⟩; have n0_ := Aside0.mk (Kd.R_below (by (with_reducible repeat (first | apply Kd.R_alloc | apply Kd.R_drewN | apply Kd.R_drew)); exact HO154.out) hb); have n1_ := Aside0.mk (below_step (by repeat (first | (with_reducible first | exact HB.out | apply below_alloc | apply pw_below_drewN | apply below_drew1) | exact HB.out)) hb); clear HO154; clear HB; have HO154 := n0_; have HB := n1_; clear n0_ n1_; (try clear hb); (try clear hb2); (try clear hk); (try clear hi)))
            go_meet
            case rel => exact ⟨_, (true), (by first | rfl | (simp; done) | (simp [*]; done)), H', ⟨by have := HJ3.out; first | omega | exact Nat.le_refl _⟩, ⟨by repeat (first | (with_reducible first | exact HB.out | apply below_alloc | apply pw_below_drewN | apply below_drew1) | exact HB.out)⟩⟩
        case rest =>
          clear HC7
          try clear c1
          try clear p2
          try clear c4
          try clear c5
          try clear c5b0
          try clear c5b1
          try clear c6
          try clear c9
          try clear c10
          try clear c12
          try clear p2
          obtain ⟨kq, x35_6, rfl, HA, HJ6, HB⟩ := hcut
          cases kq with
          | zero => exact absurd HA.out (by simp [laws_FnSameRunes.j1])
          | succ kj6 =>
            have H := HA.out
            clear HA
            simp only [laws_FnSameRunes.j1] at H
            by_cases c30 : x35_6 = true
            · subst c30
              have H1 : (some true) = some r := by rw [if_pos rfl] at H; exact H
              clear H
              have H := H1
              clear H1
              obtain rfl := Option.some.inj H
              go_wp2
              go_ret
              exact ⟨by first | rfl | (simp [errW_none, errW_some] <;> rfl) | (simp [*, errW_none, errW_some] <;> rfl), by repeat (first | (with_reducible first | exact HB.out | apply below_alloc | apply pw_below_drewN | apply below_drew1) | exact HB.out)⟩
            · replace c30 := Bool.eq_false_iff.mpr c30
              subst c30
              have H1 : (if (runesOf a0).length ≤ 70368744177664 then ((some (runesOf a0 : List Int)).bind fun y158 => (if (runesOf a1).length ≤ 70368744177664 then ((some (runesOf a1 : List Int)).bind fun y161 => (if (y158.length : Int) = (y161.length : Int) then ((spec_SameAt.f kj6 y158 y161 0 a2).bind fun t164 => (laws_FnSameRunes.j2 kj6 a0 a1 a2 y158 y161 t164)) else (laws_FnSameRunes.j2 kj6 a0 a1 a2 y158 y161 false))) else (none))) else (none)) = some r := by rw [if_neg (show ¬ (false = true) by decide)] at H; exact H
              clear H
              have H := H1
              clear H1
              by_cases c31 : (runesOf a0).length ≤ 70368744177664
              · rw [if_pos c31] at H
                have c31b0 := eq_true c31
                have c31b1 : decide ((runesOf a0).length ≤ 70368744177664) = true := decide_eq_true c31
                clear c31
                obtain ⟨y158, hy158⟩ : ∃ y_ : List Int, y_ = (runesOf a0) := ⟨_, rfl⟩
                replace H : (if (runesOf a1).length ≤ 70368744177664 then ((some (runesOf a1 : List Int)).bind fun y161 => (if (y158.length : Int) = (y161.length : Int) then ((spec_SameAt.f kj6 y158 y161 0 a2).bind fun t164 => (laws_FnSameRunes.j2 kj6 a0 a1 a2 y158 y161 t164)) else (laws_FnSameRunes.j2 kj6 a0 a1 a2 y158 y161 false))) else (none)) = some r := by first | (rw [hy158]; with_reducible exact H) | (have H2_ := (Option.bind_some _ _).symm.trans H; rw [hy158]; with_reducible exact H2_) | (have H2_ := (Option.bind_some _ _).symm.trans H; with_reducible exact H2_) | with_reducible exact H | (rw [hy158]; exact H) | exact H
                have Ny158 := Aside0.mk hy158
                clear hy158
                by_cases c32 : (runesOf a1).length ≤ 70368744177664
                · rw [if_pos c32] at H
                  have c32b0 := eq_true c32
                  have c32b1 : decide ((runesOf a1).length ≤ 70368744177664) = true := decide_eq_true c32
                  clear c32
                  obtain ⟨y161, hy161⟩ : ∃ y_ : List Int, y_ = (runesOf a1) := ⟨_, rfl⟩
                  replace H : (if (y158.length : Int) = (y161.length : Int) then ((spec_SameAt.f kj6 y158 y161 0 a2).bind fun t164 => (laws_FnSameRunes.j2 kj6 a0 a1 a2 y158 y161 t164)) else (laws_FnSameRunes.j2 kj6 a0 a1 a2 y158 y161 false)) = some r := by first | (rw [hy161]; with_reducible exact H) | (have H2_ := (Option.bind_some _ _).symm.trans H; rw [hy161]; with_reducible exact H2_) | (have H2_ := (Option.bind_some _ _).symm.trans H; with_reducible exact H2_) | with_reducible exact H | (rw [hy161]; exact H) | exact H
                  have Ny161 := Aside0.mk hy161
                  clear hy161
                  have HC33 := Aside0.mk H
                  clear H
                  go_upto_region 6 with (first | ((with_reducible refine gate_dst (N := 37) rfl ?_); (try (refine gate_guard (by rfl) ?_; dsimp only)); refine R_runes _ 21 rfl (N := 37) rfl 9 26 _ rfl a0 rfl Tryd.underlying9 Tryd.underlying26 Tryd.underlying21 (ok := fun _ => True) (okp := fun _ => True) (fun _ hk => hk) trivial (of_decide_eq_true (by first | (with_reducible assumption) | assumption)) (Below.refl _ _) (Nat.le_refl _) ?_; intro v159 w34 ho35 hb hg_ hnew_; clear hg_ hnew_; (first | rw [← Ny158.out] at ho35 | (simp only [Int.reduceToNat] at ho35; rw [← Ny158.out] at ho35)); have n0_ := Aside0.mk (Kd.R_lower ho35 (below_size (by repeat (first | (with_reducible first | exact HB.out | apply below_alloc | apply pw_below_drewN | apply below_drew1) | exact HB.out)))); have n1_ := Aside0.mk (below_step (by repeat (first | (with_reducible first | exact HB.out | apply below_alloc | apply pw_below_drewN | apply below_drew1) | exact HB.out)) hb); clear HB; have HO160 := n0_; have HB := n1_; clear n0_ n1_; clear hb ho35) | ((with_reducible refine gate_dst (N := 39) rfl ?_); (try (refine gate_guard (by rfl) ?_; dsimp only)); refine R_runes _ 21 rfl (N := 39) rfl 9 26 _ rfl a1 rfl Tryd.underlying9 Tryd.underlying26 Tryd.underlying21 (ok := fun _ => True) (okp := fun _ => True) (fun _ hk => hk) trivial (of_decide_eq_true (by first | (with_reducible assumption) | assumption)) (Below.refl _ _) (Nat.le_refl _) ?_; intro v162 w36 ho37 hb hg_ hnew_; clear hg_ hnew_; (first | rw [← Ny161.out] at ho37 | (simp only [Int.reduceToNat] at ho37; rw [← Ny161.out] at ho37)); have n0_ := Aside0.mk (Kd.R_elder' (by (with_reducible repeat (first | apply Kd.R_alloc | apply Kd.R_drewN | apply Kd.R_drew)); exact HO160.out) (Kd.R_base ho37) hb); have n1_ := Aside0.mk (Kd.R_lower (Kd.R_new' ho37 (Kd.R_lt (by (with_reducible repeat (first | apply Kd.R_alloc | apply Kd.R_drewN | apply Kd.R_drew)); exact HO160.out))) (below_size (by repeat (first | (with_reducible first | exact HB.out | apply below_alloc | apply pw_below_drewN | apply below_drew1) | exact HB.out)))); have n2_ := Aside0.mk (below_step (by repeat (first | (with_reducible first | exact HB.out | apply below_alloc | apply pw_below_drewN | apply below_drew1) | exact HB.out)) hb); clear HO160; clear HB; have HO160 := n0_; have HO163 := n1_; have HB := n2_; clear n0_ n1_ n2_; clear hb ho37))
                  (try simp only [Act.put, List.setIfInBounds_toArray, List.set_cons_zero, List.set_cons_succ])
                  go_cut [9] (fun v9 wc => ∃ (kq : Nat) (x9_32 : Bool), v9 = .bool x9_32 ∧ Aside0 (laws_FnSameRunes.j2 kq a0 a1 a2 y158 y161 x9_32 = some r) ∧ Aside0 (kq ≤ kj6) ∧ Aside0 (Kd.R (Kd.int .i32) 21 wc w.heap.size (fun k_ => some k_ ≠ (v162 : Value).ownBlock) v159 y158) ∧ Aside0 (Kd.R (Kd.int .i32) 21 wc w.heap.size (fun k_ => some k_ ≠ (v159 : Value).ownBlock) v162 y161) ∧ Aside0 (Below w.heap.size w wc))
                  case first =>
                    have H := HC33.out
                    clear HC33
                    by_cases c38 : (y158.length : Int) = (y161.length : Int)
                    · rw [if_pos c38] at H
                      have c38b0 : ((y158.length : Int) == (y161.length : Int)) = true := beq_iff_eq.mpr c38
                      have c38b1 : ((y158.length : Int) != (y161.length : Int)) = false := bne_eq_false_iff_eq.mpr c38
                      have c38b2 : (y158.length == y161.length) = true := by first | simpa using c38 | (simp at c38 ⊢; omega)
                      clear c38
                      (first | rw [c38b0] | (simp only [i64_w, i32_w]; rw [c38b0]) | skip)
                      replace H := Option.bind_eq_some_iff.mp H
                      obtain ⟨t164, A390, H⟩ := H
                      replace H : (laws_FnSameRunes.j2 kj6 a0 a1 a2 y158 y161 t164) = some r := H
                      have A39 := Aside0.mk A390
                      clear A390
                      have H' := Aside0.mk H
                      clear H
                      obtain ⟨Ao40, co40, eo40⟩ := Kd.R_slice HO160.out
                      subst eo40
                      obtain ⟨Ao41, co41, eo41⟩ := Kd.R_slice HO163.out
                      subst eo41
                      go_wp2_with (first | (go_at_call 9; (with_reducible refine (spec_SameAt.calls kj6 _ _ y158 _ _ y161 0 a2 t164 _ ?side1 ?side2 ?side3 ?side4 A39.out).mono ?_); (case side1 => repeat (first | exact (Kd.R_reads' HO160.out).2.2 | (with_reducible refine Kd.C_alloc ?_ _) | (with_reducible refine Kd.C_drewN ?_ _) | (with_reducible refine Kd.C_drew ?_))); (case side2 => exact (Kd.R_reads' HO160.out).2.1); (case side3 => repeat (first | exact (Kd.R_reads' HO163.out).2.2 | (with_reducible refine Kd.C_alloc ?_ _) | (with_reducible refine Kd.C_drewN ?_ _) | (with_reducible refine Kd.C_drew ?_))); (case side4 => exact (Kd.R_reads' HO163.out).2.1); rintro e w' ⟨rfl, ⟨nd, rfl⟩⟩))
                      go_meet
                      case rel => exact ⟨_, (t164), (by first | rfl | (simp; done) | (simp [*]; done)), H', ⟨by have := HJ3.out; have := HJ6.out; first | omega | exact Nat.le_refl _⟩, ⟨by (with_reducible repeat (first | apply Kd.R_alloc | apply Kd.R_drewN | apply Kd.R_drew)); exact Kd.R_mono HO160.out (fun _ hk => hk.2)⟩, ⟨by (with_reducible repeat (first | apply Kd.R_alloc | apply Kd.R_drewN | apply Kd.R_drew)); exact Kd.R_mono HO163.out (fun _ hk => hk.2)⟩, ⟨by repeat (first | (with_reducible first | exact HB.out | apply below_alloc | apply pw_below_drewN | apply below_drew1) | exact HB.out)⟩⟩
                    · rw [if_neg c38] at H
                      have c38b0 : ((y158.length : Int) == (y161.length : Int)) = false := beq_eq_false_iff_ne.mpr c38
                      have c38b1 : ((y158.length : Int) != (y161.length : Int)) = true := bne_iff_ne.mpr c38
                      have c38b2 : (y158.length == y161.length) = false := by first | simpa using c38 | (simp at c38 ⊢; omega)
                      (first | rw [c38b0] | (simp only [i64_w, i32_w]; rw [c38b0]) | skip)
                      have H' := Aside0.mk H
                      clear H
                      obtain ⟨Ao42, co42, eo42⟩ := Kd.R_slice HO160.out
                      subst eo42
                      obtain ⟨Ao43, co43, eo43⟩ := Kd.R_slice HO163.out
                      subst eo43
                      go_wp2
                      go_meet
                      case rel => exact ⟨_, (false), (by first | rfl | (simp; done) | (simp [*]; done)), H', ⟨by have := HJ3.out; have := HJ6.out; first | omega | exact Nat.le_refl _⟩, ⟨by (with_reducible repeat (first | apply Kd.R_alloc | apply Kd.R_drewN | apply Kd.R_drew)); exact Kd.R_mono HO160.out (fun _ hk => hk.2)⟩, ⟨by (with_reducible repeat (first | apply Kd.R_alloc | apply Kd.R_drewN | apply Kd.R_drew)); exact Kd.R_mono HO163.out (fun _ hk => hk.2)⟩, ⟨by repeat (first | (with_reducible first | exact HB.out | apply below_alloc | apply pw_below_drewN | apply below_drew1) | exact HB.out)⟩⟩
                  case rest =>
                    clear HC33
                    try clear c1
                    try clear p2
                    try clear c3
                    try clear c4
                    try clear c5
                    try clear c5b0
                    try clear c5b1
                    try clear c6
                    try clear c9
                    try clear c10
                    try clear c12
                    try clear c30
                    try clear c31
                    try clear c31b0
                    try clear c31b1
                    try clear c32
                    try clear c32b0
                    try clear c32b1
                    try clear c38
                    try clear c38b0
                    try clear c38b1
                    try clear c38b2
                    try clear p2
                    obtain ⟨kq, x9_32, rfl, HA, HJ32, HO_7, HO_8, HB⟩ := hcut
                    cases kq with
                    | zero => exact absurd HA.out (by simp [laws_FnSameRunes.j2])
                    | succ kj32 =>
                      have H := HA.out
                      clear HA
                      simp only [laws_FnSameRunes.j2] at H
                      replace H := Option.bind_eq_some_iff.mp H
                      obtain ⟨t165, A440, H⟩ := H
                      replace H : (if (t165 == x9_32) = true then (if a1.toList = ([] : List UInt8) then ((impl_SameRunes.f kj32 (⟨#[97]⟩ : ByteArray) (⟨#[97]⟩ : ByteArray) false).bind fun t166 => (some t166)) else ((impl_BeginsRunes.f kj32 a0 a1 a2).bind fun t167 => ((spec_SameAt.f kj32 y158 y161 0 a2).bind fun t168 => (if (t167 == t168) = true then ((impl_SameRunes.f kj32 (⟨#[97]⟩ : ByteArray) (⟨#[97]⟩ : ByteArray) false).bind fun t169 => (some t169)) else (some false))))) else (some false)) = some r := H
                      have A44 := Aside0.mk A440
                      clear A440
                      by_cases c45 : (t165 == x9_32) = true
                      · rw [if_pos c45] at H
                        have c45b0 : (t165 == x9_32) = true := c45
                        (try (have c45b1 : decide (t165 = x9_32) = true := by simpa using c45))
                        (try (have c45b2 : (t165 == x9_32) = true := by simpa using c45))
                        clear c45
                        by_cases c46 : a1.toList = ([] : List UInt8)
                        · rw [if_pos c46] at H
                          have c46b0 : (a1.toList == ([] : List UInt8)) = true := beq_iff_eq.mpr c46
                          have c46b1 : (a1.toList != ([] : List UInt8)) = false := bne_eq_false_iff_eq.mpr c46
                          clear c46
                          replace H := Option.bind_eq_some_iff.mp H
                          obtain ⟨t166, A470, H⟩ := H
                          replace H : (some t166) = some r := H
                          have A47 := Aside0.mk A470
                          clear A470
                          obtain rfl := Option.some.inj H
                          go_wp2_with (first | ((with_reducible refine gate_callee (f := 10) rfl ?_); refine goesL_ (some 54) rfl rfl Tryd.func10 (by kernel_rfl) rfl #[.string a0, .string a1, .bool a2] rfl (by (try simp only [List.map_toArray, List.map_cons, List.map_nil]); first | done | rfl | (simp only [List.length_drop, List.length_take]; rfl)) ?_; (with_reducible refine (impl_SameRunes.calls kj32 a0 a1 a2 t165 _ A44.out).mono ?_); rintro e w48 ⟨rfl, hb⟩; refine ⟨_, rfl, ?_⟩; have n0_ := Aside0.mk (Kd.R_below (by (with_reducible repeat (first | apply Kd.R_alloc | apply Kd.R_drewN | apply Kd.R_drew)); exact HO_7.out) hb); have n1_ := Aside0.mk (Kd.R_below (by (with_reducible repeat (first | apply Kd.R_alloc | apply Kd.R_drewN | apply Kd.R_drew)); exact HO_8.out) hb); have n2_ := Aside0.mk (below_step (by repeat (first | (with_reducible first | exact HB.out | apply below_alloc | apply pw_below_drewN | apply below_drew1) | exact HB.out)) hb); clear HO_7; clear HO_8; clear HB; have HO_7 := n0_; have HO_8 := n1_; have HB := n2_; clear n0_ n1_ n2_; (try clear hb); (try clear hb2); (try clear hk); (try clear hi)) | (go_at_call 10; (with_reducible refine (impl_SameRunes.calls kj32 (⟨#[97]⟩ : ByteArray) (⟨#[97]⟩ : ByteArray) false t166 _ A47.out).mono ?_); rintro e w49 ⟨rfl, hb⟩; have n0_ := Aside0.mk (Kd.R_below (by (with_reducible repeat (first | apply Kd.R_alloc | apply Kd.R_drewN | apply Kd.R_drew)); exact HO_7.out) hb); have n1_ := Aside0.mk (Kd.R_below (by (with_reducible repeat (first | apply Kd.R_alloc | apply Kd.R_drewN | apply Kd.R_drew)); exact HO_8.out) hb); have n2_ := Aside0.mk (below_step (by repeat (first | (with_reducible first | exact HB.out | apply below_alloc | apply pw_below_drewN | apply below_drew1) | exact HB.out)) hb); clear HO_7; clear HO_8; clear HB; have HO_7 := n0_; have HO_8 := n1_; have HB := n2_; clear n0_ n1_ n2_; (try clear hb); (try clear hb2); (try clear hk); (try clear hi)))
                          go_ret
                          exact ⟨by first | rfl | (simp [errW_none, errW_some] <;> rfl) | (simp [*, errW_none, errW_some] <;> rfl), by repeat (first | (with_reducible first | exact HB.out | apply below_alloc | apply pw_below_drewN | apply below_drew1) | exact HB.out)⟩
                        · rw [if_neg c46] at H
                          have c46b0 : (a1.toList == ([] : List UInt8)) = false := beq_eq_false_iff_ne.mpr c46
                          have c46b1 : (a1.toList != ([] : List UInt8)) = true := bne_iff_ne.mpr c46
                          replace H := Option.bind_eq_some_iff.mp H
                          obtain ⟨t167, A500, H⟩ := H
                          replace H : ((spec_SameAt.f kj32 y158 y161 0 a2).bind fun t168 => (if (t167 == t168) = true then ((impl_SameRunes.f kj32 (⟨#[97]⟩ : ByteArray) (⟨#[97]⟩ : ByteArray) false).bind fun t169 => (some t169)) else (some false))) = some r := H
                          have A50 := Aside0.mk A500
                          clear A500
                          replace H := Option.bind_eq_some_iff.mp H
                          obtain ⟨t168, A510, H⟩ := H
                          replace H : (if (t167 == t168) = true then ((impl_SameRunes.f kj32 (⟨#[97]⟩ : ByteArray) (⟨#[97]⟩ : ByteArray) false).bind fun t169 => (some t169)) else (some false)) = some r := H
                          have A51 := Aside0.mk A510
                          clear A510
                          by_cases c52 : (t167 == t168) = true
                          · rw [if_pos c52] at H
                            have c52b0 : (t167 == t168) = true := c52
                            (try (have c52b1 : decide (t167 = t168) = true := by simpa using c52))
                            (try (have c52b2 : (t167 == t168) = true := by simpa using c52))
                            clear c52
                            replace H := Option.bind_eq_some_iff.mp H
                            obtain ⟨t169, A530, H⟩ := H
                            replace H : (some t169) = some r := H
                            have A53 := Aside0.mk A530
                            clear A530
                            obtain rfl := Option.some.inj H
                            go_wp2_with (first | ((with_reducible refine gate_callee (f := 10) rfl ?_); refine goesL_ (some 54) rfl rfl Tryd.func10 (by kernel_rfl) rfl #[.string a0, .string a1, .bool a2] rfl (by (try simp only [List.map_toArray, List.map_cons, List.map_nil]); first | done | rfl | (simp only [List.length_drop, List.length_take]; rfl)) ?_; (with_reducible refine (impl_SameRunes.calls kj32 a0 a1 a2 t165 _ A44.out).mono ?_); rintro e w54 ⟨rfl, hb⟩; refine ⟨_, rfl, ?_⟩; have n0_ := Aside0.mk (Kd.R_below (by (with_reducible repeat (first | apply Kd.R_alloc | apply Kd.R_drewN | apply Kd.R_drew)); exact HO_7.out) hb); have n1_ := Aside0.mk (Kd.R_below (by (with_reducible repeat (first | apply Kd.R_alloc | apply Kd.R_drewN | apply Kd.R_drew)); exact HO_8.out) hb); have n2_ := Aside0.mk (below_step (by repeat (first | (with_reducible first | exact HB.out | apply below_alloc | apply pw_below_drewN | apply below_drew1) | exact HB.out)) hb); clear HO_7; clear HO_8; clear HB; have HO_7 := n0_; have HO_8 := n1_; have HB := n2_; clear n0_ n1_ n2_; (try clear hb); (try clear hb2); (try clear hk); (try clear hi)) | (go_at_call 11; (with_reducible refine (impl_BeginsRunes.calls kj32 a0 a1 a2 t167 _ A50.out).mono ?_); rintro e w55 ⟨rfl, hb⟩; have n0_ := Aside0.mk (Kd.R_below (by (with_reducible repeat (first | apply Kd.R_alloc | apply Kd.R_drewN | apply Kd.R_drew)); exact HO_7.out) hb); have n1_ := Aside0.mk (Kd.R_below (by (with_reducible repeat (first | apply Kd.R_alloc | apply Kd.R_drewN | apply Kd.R_drew)); exact HO_8.out) hb); have n2_ := Aside0.mk (below_step (by repeat (first | (with_reducible first | exact HB.out | apply below_alloc | apply pw_below_drewN | apply below_drew1) | exact HB.out)) hb); clear HO_7; clear HO_8; clear HB; have HO_7 := n0_; have HO_8 := n1_; have HB := n2_; clear n0_ n1_ n2_; (try clear hb); (try clear hb2); (try clear hk); (try clear hi); obtain ⟨Ao56, co56, eo56⟩ := Kd.R_slice HO_7.out; subst eo56; obtain ⟨Ao57, co57, eo57⟩ := Kd.R_slice HO_8.out; subst eo57) | (go_at_call 9; (with_reducible refine (spec_SameAt.calls kj32 _ _ y158 _ _ y161 0 a2 t168 _ ?side1 ?side2 ?side3 ?side4 A51.out).mono ?_); (case side1 => repeat (first | exact (Kd.R_reads' HO_7.out).2.2 | (with_reducible refine Kd.C_alloc ?_ _) | (with_reducible refine Kd.C_drewN ?_ _) | (with_reducible refine Kd.C_drew ?_))); (case side2 => exact (Kd.R_reads' HO_7.out).2.1); (case side3 => repeat (first | exact (Kd.R_reads' HO_8.out).2.2 | (with_reducible refine Kd.C_alloc ?_ _) | (with_reducible refine Kd.C_drewN ?_ _) | (with_reducible refine Kd.C_drew ?_))); (case side4 => exact (Kd.R_reads' HO_8.out).2.1); rintro e w' ⟨rfl, ⟨nd, rfl⟩⟩) | (go_at_call 10; (with_reducible refine (impl_SameRunes.calls kj32 (⟨#[97]⟩ : ByteArray) (⟨#[97]⟩ : ByteArray) false t169 _ A53.out).mono ?_); rintro e w58 ⟨rfl, hb⟩; have n0_ := Aside0.mk (Kd.R_below (by (with_reducible repeat (first | apply Kd.R_alloc | apply Kd.R_drewN | apply Kd.R_drew)); exact HO_7.out) hb); have n1_ := Aside0.mk (Kd.R_below (by (with_reducible repeat (first | apply Kd.R_alloc | apply Kd.R_drewN | apply Kd.R_drew)); exact HO_8.out) hb); have n2_ := Aside0.mk (below_step (by repeat (first | (with_reducible first | exact HB.out | apply below_alloc | apply pw_below_drewN | apply below_drew1) | exact HB.out)) hb); clear HO_7; clear HO_8; clear HB; have HO_7 := n0_; have HO_8 := n1_; have HB := n2_; clear n0_ n1_ n2_; (try clear hb); (try clear hb2); (try clear hk); (try clear hi)))
                            go_ret
                            exact ⟨by first | rfl | (simp [errW_none, errW_some] <;> rfl) | (simp [*, errW_none, errW_some] <;> rfl), by repeat (first | (with_reducible first | exact HB.out | apply below_alloc | apply pw_below_drewN | apply below_drew1) | exact HB.out)⟩
                          · rw [if_neg c52] at H
                            have c52b0 : (t167 == t168) = false := by simpa using c52
                            (try (have c52b1 : decide (t167 = t168) = false := by simpa using c52))
                            (try (have c52b2 : (t167 == t168) = false := by simpa using c52))
                            (try (have c52b3 : ¬ (t167 = t168) := by simpa using c52))
                            clear c52
                            obtain rfl := Option.some.inj H
                            go_wp2_with (first | ((with_reducible refine gate_callee (f := 10) rfl ?_); refine goesL_ (some 54) rfl rfl Tryd.func10 (by kernel_rfl) rfl #[.string a0, .string a1, .bool a2] rfl (by (try simp only [List.map_toArray, List.map_cons, List.map_nil]); first | done | rfl | (simp only [List.length_drop, List.length_take]; rfl)) ?_; (with_reducible refine (impl_SameRunes.calls kj32 a0 a1 a2 t165 _ A44.out).mono ?_); rintro e w59 ⟨rfl, hb⟩; refine ⟨_, rfl, ?_⟩; have n0_ := Aside0.mk (Kd.R_below (by (with_reducible repeat (first | apply Kd.R_alloc | apply Kd.R_drewN | apply Kd.R_drew)); exact HO_7.out) hb); have n1_ := Aside0.mk (Kd.R_below (by (with_reducible repeat (first | apply Kd.R_alloc | apply Kd.R_drewN | apply Kd.R_drew)); exact HO_8.out) hb); have n2_ := Aside0.mk (below_step (by repeat (first | (with_reducible first | exact HB.out | apply below_alloc | apply pw_below_drewN | apply below_drew1) | exact HB.out)) hb); clear HO_7; clear HO_8; clear HB; have HO_7 := n0_; have HO_8 := n1_; have HB := n2_; clear n0_ n1_ n2_; (try clear hb); (try clear hb2); (try clear hk); (try clear hi)) | (go_at_call 11; (with_reducible refine (impl_BeginsRunes.calls kj32 a0 a1 a2 t167 _ A50.out).mono ?_); rintro e w60 ⟨rfl, hb⟩; have n0_ := Aside0.mk (Kd.R_below (by (with_reducible repeat (first | apply Kd.R_alloc | apply Kd.R_drewN | apply Kd.R_drew)); exact HO_7.out) hb); have n1_ := Aside0.mk (Kd.R_below (by (with_reducible repeat (first | apply Kd.R_alloc | apply Kd.R_drewN | apply Kd.R_drew)); exact HO_8.out) hb); have n2_ := Aside0.mk (below_step (by repeat (first | (with_reducible first | exact HB.out | apply below_alloc | apply pw_below_drewN | apply below_drew1) | exact HB.out)) hb); clear HO_7; clear HO_8; clear HB; have HO_7 := n0_; have HO_8 := n1_; have HB := n2_; clear n0_ n1_ n2_; (try clear hb); (try clear hb2); (try clear hk); (try clear hi); obtain ⟨Ao61, co61, eo61⟩ := Kd.R_slice HO_7.out; subst eo61; obtain ⟨Ao62, co62, eo62⟩ := Kd.R_slice HO_8.out; subst eo62) | (go_at_call 9; (with_reducible refine (spec_SameAt.calls kj32 _ _ y158 _ _ y161 0 a2 t168 _ ?side1 ?side2 ?side3 ?side4 A51.out).mono ?_); (case side1 => repeat (first | exact (Kd.R_reads' HO_7.out).2.2 | (with_reducible refine Kd.C_alloc ?_ _) | (with_reducible refine Kd.C_drewN ?_ _) | (with_reducible refine Kd.C_drew ?_))); (case side2 => exact (Kd.R_reads' HO_7.out).2.1); (case side3 => repeat (first | exact (Kd.R_reads' HO_8.out).2.2 | (with_reducible refine Kd.C_alloc ?_ _) | (with_reducible refine Kd.C_drewN ?_ _) | (with_reducible refine Kd.C_drew ?_))); (case side4 => exact (Kd.R_reads' HO_8.out).2.1); rintro e w' ⟨rfl, ⟨nd, rfl⟩⟩))
                            go_ret
                            exact ⟨by first | rfl | (simp [errW_none, errW_some] <;> rfl) | (simp [*, errW_none, errW_some] <;> rfl), by repeat (first | (with_reducible first | exact HB.out | apply below_alloc | apply pw_below_drewN | apply below_drew1) | exact HB.out)⟩
                      · rw [if_neg c45] at H
                        have c45b0 : (t165 == x9_32) = false := by simpa using c45
                        (try (have c45b1 : decide (t165 = x9_32) = false := by simpa using c45))
                        (try (have c45b2 : (t165 == x9_32) = false := by simpa using c45))
                        (try (have c45b3 : ¬ (t165 = x9_32) := by simpa using c45))
                        clear c45
                        obtain rfl := Option.some.inj H
                        go_wp2_with (first | ((with_reducible refine gate_callee (f := 10) rfl ?_); refine goesL_ (some 54) rfl rfl Tryd.func10 (by kernel_rfl) rfl #[.string a0, .string a1, .bool a2] rfl (by (try simp only [List.map_toArray, List.map_cons, List.map_nil]); first | done | rfl | (simp only [List.length_drop, List.length_take]; rfl)) ?_; (with_reducible refine (impl_SameRunes.calls kj32 a0 a1 a2 t165 _ A44.out).mono ?_); rintro e w63 ⟨rfl, hb⟩; refine ⟨_, rfl, ?_⟩; have n0_ := Aside0.mk (Kd.R_below (by (with_reducible repeat (first | apply Kd.R_alloc | apply Kd.R_drewN | apply Kd.R_drew)); exact HO_7.out) hb); have n1_ := Aside0.mk (Kd.R_below (by (with_reducible repeat (first | apply Kd.R_alloc | apply Kd.R_drewN | apply Kd.R_drew)); exact HO_8.out) hb); have n2_ := Aside0.mk (below_step (by repeat (first | (with_reducible first | exact HB.out | apply below_alloc | apply pw_below_drewN | apply below_drew1) | exact HB.out)) hb); clear HO_7; clear HO_8; clear HB; have HO_7 := n0_; have HO_8 := n1_; have HB := n2_; clear n0_ n1_ n2_; (try clear hb); (try clear hb2); (try clear hk); (try clear hi)))
                        go_ret
                        exact ⟨by first | rfl | (simp [errW_none, errW_some] <;> rfl) | (simp [*, errW_none, errW_some] <;> rfl), by repeat (first | (with_reducible first | exact HB.out | apply below_alloc | apply pw_below_drewN | apply below_drew1) | exact HB.out)⟩
                · rw [if_neg c32] at H
                  exact absurd H (by simp)
              · rw [if_neg c31] at H
                exact absurd H (by simp)

/-- THE ONE PURE STATEMENT of laws_FnSameRunes: yours. -/
def laws_FnSameRunes.Pure : Prop := ∀ (a0 : ByteArray) (a1 : ByteArray) (a2 : Bool), a0.size ≤ 140737488351232 → a1.size ≤ 140737488351232 → ∃ k, laws_FnSameRunes.f k a0 a1 a2 = some true
theorem laws_FnSameRunes.walk (P : laws_FnSameRunes.Pure) (a0 : ByteArray) (a1 : ByteArray) (a2 : Bool) (w : World) (w0 : a0.size ≤ 140737488351232) (w1 : a1.size ≤ 140737488351232) :
    Calls Tryd.prog 4 #[.string a0, .string a1, .bool a2] w fun e w' => e = .returned (.bool true) ∧ Below w.heap.size w w' := by
  obtain ⟨k, h⟩ := P a0 a1 a2 w0 w1
  refine (laws_FnSameRunes.calls k a0 a1 a2 true w h).mono ?_
  rintro e w' ⟨rfl, hd⟩
  exact ⟨rfl, hd⟩

end Go.Proofs.YthkblefeifdhaaaDoor.PFnSameRunes
