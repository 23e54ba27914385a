/- Printed by a program of this seat (xprint) out of the translation: Go functions as plain functions, and the walks that show them; no condition. -/
import Derived.Test.YthbdaoapjnofkaaQPFnColouredx0
import Derived.Test.YthbdaoapjnofkaaQHVt
namespace Go.Proofs.Ythbdaoapjnofkaa.PFnColoured
open Go.RowKit Go.Proofs.Ythbdaoapjnofkaa.H Go.Proofs.Ythbdaoapjnofkaa.R Go.Proofs.YthbdaoapjnofkaaW.PrintWords Go.Proofs.YthbdaoapjnofkaaW.PrintLast Go.Proofs.YthbdaoapjnofkaaW.PrintMore
attribute [local go_sem] max2_int min2_int max_two min_two max_three min_three max_four min_four   -- for this text's walks alone
set_option linter.unusedVariables false
set_option linter.unusedSimpArgs false
/-! ### spec_Number: function 16 -/
def spec_Number.l0 : Nat → Int → ByteArray → Option (ByteArray)
  | 0, _, _ => none
  | k + 1, x0, x3 => if x0 > 9 then ((some (([(wrap64 (48 + (Int.tmod x0 10))) % 256] : List Int) : List Int)).bind fun y101 => (if (strOfNums y101).size + x3.size ≤ 9223372036854775807 then (spec_Number.l0 k (wrap64 (Int.tdiv x0 10)) ((strOfNums y101) ++ x3)) else (none))) else ((some (([(wrap64 (48 + x0)) % 256] : List Int) : List Int)).bind fun y104 => (if (strOfNums y104).size + x3.size ≤ 9223372036854775807 then (some ((strOfNums y104) ++ x3)) else (none)))
def spec_Number.f (k : Nat) (a0 : Int) : Option (ByteArray) := spec_Number.l0 k a0 (⟨#[]⟩ : ByteArray)
theorem spec_Number.mono_l : ∀ k, (∀ y0 y1, LeO (spec_Number.l0 k y0 y1) (spec_Number.l0 (k + 1) y0 y1))
  | 0 => fun _ _ r h => by simp [spec_Number.l0] at h
  | k + 1 => by
    have ih0 := spec_Number.mono_l k
    · intro y0 y1
      unfold spec_Number.l0
      repeat' first
      | (with_reducible exact ih0 _ _)
      | (with_reducible exact LeO.refl _)
      | (with_reducible exact LeO.none _)
      | (with_reducible refine LeO.ite ?_ ?_)
      | (with_reducible refine LeO.bind ?_ (fun _ => ?_))
      | exact ih0 _ _
      | exact LeO.none _
      | refine LeO.ite ?_ ?_
      | refine LeO.bind ?_ (fun _ => ?_)
theorem spec_Number.mono : ∀ a0 k, LeO (spec_Number.f k a0) (spec_Number.f (k + 1) a0) := by
  intro a0 k
  have ih0 := spec_Number.mono_l k
  unfold spec_Number.f
  repeat' first
      | (with_reducible exact ih0 _ _)
      | (with_reducible exact LeO.refl _)
      | (with_reducible exact LeO.none _)
      | (with_reducible refine LeO.ite ?_ ?_)
      | (with_reducible refine LeO.bind ?_ (fun _ => ?_))
      | exact ih0 _ _
      | exact LeO.none _
      | refine LeO.ite ?_ ?_
      | refine LeO.bind ?_ (fun _ => ?_)
set_option maxHeartbeats 8000000 in
set_option maxRecDepth 100000 in
theorem spec_Number.calls (k : Nat) (a0 : Int) (r : ByteArray) (w : World) (h : spec_Number.f k a0 = some r) :
    Calls Try.prog 16 #[.int .i64 a0] w fun e w' => e = .returned (.string r) ∧ Below w.heap.size w w' := by
  have HB := Aside0.mk (Below.refl w.heap.size w)
  have H : (spec_Number.l0 k a0 (⟨#[]⟩ : ByteArray)) = some r := h
  clear h
  have H' := Aside0.mk H
  clear H
  go_enter Try.func16, Try.ntmps16
  go_wp2
  go_loopg [0, 3] k (fun kq v0 v3 w' => ∃ (x0_1 : Int) (x3_1 : ByteArray), v0 = .int .i64 x0_1 ∧ v3 = .string x3_1 ∧ Aside0 (spec_Number.l0 kq x0_1 x3_1 = some r) ∧ Aside0 (kq ≤ k) ∧ Aside0 (Below w.heap.size w w'))
  case atStart => exact ⟨(a0), ((⟨#[]⟩ : ByteArray)), (by first | rfl | (simp; done) | (simp [*]; done)), (by first | rfl | (simp; done) | (simp [*]; done)), H', ⟨Nat.le_refl _⟩, ⟨by repeat (first | (with_reducible first | exact HB.out | apply below_alloc | apply pw_below_drewN | apply below_drew1) | exact HB.out)⟩⟩
  case round =>
    clear H'
    try clear c1
    obtain ⟨x0_1, x3_1, rfl, rfl, HA, HK1, HB⟩ := hrel
    cases gk with
    | zero => exact absurd HA.out (by simp [spec_Number.l0])
    | succ k1 =>
      have H := HA.out
      clear HA
      simp only [spec_Number.l0] at H
      by_cases c2 : x0_1 > 9
      · rw [if_pos c2] at H
        have c2b0 : decide (9 < x0_1) = true := decide_eq_true c2
        clear c2
        obtain ⟨y101, hy101⟩ : ∃ y_ : List Int, y_ = (([(wrap64 (48 + (Int.tmod x0_1 10))) % 256] : List Int)) := ⟨_, rfl⟩
        replace H : (if (strOfNums y101).size + x3_1.size ≤ 9223372036854775807 then (spec_Number.l0 k1 (wrap64 (Int.tdiv x0_1 10)) ((strOfNums y101) ++ x3_1)) else (none)) = some r := by first | (rw [hy101]; with_reducible exact H) | (have H2_ := (Option.bind_some _ _).symm.trans H; rw [hy101]; with_reducible exact H2_) | (have H2_ := (Option.bind_some _ _).symm.trans H; with_reducible exact H2_) | with_reducible exact H | (rw [hy101]; exact H) | exact H
        have Ny101 := Aside0.mk hy101
        clear hy101
        by_cases c3 : (strOfNums y101).size + x3_1.size ≤ 9223372036854775807
        · rw [if_pos c3] at H
          have c3b0 := eq_true c3
          have c3b1 : decide ((strOfNums y101).size + x3_1.size ≤ 9223372036854775807) = true := decide_eq_true c3
          try have c3b2 : (9223372036854775807 < (strOfNums y101).size + x3_1.size) = False := eq_false (Nat.not_lt.2 c3)
          have H' := Aside0.mk H
          clear H
          go_wp2_with (first | ((with_reducible refine gate_dst (N := 10) rfl ?_); refine Kd.R_lit (Kd.int .u8) _ 5 ?hg (N := 10) ?hd (xs := ([(wrap64 (48 + (Int.tmod x0_1 10))) % 256] : List Int)) (inner := [.int .u8 ((wrap64 (48 + (Int.tmod x0_1 10))) % 256)]) (ok := fun _ => True) (okp := fun _ => True) ?hr ?hp (fun _ hk => hk) trivial (Below.refl _ _) (Nat.le_refl _) (by simp) ?_; (case hd => rfl); (case hg => rfl); (case hr => first | (go_simp; done) | (go_simp; rfl)); (case hp => exact (Reps.one (show Kd.M (Kd.int .u8) _ _ _ ((wrap64 (48 + (Int.tmod x0_1 10))) % 256) [.int .u8 ((wrap64 (48 + (Int.tmod x0_1 10))) % 256)] from rfl) (Reps.none _ _))); intro v102 w4 ho5 hb hg_ hnew_; clear hg_ hnew_; (first | rw [← Ny101.out] at ho5 | (simp only [Int.reduceToNat] at ho5; rw [← Ny101.out] at ho5)); have n0_ := Aside0.mk (Kd.R_lower ho5 (below_size (by repeat (first | (with_reducible first | exact HB.out | apply below_alloc | apply pw_below_drewN | apply below_drew1) | exact HB.out)))); have n1_ := Aside0.mk (below_step (by repeat (first | (with_reducible first | exact HB.out | apply below_alloc | apply pw_below_drewN | apply below_drew1) | exact HB.out)) hb); clear HB; have HO103 := n0_; have HB := n1_; clear n0_ n1_; clear hb ho5; have hcv6 := own_string (P := Try.prog) Try.underlying41 Try.underlying5 Try.underlying9 (Kd.own_of_R HO103.out); have hcv6n := fun n_ => own_string (P := Try.prog) Try.underlying41 Try.underlying5 Try.underlying9 (Kd.own_of_R (Kd.R_drewN HO103.out n_))))
          go_roundg k1
          case measure => have := HK1.out; omega
          case rel => exact ⟨(wrap64 (Int.tdiv x0_1 10)), ((strOfNums y101) ++ x3_1), (by first | rfl | (simp; done) | (simp [*]; done)), (by first | rfl | (simp; done) | (simp [*]; done)), H', ⟨by have := HK1.out; omega⟩, ⟨by repeat (first | (with_reducible first | exact HB.out | apply below_alloc | apply pw_below_drewN | apply below_drew1) | exact HB.out)⟩⟩
        · rw [if_neg c3] at H
          exact absurd H (by simp)
      · rw [if_neg c2] at H
        have c2b0 : decide (9 < x0_1) = false := decide_eq_false c2
        clear c2
        obtain ⟨y104, hy104⟩ : ∃ y_ : List Int, y_ = (([(wrap64 (48 + x0_1)) % 256] : List Int)) := ⟨_, rfl⟩
        replace H : (if (strOfNums y104).size + x3_1.size ≤ 9223372036854775807 then (some ((strOfNums y104) ++ x3_1)) else (none)) = some r := by first | (rw [hy104]; with_reducible exact H) | (have H2_ := (Option.bind_some _ _).symm.trans H; rw [hy104]; with_reducible exact H2_) | (have H2_ := (Option.bind_some _ _).symm.trans H; with_reducible exact H2_) | with_reducible exact H | (rw [hy104]; exact H) | exact H
        have Ny104 := Aside0.mk hy104
        clear hy104
        by_cases c7 : (strOfNums y104).size + x3_1.size ≤ 9223372036854775807
        · rw [if_pos c7] at H
          have c7b0 := eq_true c7
          have c7b1 : decide ((strOfNums y104).size + x3_1.size ≤ 9223372036854775807) = true := decide_eq_true c7
          try have c7b2 : (9223372036854775807 < (strOfNums y104).size + x3_1.size) = False := eq_false (Nat.not_lt.2 c7)
          obtain rfl := Option.some.inj H
          go_wp2_with (first | ((with_reducible refine gate_dst (N := 19) rfl ?_); refine Kd.R_lit (Kd.int .u8) _ 5 ?hg (N := 19) ?hd (xs := ([(wrap64 (48 + x0_1)) % 256] : List Int)) (inner := [.int .u8 ((wrap64 (48 + x0_1)) % 256)]) (ok := fun _ => True) (okp := fun _ => True) ?hr ?hp (fun _ hk => hk) trivial (Below.refl _ _) (Nat.le_refl _) (by simp) ?_; (case hd => rfl); (case hg => rfl); (case hr => first | (go_simp; done) | (go_simp; rfl)); (case hp => exact (Reps.one (show Kd.M (Kd.int .u8) _ _ _ ((wrap64 (48 + x0_1)) % 256) [.int .u8 ((wrap64 (48 + x0_1)) % 256)] from rfl) (Reps.none _ _))); intro v105 w8 ho9 hb hg_ hnew_; clear hg_ hnew_; (first | rw [← Ny104.out] at ho9 | (simp only [Int.reduceToNat] at ho9; rw [← Ny104.out] at ho9)); have n0_ := Aside0.mk (Kd.R_lower ho9 (below_size (by repeat (first | (with_reducible first | exact HB.out | apply below_alloc | apply pw_below_drewN | apply below_drew1) | exact HB.out)))); have n1_ := Aside0.mk (below_step (by repeat (first | (with_reducible first | exact HB.out | apply below_alloc | apply pw_below_drewN | apply below_drew1) | exact HB.out)) hb); clear HB; have HO106 := n0_; have HB := n1_; clear n0_ n1_; clear hb ho9; have hcv10 := own_string (P := Try.prog) Try.underlying41 Try.underlying5 Try.underlying9 (Kd.own_of_R HO106.out); have hcv10n := fun n_ => own_string (P := Try.prog) Try.underlying41 Try.underlying5 Try.underlying9 (Kd.own_of_R (Kd.R_drewN HO106.out n_))))
          go_ret
          exact ⟨by first | rfl | (simp [errW_none, errW_some] <;> rfl) | (simp [*, errW_none, errW_some] <;> rfl), by repeat (first | (with_reducible first | exact HB.out | apply below_alloc | apply pw_below_drewN | apply below_drew1) | exact HB.out)⟩
        · rw [if_neg c7] at H
          exact absurd H (by simp)
/-! ### spec_shade: function 37 -/
mutual
def spec_shade.j0 : Nat → Int → Int → Int → Int → Bool → Option (ByteArray)
  | 0, _, _, _, _, _ => none
  | k + 1, x0, x1, x2, x3, x9 => if x9 = true then ((spec_Number.f k (wrap64 ((wrap64 (x1 + x0)) - 1))).bind fun t107 => (some t107)) else (if x0 ≥ 9 then (spec_shade.j1 k x0 x2 x3 (decide (x0 ≤ 16))) else (spec_shade.j1 k x0 x2 x3 false))
def spec_shade.j1 : Nat → Int → Int → Int → Bool → Option (ByteArray)
  | 0, _, _, _, _ => none
  | k + 1, x0, x2, x3, x21 => if x21 = true then ((spec_Number.f k (wrap64 ((wrap64 (x2 + x0)) - 9))).bind fun t108 => (some t108)) else ((spec_Number.f k x3).bind fun t109 => (some t109))
end
def spec_shade.f (k : Nat) (a0 : Int) (a1 : Int) (a2 : Int) (a3 : Int) : Option (ByteArray) := if a0 ≥ 1 then (spec_shade.j0 k a0 a1 a2 a3 (decide (a0 ≤ 8))) else (spec_shade.j0 k a0 a1 a2 a3 false)
theorem spec_shade.mono_l : ∀ k, (∀ y0 y1 y2 y3 y4, LeO (spec_shade.j0 k y0 y1 y2 y3 y4) (spec_shade.j0 (k + 1) y0 y1 y2 y3 y4)) ∧ (∀ y0 y1 y2 y3, LeO (spec_shade.j1 k y0 y1 y2 y3) (spec_shade.j1 (k + 1) y0 y1 y2 y3))
  | 0 => ⟨fun _ _ _ _ _ r h => by simp [spec_shade.j0] at h, fun _ _ _ _ r h => by simp [spec_shade.j1] at h⟩
  | k + 1 => by
    obtain ⟨ih0, ih1⟩ := spec_shade.mono_l k
    refine ⟨?_, ?_⟩
    · intro y0 y1 y2 y3 y4
      unfold spec_shade.j0
      repeat' first
      | (with_reducible exact ih0 _ _ _ _ _)
      | (with_reducible exact ih1 _ _ _ _)
      | (with_reducible exact spec_Number.mono _ _)
      | (with_reducible exact LeO.refl _)
      | (with_reducible exact LeO.none _)
      | (with_reducible refine LeO.ite ?_ ?_)
      | (with_reducible refine LeO.bind ?_ (fun _ => ?_))
      | exact ih0 _ _ _ _ _
      | exact ih1 _ _ _ _
      | exact spec_Number.mono _ _
      | exact LeO.none _
      | refine LeO.ite ?_ ?_
      | refine LeO.bind ?_ (fun _ => ?_)
    · intro y0 y1 y2 y3
      unfold spec_shade.j1
      repeat' first
      | (with_reducible exact ih0 _ _ _ _ _)
      | (with_reducible exact ih1 _ _ _ _)
      | (with_reducible exact spec_Number.mono _ _)
      | (with_reducible exact LeO.refl _)
      | (with_reducible exact LeO.none _)
      | (with_reducible refine LeO.ite ?_ ?_)
      | (with_reducible refine LeO.bind ?_ (fun _ => ?_))
      | exact ih0 _ _ _ _ _
      | exact ih1 _ _ _ _
      | exact spec_Number.mono _ _
      | exact LeO.none _
      | refine LeO.ite ?_ ?_
      | refine LeO.bind ?_ (fun _ => ?_)
theorem spec_shade.mono : ∀ a0 a1 a2 a3 k, LeO (spec_shade.f k a0 a1 a2 a3) (spec_shade.f (k + 1) a0 a1 a2 a3) := by
  intro a0 a1 a2 a3 k
  obtain ⟨ih0, ih1⟩ := spec_shade.mono_l k
  unfold spec_shade.f
  repeat' first
      | (with_reducible exact ih0 _ _ _ _ _)
      | (with_reducible exact ih1 _ _ _ _)
      | (with_reducible exact spec_Number.mono _ _)
      | (with_reducible exact LeO.refl _)
      | (with_reducible exact LeO.none _)
      | (with_reducible refine LeO.ite ?_ ?_)
      | (with_reducible refine LeO.bind ?_ (fun _ => ?_))
      | exact ih0 _ _ _ _ _
      | exact ih1 _ _ _ _
      | exact spec_Number.mono _ _
      | exact LeO.none _
      | refine LeO.ite ?_ ?_
      | refine LeO.bind ?_ (fun _ => ?_)
set_option maxHeartbeats 8000000 in
set_option maxRecDepth 100000 in
theorem spec_shade.calls (k : Nat) (a0 : Int) (a1 : Int) (a2 : Int) (a3 : Int) (r : ByteArray) (w : World) (h : spec_shade.f k a0 a1 a2 a3 = some r) :
    Calls Try.prog 37 #[.int .i64 a0, .int .i64 a1, .int .i64 a2, .int .i64 a3] w fun e w' => e = .returned (.string r) ∧ Below w.heap.size w w' := by
  have HB := Aside0.mk (Below.refl w.heap.size w)
  have H : (if a0 ≥ 1 then (spec_shade.j0 k a0 a1 a2 a3 (decide (a0 ≤ 8))) else (spec_shade.j0 k a0 a1 a2 a3 false)) = some r := h
  clear h
  have HC5 := Aside0.mk H
  clear H
  go_enter Try.func37, Try.ntmps37
  go_upto_region 1 with (fail)
  go_cut [9] (fun v9 wc => ∃ (kq : Nat) (x9_4 : Bool), v9 = .bool x9_4 ∧ Aside0 (spec_shade.j0 kq a0 a1 a2 a3 x9_4 = some r) ∧ Aside0 (kq ≤ k) ∧ Aside0 (Below w.heap.size w wc))
  case first =>
    have H := HC5.out
    clear HC5
    by_cases c6 : a0 ≥ 1
    · rw [if_pos c6] at H
      have c6b0 : decide (1 ≤ a0) = true := decide_eq_true c6
      clear c6
      (first | rw [c6b0] | (simp only [i64_w, i32_w]; rw [c6b0]) | skip)
      have H' := Aside0.mk H
      clear H
      go_wp2
      go_meet
      case rel => exact ⟨_, (decide (a0 ≤ 8)), (by first | rfl | (simp; done) | (simp [*]; done)), H', ⟨by first | omega | exact Nat.le_refl _⟩, ⟨by repeat (first | (with_reducible first | exact HB.out | apply below_alloc | apply pw_below_drewN | apply below_drew1) | exact HB.out)⟩⟩
    · rw [if_neg c6] at H
      have c6b0 : decide (1 ≤ a0) = false := decide_eq_false c6
      clear c6
      (first | rw [c6b0] | (simp only [i64_w, i32_w]; rw [c6b0]) | skip)
      have H' := Aside0.mk H
      clear H
      go_wp2
      go_meet
      case rel => exact ⟨_, (false), (by first | rfl | (simp; done) | (simp [*]; done)), H', ⟨by first | omega | exact Nat.le_refl _⟩, ⟨by repeat (first | (with_reducible first | exact HB.out | apply below_alloc | apply pw_below_drewN | apply below_drew1) | exact HB.out)⟩⟩
  case rest =>
    clear HC5
    try clear p2
    try clear c3
    try clear c6
    try clear c6b0
    obtain ⟨kq, x9_4, rfl, HA, HJ4, HB⟩ := hcut
    cases kq with
    | zero => exact absurd HA.out (by simp [spec_shade.j0])
    | succ kj4 =>
      have H := HA.out
      clear HA
      simp only [spec_shade.j0] at H
      by_cases c7 : x9_4 = true
      · subst c7
        have H1 : ((spec_Number.f kj4 (wrap64 ((wrap64 (a1 + a0)) - 1))).bind fun t107 => (some t107)) = some r := by rw [if_pos rfl] at H; exact H
        clear H
        have H := H1
        clear H1
        replace H := Option.bind_eq_some_iff.mp H
        obtain ⟨t107, A80, H⟩ := H
        replace H : (some t107) = some r := H
        have A8 := Aside0.mk A80
        clear A80
        obtain rfl := Option.some.inj H
        go_wp2_with (first | ((with_reducible refine gate_callee (f := 16) rfl ?_); refine goesL_ (some 20) rfl rfl Try.func16 (by kernel_rfl) rfl #[.int .i64 (wrap64 ((wrap64 (a1 + a0)) - 1))] rfl (by (try simp only [List.map_toArray, List.map_cons, List.map_nil]); first | done | rfl | (simp only [List.length_drop, List.length_take]; rfl) | (simp only [Int.toNat_natCast, ByteArray.extract_zero_size]; rfl)) ?_; (with_reducible refine (spec_Number.calls kj4 (wrap64 ((wrap64 (a1 + a0)) - 1)) t107 _ A8.out).mono ?_); rintro e w9 ⟨rfl, hb⟩; refine ⟨_, rfl, ?_⟩; have n0_ := Aside0.mk (below_step (by repeat (first | (with_reducible first | exact HB.out | apply below_alloc | apply pw_below_drewN | apply below_drew1) | exact HB.out)) hb); clear HB; have HB := n0_; clear n0_; (try clear hb); (try clear hb2); (try clear hk); (try clear hi)))
        go_ret
        exact ⟨by first | rfl | (simp [errW_none, errW_some] <;> rfl) | (simp [*, errW_none, errW_some] <;> rfl), by repeat (first | (with_reducible first | exact HB.out | apply below_alloc | apply pw_below_drewN | apply below_drew1) | exact HB.out)⟩
      · replace c7 := Bool.eq_false_iff.mpr c7
        subst c7
        have H1 : (if a0 ≥ 9 then (spec_shade.j1 kj4 a0 a2 a3 (decide (a0 ≤ 16))) else (spec_shade.j1 kj4 a0 a2 a3 false)) = some r := by rw [if_neg (show ¬ (false = true) by decide)] at H; exact H
        clear H
        have H := H1
        clear H1
        have HC10 := Aside0.mk H
        clear H
        go_upto_region 3 with (fail)
        go_cut [21] (fun v21 wc => ∃ (kq : Nat) (x21_9 : Bool), v21 = .bool x21_9 ∧ Aside0 (spec_shade.j1 kq a0 a2 a3 x21_9 = some r) ∧ Aside0 (kq ≤ kj4) ∧ Aside0 (Below w.heap.size w wc))
        case first =>
          have H := HC10.out
          clear HC10
          by_cases c11 : a0 ≥ 9
          · rw [if_pos c11] at H
            have c11b0 : decide (9 ≤ a0) = true := decide_eq_true c11
            clear c11
            (first | rw [c11b0] | (simp only [i64_w, i32_w]; rw [c11b0]) | skip)
            have H' := Aside0.mk H
            clear H
            go_wp2
            go_meet
            case rel => exact ⟨_, (decide (a0 ≤ 16)), (by first | rfl | (simp; done) | (simp [*]; done)), H', ⟨by have := HJ4.out; first | omega | exact Nat.le_refl _⟩, ⟨by repeat (first | (with_reducible first | exact HB.out | apply below_alloc | apply pw_below_drewN | apply below_drew1) | exact HB.out)⟩⟩
          · rw [if_neg c11] at H
            have c11b0 : decide (9 ≤ a0) = false := decide_eq_false c11
            clear c11
            (first | rw [c11b0] | (simp only [i64_w, i32_w]; rw [c11b0]) | skip)
            have H' := Aside0.mk H
            clear H
            go_wp2
            go_meet
            case rel => exact ⟨_, (false), (by first | rfl | (simp; done) | (simp [*]; done)), H', ⟨by have := HJ4.out; first | omega | exact Nat.le_refl _⟩, ⟨by repeat (first | (with_reducible first | exact HB.out | apply below_alloc | apply pw_below_drewN | apply below_drew1) | exact HB.out)⟩⟩
        case rest =>
          clear HC10
          try clear c1
          try clear p2
          try clear c3
          try clear c6
          try clear c6b0
          try clear p6
          try clear c7
          try clear c11
          try clear c11b0
          try clear p2
          obtain ⟨kq, x21_9, rfl, HA, HJ9, HB⟩ := hcut
          cases kq with
          | zero => exact absurd HA.out (by simp [spec_shade.j1])
          | succ kj9 =>
            have H := HA.out
            clear HA
            simp only [spec_shade.j1] at H
            by_cases c12 : x21_9 = true
            · subst c12
              have H1 : ((spec_Number.f kj9 (wrap64 ((wrap64 (a2 + a0)) - 9))).bind fun t108 => (some t108)) = some r := by rw [if_pos rfl] at H; exact H
              clear H
              have H := H1
              clear H1
              replace H := Option.bind_eq_some_iff.mp H
              obtain ⟨t108, A130, H⟩ := H
              replace H : (some t108) = some r := H
              have A13 := Aside0.mk A130
              clear A130
              obtain rfl := Option.some.inj H
              go_wp2_with (first | ((with_reducible refine gate_callee (f := 16) rfl ?_); refine goesL_ (some 32) rfl rfl Try.func16 (by kernel_rfl) rfl #[.int .i64 (wrap64 ((wrap64 (a2 + a0)) - 9))] rfl (by (try simp only [List.map_toArray, List.map_cons, List.map_nil]); first | done | rfl | (simp only [List.length_drop, List.length_take]; rfl) | (simp only [Int.toNat_natCast, ByteArray.extract_zero_size]; rfl)) ?_; (with_reducible refine (spec_Number.calls kj9 (wrap64 ((wrap64 (a2 + a0)) - 9)) t108 _ A13.out).mono ?_); rintro e w14 ⟨rfl, hb⟩; refine ⟨_, rfl, ?_⟩; have n0_ := Aside0.mk (below_step (by repeat (first | (with_reducible first | exact HB.out | apply below_alloc | apply pw_below_drewN | apply below_drew1) | exact HB.out)) hb); clear HB; have HB := n0_; clear n0_; (try clear hb); (try clear hb2); (try clear hk); (try clear hi)))
              go_ret
              exact ⟨by first | rfl | (simp [errW_none, errW_some] <;> rfl) | (simp [*, errW_none, errW_some] <;> rfl), by repeat (first | (with_reducible first | exact HB.out | apply below_alloc | apply pw_below_drewN | apply below_drew1) | exact HB.out)⟩
            · replace c12 := Bool.eq_false_iff.mpr c12
              subst c12
              have H1 : ((spec_Number.f kj9 a3).bind fun t109 => (some t109)) = some r := by rw [if_neg (show ¬ (false = true) by decide)] at H; exact H
              clear H
              have H := H1
              clear H1
              replace H := Option.bind_eq_some_iff.mp H
              obtain ⟨t109, A150, H⟩ := H
              replace H : (some t109) = some r := H
              have A15 := Aside0.mk A150
              clear A150
              obtain rfl := Option.some.inj H
              go_wp2_with (first | ((with_reducible refine gate_callee (f := 16) rfl ?_); refine goesL_ (some 34) rfl rfl Try.func16 (by kernel_rfl) rfl #[.int .i64 a3] rfl (by (try simp only [List.map_toArray, List.map_cons, List.map_nil]); first | done | rfl | (simp only [List.length_drop, List.length_take]; rfl) | (simp only [Int.toNat_natCast, ByteArray.extract_zero_size]; rfl)) ?_; (with_reducible refine (spec_Number.calls kj9 a3 t109 _ A15.out).mono ?_); rintro e w16 ⟨rfl, hb⟩; refine ⟨_, rfl, ?_⟩; have n0_ := Aside0.mk (below_step (by repeat (first | (with_reducible first | exact HB.out | apply below_alloc | apply pw_below_drewN | apply below_drew1) | exact HB.out)) hb); clear HB; have HB := n0_; clear n0_; (try clear hb); (try clear hb2); (try clear hk); (try clear hi)))
              go_ret
              exact ⟨by first | rfl | (simp [errW_none, errW_some] <;> rfl) | (simp [*, errW_none, errW_some] <;> rfl), by repeat (first | (with_reducible first | exact HB.out | apply below_alloc | apply pw_below_drewN | apply below_drew1) | exact HB.out)⟩
/-! ### spec_Colour: function 17 -/
def spec_Colour.f (k : Nat) (a0 : Int) (a1 : Int) : Option (ByteArray) := (spec_shade.f k a0 30 90 39).bind fun t110 => (if t110.size + 1 ≤ 9223372036854775807 then ((spec_shade.f k a1 40 100 49).bind fun t111 => (if (t110 ++ (⟨#[59]⟩ : ByteArray)).size + t111.size ≤ 9223372036854775807 then (if ((t110 ++ (⟨#[59]⟩ : ByteArray)) ++ t111).size + 1 ≤ 9223372036854775807 then (some (((t110 ++ (⟨#[59]⟩ : ByteArray)) ++ t111) ++ (⟨#[109]⟩ : ByteArray))) else (none)) else (none))) else (none))
theorem spec_Colour.mono : ∀ a0 a1 k, LeO (spec_Colour.f k a0 a1) (spec_Colour.f (k + 1) a0 a1) := by
  intro a0 a1 k
  unfold spec_Colour.f
  repeat' first
      | (with_reducible exact spec_shade.mono _ _ _ _ _)
      | (with_reducible exact LeO.refl _)
      | (with_reducible exact LeO.none _)
      | (with_reducible refine LeO.ite ?_ ?_)
      | (with_reducible refine LeO.bind ?_ (fun _ => ?_))
      | exact spec_shade.mono _ _ _ _ _
      | exact LeO.none _
      | refine LeO.ite ?_ ?_
      | refine LeO.bind ?_ (fun _ => ?_)
set_option maxHeartbeats 8000000 in
set_option maxRecDepth 100000 in
theorem spec_Colour.calls (k : Nat) (a0 : Int) (a1 : Int) (r : ByteArray) (w : World) (h : spec_Colour.f k a0 a1 = some r) :
    Calls Try.prog 17 #[.int .i64 a0, .int .i64 a1] w fun e w' => e = .returned (.string r) ∧ Below w.heap.size w w' := by
  have HB := Aside0.mk (Below.refl w.heap.size w)
  have H : ((spec_shade.f k a0 30 90 39).bind fun t110 => (if t110.size + 1 ≤ 9223372036854775807 then ((spec_shade.f k a1 40 100 49).bind fun t111 => (if (t110 ++ (⟨#[59]⟩ : ByteArray)).size + t111.size ≤ 9223372036854775807 then (if ((t110 ++ (⟨#[59]⟩ : ByteArray)) ++ t111).size + 1 ≤ 9223372036854775807 then (some (((t110 ++ (⟨#[59]⟩ : ByteArray)) ++ t111) ++ (⟨#[109]⟩ : ByteArray))) else (none)) else (none))) else (none))) = some r := h
  clear h
  replace H := Option.bind_eq_some_iff.mp H
  obtain ⟨t110, A30, H⟩ := H
  replace H : (if t110.size + 1 ≤ 9223372036854775807 then ((spec_shade.f k a1 40 100 49).bind fun t111 => (if (t110 ++ (⟨#[59]⟩ : ByteArray)).size + t111.size ≤ 9223372036854775807 then (if ((t110 ++ (⟨#[59]⟩ : ByteArray)) ++ t111).size + 1 ≤ 9223372036854775807 then (some (((t110 ++ (⟨#[59]⟩ : ByteArray)) ++ t111) ++ (⟨#[109]⟩ : ByteArray))) else (none)) else (none))) else (none)) = some r := H
  have A3 := Aside0.mk A30
  clear A30
  by_cases c4 : t110.size + 1 ≤ 9223372036854775807
  · rw [if_pos c4] at H
    have c4b0 := eq_true c4
    have c4b1 : decide (t110.size + 1 ≤ 9223372036854775807) = true := decide_eq_true c4
    try have c4b2 : (9223372036854775807 < t110.size + 1) = False := eq_false (Nat.not_lt.2 c4)
    replace H := Option.bind_eq_some_iff.mp H
    obtain ⟨t111, A50, H⟩ := H
    replace H : (if (t110 ++ (⟨#[59]⟩ : ByteArray)).size + t111.size ≤ 9223372036854775807 then (if ((t110 ++ (⟨#[59]⟩ : ByteArray)) ++ t111).size + 1 ≤ 9223372036854775807 then (some (((t110 ++ (⟨#[59]⟩ : ByteArray)) ++ t111) ++ (⟨#[109]⟩ : ByteArray))) else (none)) else (none)) = some r := H
    have A5 := Aside0.mk A50
    clear A50
    by_cases c6 : (t110 ++ (⟨#[59]⟩ : ByteArray)).size + t111.size ≤ 9223372036854775807
    · rw [if_pos c6] at H
      have c6b0 := eq_true c6
      have c6b1 : decide ((t110 ++ (⟨#[59]⟩ : ByteArray)).size + t111.size ≤ 9223372036854775807) = true := decide_eq_true c6
      try have c6b2 : (9223372036854775807 < (t110 ++ (⟨#[59]⟩ : ByteArray)).size + t111.size) = False := eq_false (Nat.not_lt.2 c6)
      try have c6b3 : (9223372036854775807 < t110.size + 1 + t111.size) = False := eq_false (by have h_ := c6; have l0_ : (⟨#[59]⟩ : ByteArray).size = 1 := rfl; simp only [ByteArray.size_append] at h_; omega)
      by_cases c7 : ((t110 ++ (⟨#[59]⟩ : ByteArray)) ++ t111).size + 1 ≤ 9223372036854775807
      · rw [if_pos c7] at H
        have c7b0 := eq_true c7
        have c7b1 : decide (((t110 ++ (⟨#[59]⟩ : ByteArray)) ++ t111).size + 1 ≤ 9223372036854775807) = true := decide_eq_true c7
        try have c7b2 : (9223372036854775807 < ((t110 ++ (⟨#[59]⟩ : ByteArray)) ++ t111).size + 1) = False := eq_false (Nat.not_lt.2 c7)
        try have c7b3 : (9223372036854775807 < t110.size + 1 + t111.size + 1) = False := eq_false (by have h_ := c7; have l0_ : (⟨#[59]⟩ : ByteArray).size = 1 := rfl; simp only [ByteArray.size_append] at h_; omega)
        obtain rfl := Option.some.inj H
        go_enter Try.func17, Try.ntmps17
        go_wp2_with (first | ((with_reducible refine gate_callee (f := 37) rfl ?_); refine goesL_ (some 6) rfl rfl Try.func37 (by kernel_rfl) rfl #[.int .i64 a0, .int .i64 30, .int .i64 90, .int .i64 39] rfl (by (try simp only [List.map_toArray, List.map_cons, List.map_nil]); first | done | rfl | (simp only [List.length_drop, List.length_take]; rfl) | (simp only [Int.toNat_natCast, ByteArray.extract_zero_size]; rfl)) ?_; (with_reducible refine (spec_shade.calls k a0 30 90 39 t110 _ A3.out).mono ?_); rintro e w8 ⟨rfl, hb⟩; refine ⟨_, rfl, ?_⟩; have n0_ := Aside0.mk (below_step (by repeat (first | (with_reducible first | exact HB.out | apply below_alloc | apply pw_below_drewN | apply below_drew1) | exact HB.out)) hb); clear HB; have HB := n0_; clear n0_; (try clear hb); (try clear hb2); (try clear hk); (try clear hi)) | ((with_reducible refine gate_callee (f := 37) rfl ?_); refine goesL_ (some 9) rfl rfl Try.func37 (by kernel_rfl) rfl #[.int .i64 a1, .int .i64 40, .int .i64 100, .int .i64 49] rfl (by (try simp only [List.map_toArray, List.map_cons, List.map_nil]); first | done | rfl | (simp only [List.length_drop, List.length_take]; rfl) | (simp only [Int.toNat_natCast, ByteArray.extract_zero_size]; rfl)) ?_; (with_reducible refine (spec_shade.calls k a1 40 100 49 t111 _ A5.out).mono ?_); rintro e w9 ⟨rfl, hb⟩; refine ⟨_, rfl, ?_⟩; have n0_ := Aside0.mk (below_step (by repeat (first | (with_reducible first | exact HB.out | apply below_alloc | apply pw_below_drewN | apply below_drew1) | exact HB.out)) hb); clear HB; have HB := n0_; clear n0_; (try clear hb); (try clear hb2); (try clear hk); (try clear hi)))
        go_ret
        exact ⟨by first | rfl | (simp [errW_none, errW_some] <;> rfl) | (simp [*, errW_none, errW_some] <;> rfl), by repeat (first | (with_reducible first | exact HB.out | apply below_alloc | apply pw_below_drewN | apply below_drew1) | exact HB.out)⟩
      · rw [if_neg c7] at H
        exact absurd H (by simp)
    · rw [if_neg c6] at H
      exact absurd H (by simp)
  · rw [if_neg c4] at H
    exact absurd H (by simp)
/-! ### laws_FnColoured: function 6 -/
mutual
def laws_FnColoured.j0 : Nat → Int → Int → Bool → List Int → ByteArray → Option (Bool)
  | 0, _, _, _, _, _ => none
  | k + 1, x0, x1, x2, x3, x9 => laws_FnColoured.l0 k x0 x1 x2 x3 x9 (⟨#[]⟩ : ByteArray) ([] : List Int) 0
def laws_FnColoured.l0 : Nat → Int → Int → Bool → List Int → ByteArray → ByteArray → List Int → Int → Option (Bool)
  | 0, _, _, _, _, _, _, _, _ => none
  | k + 1, x0, x1, x2, x3, x9, x10, x11, x12 => if x12 < (x3.length : Int) then (laws_FnColoured.j2 k x0 x1 x2 x3 x9 x10 x11 x12 (decide (x12 < 10))) else (laws_FnColoured.j2 k x0 x1 x2 x3 x9 x10 x11 x12 false)
def laws_FnColoured.j2 : Nat → Int → Int → Bool → List Int → ByteArray → ByteArray → List Int → Int → Bool → Option (Bool)
  | 0, _, _, _, _, _, _, _, _, _ => none
  | k + 1, x0, x1, x2, x3, x9, x10, x11, x12, x25 => if x25 = true then (if 0 ≤ x12 then (if x12 < (x3.length : Int) then (if (rd x3 x12) > 10 then (some true) else (if x11.length < 17592186044416 then ((spec_Number.f k (wrap64 (rd x3 x12))).bind fun t118 => (if t118.size + 1 ≤ 9223372036854775807 then (if x10.size + (t118 ++ (⟨#[59]⟩ : ByteArray)).size ≤ 9223372036854775807 then (laws_FnColoured.l0 k x0 x1 x2 x3 x9 (x10 ++ (t118 ++ (⟨#[59]⟩ : ByteArray))) (x11 ++ [wrap64 (rd x3 x12)]) (wrap64 (x12 + 1))) else (none)) else (none))) else (none))) else (none)) else (none)) else ((spec_Colour.f k (wrap64 (x0)) (wrap64 (x1))).bind fun t119 => ((impl_Coloured.f (wrap64 (x0)) (wrap64 (x1)) x2).bind fun t120 => (if 2 + x9.size ≤ 9223372036854775807 then (if ((⟨#[27, 91]⟩ : ByteArray) ++ x9).size + t119.size ≤ 9223372036854775807 then (if t120.toList = (((⟨#[27, 91]⟩ : ByteArray) ++ x9) ++ t119).toList then ((impl_Attributed.f (wrap64 (x0)) (wrap64 (x1)) x11).bind fun t121 => (if 2 + x10.size ≤ 9223372036854775807 then (if ((⟨#[27, 91]⟩ : ByteArray) ++ x10).size + t119.size ≤ 9223372036854775807 then (some (t121.toList == (((⟨#[27, 91]⟩ : ByteArray) ++ x10) ++ t119).toList)) else (none)) else (none))) else (some false)) else (none)) else (none))))
end
def laws_FnColoured.f (k : Nat) (a0 : Int) (a1 : Int) (a2 : Bool) (l3 : List Int) : Option (Bool) := if (l3.length : Int) > 2147483647 then (some true) else (if a2 = true then (laws_FnColoured.j0 k a0 a1 a2 l3 (⟨#[49, 59]⟩ : ByteArray)) else (laws_FnColoured.j0 k a0 a1 a2 l3 (⟨#[48, 59]⟩ : ByteArray)))
theorem laws_FnColoured.mono_l : ∀ k, (∀ y0 y1 y2 y3 y4, LeO (laws_FnColoured.j0 k y0 y1 y2 y3 y4) (laws_FnColoured.j0 (k + 1) y0 y1 y2 y3 y4)) ∧ (∀ y0 y1 y2 y3 y4 y5 y6 y7, LeO (laws_FnColoured.l0 k y0 y1 y2 y3 y4 y5 y6 y7) (laws_FnColoured.l0 (k + 1) y0 y1 y2 y3 y4 y5 y6 y7)) ∧ (∀ y0 y1 y2 y3 y4 y5 y6 y7 y8, LeO (laws_FnColoured.j2 k y0 y1 y2 y3 y4 y5 y6 y7 y8) (laws_FnColoured.j2 (k + 1) y0 y1 y2 y3 y4 y5 y6 y7 y8))
  | 0 => ⟨fun _ _ _ _ _ r h => by simp [laws_FnColoured.j0] at h, fun _ _ _ _ _ _ _ _ r h => by simp [laws_FnColoured.l0] at h, fun _ _ _ _ _ _ _ _ _ r h => by simp [laws_FnColoured.j2] at h⟩
  | k + 1 => by
    obtain ⟨ih0, ih1, ih2⟩ := laws_FnColoured.mono_l k
    refine ⟨?_, ?_, ?_⟩
    · intro y0 y1 y2 y3 y4
      unfold laws_FnColoured.j0
      repeat' first
      | (with_reducible exact ih0 _ _ _ _ _)
      | (with_reducible exact ih1 _ _ _ _ _ _ _ _)
      | (with_reducible exact ih2 _ _ _ _ _ _ _ _ _)
      | (with_reducible exact spec_Colour.mono _ _ _)
      | (with_reducible exact spec_Number.mono _ _)
      | (with_reducible exact LeO.refl _)
      | (with_reducible exact LeO.none _)
      | (with_reducible refine LeO.ite ?_ ?_)
      | (with_reducible refine LeO.bind ?_ (fun _ => ?_))
      | exact ih0 _ _ _ _ _
      | exact ih1 _ _ _ _ _ _ _ _
      | exact ih2 _ _ _ _ _ _ _ _ _
      | exact spec_Colour.mono _ _ _
      | exact spec_Number.mono _ _
      | exact LeO.none _
      | refine LeO.ite ?_ ?_
      | refine LeO.bind ?_ (fun _ => ?_)
    · intro y0 y1 y2 y3 y4 y5 y6 y7
      unfold laws_FnColoured.l0
      repeat' first
      | (with_reducible exact ih0 _ _ _ _ _)
      | (with_reducible exact ih1 _ _ _ _ _ _ _ _)
      | (with_reducible exact ih2 _ _ _ _ _ _ _ _ _)
      | (with_reducible exact spec_Colour.mono _ _ _)
      | (with_reducible exact spec_Number.mono _ _)
      | (with_reducible exact LeO.refl _)
      | (with_reducible exact LeO.none _)
      | (with_reducible refine LeO.ite ?_ ?_)
      | (with_reducible refine LeO.bind ?_ (fun _ => ?_))
      | exact ih0 _ _ _ _ _
      | exact ih1 _ _ _ _ _ _ _ _
      | exact ih2 _ _ _ _ _ _ _ _ _
      | exact spec_Colour.mono _ _ _
      | exact spec_Number.mono _ _
      | exact LeO.none _
      | refine LeO.ite ?_ ?_
      | refine LeO.bind ?_ (fun _ => ?_)
    · intro y0 y1 y2 y3 y4 y5 y6 y7 y8
      unfold laws_FnColoured.j2
      repeat' first
      | (with_reducible exact ih0 _ _ _ _ _)
      | (with_reducible exact ih1 _ _ _ _ _ _ _ _)
      | (with_reducible exact ih2 _ _ _ _ _ _ _ _ _)
      | (with_reducible exact spec_Colour.mono _ _ _)
      | (with_reducible exact spec_Number.mono _ _)
      | (with_reducible exact LeO.refl _)
      | (with_reducible exact LeO.none _)
      | (with_reducible refine LeO.ite ?_ ?_)
      | (with_reducible refine LeO.bind ?_ (fun _ => ?_))
      | exact ih0 _ _ _ _ _
      | exact ih1 _ _ _ _ _ _ _ _
      | exact ih2 _ _ _ _ _ _ _ _ _
      | exact spec_Colour.mono _ _ _
      | exact spec_Number.mono _ _
      | exact LeO.none _
      | refine LeO.ite ?_ ?_
      | refine LeO.bind ?_ (fun _ => ?_)
theorem laws_FnColoured.mono : ∀ a0 a1 a2 a3 k, LeO (laws_FnColoured.f k a0 a1 a2 a3) (laws_FnColoured.f (k + 1) a0 a1 a2 a3) := by
  intro a0 a1 a2 a3 k
  obtain ⟨ih0, ih1, ih2⟩ := laws_FnColoured.mono_l k
  unfold laws_FnColoured.f
  repeat' first
      | (with_reducible exact ih0 _ _ _ _ _)
      | (with_reducible exact ih1 _ _ _ _ _ _ _ _)
      | (with_reducible exact ih2 _ _ _ _ _ _ _ _ _)
      | (with_reducible exact spec_Colour.mono _ _ _)
      | (with_reducible exact spec_Number.mono _ _)
      | (with_reducible exact LeO.refl _)
      | (with_reducible exact LeO.none _)
      | (with_reducible refine LeO.ite ?_ ?_)
      | (with_reducible refine LeO.bind ?_ (fun _ => ?_))
      | exact ih0 _ _ _ _ _
      | exact ih1 _ _ _ _ _ _ _ _
      | exact ih2 _ _ _ _ _ _ _ _ _
      | exact spec_Colour.mono _ _ _
      | exact spec_Number.mono _ _
      | exact LeO.none _
      | refine LeO.ite ?_ ?_
      | refine LeO.bind ?_ (fun _ => ?_)
set_option maxHeartbeats 8000000 in
set_option maxRecDepth 100000 in
theorem laws_FnColoured.calls (k : Nat) (a0 : Int) (a1 : Int) (a2 : Bool) (A3 : Option Addr) (c3 : Nat) (l3 : List Int) (r : Bool) (w : World) (hr3 : Kd.C (Kd.int .u8) w A3 l3.length l3) (hc3 : l3.length ≤ c3) (h : laws_FnColoured.f k a0 a1 a2 l3 = some r) :
    Calls Try.prog 6 #[.int .i8 a0, .int .i8 a1, .bool a2, .slice A3 l3.length c3] w fun e w' => e = .returned (.bool r) ∧ Below w.heap.size w w' := by
  have HR3 := Aside0.mk hr3
  have HC3 := Aside0.mk hc3
  clear hr3 hc3
  have HB := Aside0.mk (Below.refl w.heap.size w)
  have H : (if (l3.length : Int) > 2147483647 then (some true) else (if a2 = true then (laws_FnColoured.j0 k a0 a1 a2 l3 (⟨#[49, 59]⟩ : ByteArray)) else (laws_FnColoured.j0 k a0 a1 a2 l3 (⟨#[48, 59]⟩ : ByteArray)))) = some r := h
  clear h
  by_cases c5 : (l3.length : Int) > 2147483647
  · rw [if_pos c5] at H
    have c5b0 : decide (2147483647 < (l3.length : Int)) = true := decide_eq_true c5
    have c5b1 : decide (2147483647 < l3.length) = true := decide_eq_true (by omega)
    clear c5
    obtain rfl := Option.some.inj H
    go_enter Try.func6, Try.ntmps6
    go_wp2
    go_ret
    exact ⟨by first | rfl | (simp [errW_none, errW_some] <;> rfl) | (simp [*, errW_none, errW_some] <;> rfl), by repeat (first | (with_reducible first | exact HB.out | apply below_alloc | apply pw_below_drewN | apply below_drew1) | exact HB.out)⟩
  · rw [if_neg c5] at H
    have c5b0 : decide (2147483647 < (l3.length : Int)) = false := decide_eq_false c5
    have c5b1 : decide (2147483647 < l3.length) = false := decide_eq_false (by omega)
    clear c5
    have HC6 := Aside0.mk H
    clear H
    go_enter Try.func6, Try.ntmps6
    go_upto_if 17 with (fail)
    go_cut [9] (fun v9 wc => ∃ (kq : Nat) (x9_5 : ByteArray), v9 = .string x9_5 ∧ Aside0 (laws_FnColoured.j0 kq a0 a1 a2 l3 x9_5 = some r) ∧ Aside0 (kq ≤ k) ∧ Aside0 (Below w.heap.size w wc))
    case first =>
      have H := HC6.out
      clear HC6
      by_cases c7 : a2 = true
      · subst c7
        have H1 : (laws_FnColoured.j0 k a0 a1 true l3 (⟨#[49, 59]⟩ : ByteArray)) = some r := by rw [if_pos rfl] at H; exact H
        clear H
        have H := H1
        clear H1
        have H' := Aside0.mk H
        clear H
        go_wp2
        go_meet
        case rel => exact ⟨_, ((⟨#[49, 59]⟩ : ByteArray)), (by first | rfl | (simp; done) | (simp [*]; done)), H', ⟨by first | omega | exact Nat.le_refl _⟩, ⟨by repeat (first | (with_reducible first | exact HB.out | apply below_alloc | apply pw_below_drewN | apply below_drew1) | exact HB.out)⟩⟩
      · replace c7 := Bool.eq_false_iff.mpr c7
        subst c7
        have H1 : (laws_FnColoured.j0 k a0 a1 false l3 (⟨#[48, 59]⟩ : ByteArray)) = some r := by rw [if_neg (show ¬ (false = true) by decide)] at H; exact H
        clear H
        have H := H1
        clear H1
        have H' := Aside0.mk H
        clear H
        go_wp2
        go_meet
        case rel => exact ⟨_, ((⟨#[48, 59]⟩ : ByteArray)), (by first | rfl | (simp; done) | (simp [*]; done)), H', ⟨by first | omega | exact Nat.le_refl _⟩, ⟨by repeat (first | (with_reducible first | exact HB.out | apply below_alloc | apply pw_below_drewN | apply below_drew1) | exact HB.out)⟩⟩
    case rest =>
      clear HC6
      try clear p2
      try clear c3
      try clear c5
      try clear c5b0
      try clear c5b1
      try clear c6
      try clear c7
      obtain ⟨kq, x9_5, rfl, HA, HJ5, HB⟩ := hcut
      cases kq with
      | zero => exact absurd HA.out (by simp [laws_FnColoured.j0])
      | succ kj5 =>
        have H := HA.out
        clear HA
        simp only [laws_FnColoured.j0] at H
        have H' := Aside0.mk H
        clear H
        go_wp2
        go_loopg [10, 11, 12] kj5 (fun kq v10 v11 v12 w' => ∃ (x10_2 : ByteArray) (x11_2 : List Int) (x12_2 : Int), v10 = .string x10_2 ∧ v12 = .int .i64 x12_2 ∧ Aside0 (laws_FnColoured.l0 kq a0 a1 a2 l3 x9_5 x10_2 x11_2 x12_2 = some r) ∧ Aside0 (kq ≤ kj5) ∧ Aside0 (Kd.R (Kd.int .i64) 3 w' w.heap.size (fun _ => True) v11 x11_2) ∧ Aside0 (Below w.heap.size w w'))
        case atStart => exact ⟨((⟨#[]⟩ : ByteArray)), (([] : List Int)), (0), (by first | rfl | (simp; done) | (simp [*]; done)), (by first | rfl | (simp; done) | (simp [*]; done)), H', ⟨Nat.le_refl _⟩, ⟨by first | exact Kd.R_nil _ _ _ _ _ | exact Kd.N_nil _ _ _ _ _ | exact Kd.V_nil _ _ _ _ _ | exact Kd.Q_nil _ _ _ _ _ | exact Kd.S_nil _ _ _ _ _⟩, ⟨by repeat (first | (with_reducible first | exact HB.out | apply below_alloc | apply pw_below_drewN | apply below_drew1) | exact HB.out)⟩⟩
        case round =>
          clear H'
          try clear p2
          try clear c3
          try clear c5
          try clear c5b0
          try clear c5b1
          try clear c6
          try clear c7
          try clear p2
          obtain ⟨x10_2, x11_2, x12_2, rfl, rfl, HA, HK2, HO_11, HB⟩ := hrel
          cases gk with
          | zero => exact absurd HA.out (by simp [laws_FnColoured.l0])
          | succ k2 =>
            have H := HA.out
            clear HA
            simp only [laws_FnColoured.l0] at H
            have HC8 := Aside0.mk H
            clear H
            go_upto_region 9 with (fail)
            go_cut [25] (fun v25 wc => ∃ (kq : Nat) (x25_7 : Bool), v25 = .bool x25_7 ∧ Aside0 (laws_FnColoured.j2 kq a0 a1 a2 l3 x9_5 x10_2 x11_2 x12_2 x25_7 = some r) ∧ Aside0 (kq ≤ k2) ∧ Aside0 (Kd.R (Kd.int .i64) 3 wc w.heap.size (fun _ => True) u11 x11_2) ∧ Aside0 (Below w.heap.size w wc))
            case first =>
              have H := HC8.out
              clear HC8
              by_cases c9 : x12_2 < (l3.length : Int)
              · rw [if_pos c9] at H
                have c9b0 : decide (x12_2 < (l3.length : Int)) = true := decide_eq_true c9
                clear c9
                (first | rw [c9b0] | (simp only [i64_w, i32_w]; rw [c9b0]) | skip)
                have H' := Aside0.mk H
                clear H
                go_wp2
                go_meet
                case rel => exact ⟨_, (decide (x12_2 < 10)), (by first | rfl | (simp; done) | (simp [*]; done)), H', ⟨by have := HJ5.out; have := HK2.out; first | omega | exact Nat.le_refl _⟩, ⟨by (with_reducible repeat (first | apply Kd.R_alloc | apply Kd.R_drewN | apply Kd.R_drew)); exact HO_11.out⟩, ⟨by repeat (first | (with_reducible first | exact HB.out | apply below_alloc | apply pw_below_drewN | apply below_drew1) | exact HB.out)⟩⟩
              · rw [if_neg c9] at H
                have c9b0 : decide (x12_2 < (l3.length : Int)) = false := decide_eq_false c9
                clear c9
                (first | rw [c9b0] | (simp only [i64_w, i32_w]; rw [c9b0]) | skip)
                have H' := Aside0.mk H
                clear H
                go_wp2
                go_meet
                case rel => exact ⟨_, (false), (by first | rfl | (simp; done) | (simp [*]; done)), H', ⟨by have := HJ5.out; have := HK2.out; first | omega | exact Nat.le_refl _⟩, ⟨by (with_reducible repeat (first | apply Kd.R_alloc | apply Kd.R_drewN | apply Kd.R_drew)); exact HO_11.out⟩, ⟨by repeat (first | (with_reducible first | exact HB.out | apply below_alloc | apply pw_below_drewN | apply below_drew1) | exact HB.out)⟩⟩
            case rest =>
              clear HC8
              try clear p2
              try clear c3
              try clear c5
              try clear c5b0
              try clear c5b1
              try clear c6
              try clear c7
              try clear c9
              try clear c9b0
              try clear p2
              obtain ⟨kq, x25_7, rfl, HA, HJ7, HO_11, HB⟩ := hcut
              cases kq with
              | zero => exact absurd HA.out (by simp [laws_FnColoured.j2])
              | succ kj7 =>
                have H := HA.out
                clear HA
                simp only [laws_FnColoured.j2] at H
                by_cases c10 : x25_7 = true
                · subst c10
                  have H1 : (if 0 ≤ x12_2 then (if x12_2 < (l3.length : Int) then (if (rd l3 x12_2) > 10 then (some true) else (if x11_2.length < 17592186044416 then ((spec_Number.f kj7 (wrap64 (rd l3 x12_2))).bind fun t118 => (if t118.size + 1 ≤ 9223372036854775807 then (if x10_2.size + (t118 ++ (⟨#[59]⟩ : ByteArray)).size ≤ 9223372036854775807 then (laws_FnColoured.l0 kj7 a0 a1 a2 l3 x9_5 (x10_2 ++ (t118 ++ (⟨#[59]⟩ : ByteArray))) (x11_2 ++ [wrap64 (rd l3 x12_2)]) (wrap64 (x12_2 + 1))) else (none)) else (none))) else (none))) else (none)) else (none)) = some r := by rw [if_pos rfl] at H; exact H
                  clear H
                  have H := H1
                  clear H1
                  by_cases c11 : 0 ≤ x12_2
                  · rw [if_pos c11] at H
                    have c11b0 : decide (0 ≤ x12_2) = true := decide_eq_true c11
                    clear c11
                    by_cases c12 : x12_2 < (l3.length : Int)
                    · rw [if_pos c12] at H
                      have c12b0 : decide (x12_2 < (l3.length : Int)) = true := decide_eq_true c12
                      clear c12
                      by_cases c13 : (rd l3 x12_2) > 10
                      · rw [if_pos c13] at H
                        have c13b0 : decide (10 < (rd l3 x12_2)) = true := decide_eq_true c13
                        clear c13
                        obtain rfl := Option.some.inj H
                        have p112 : 0 ≤ (x12_2 : Int) := of_decide_eq_true (by first | (with_reducible assumption) | assumption)
                        have q112 : x12_2 < (l3.length : Int) := of_decide_eq_true (by first | (with_reducible assumption) | assumption)
                        obtain ⟨ad112, e112, hx112_0⟩ := Kd.at_int HR3.out x12_2 p112 q112
                        cases e112
                        replace hx112_0 := (HB.out.cell (World.block_lt_of_cell? w _ hx112_0)).trans hx112_0
                        replace p112 := eq_true p112
                        replace q112 := eq_true q112
                        go_wp2
                        go_ret
                        exact ⟨by first | rfl | (simp [errW_none, errW_some] <;> rfl) | (simp [*, errW_none, errW_some] <;> rfl), by repeat (first | (with_reducible first | exact HB.out | apply below_alloc | apply pw_below_drewN | apply below_drew1) | exact HB.out)⟩
                      · rw [if_neg c13] at H
                        have c13b0 : decide (10 < (rd l3 x12_2)) = false := decide_eq_false c13
                        clear c13
                        by_cases c14 : x11_2.length < 17592186044416
                        · rw [if_pos c14] at H
                          have LMc14 := Aside0.mk c14
                          clear c14
                          obtain ⟨y114, hy114⟩ : ∃ y_ : List Int, y_ = (x11_2 ++ [wrap64 (rd l3 x12_2)]) := ⟨_, rfl⟩
                          replace H : ((spec_Number.f kj7 (wrap64 (rd l3 x12_2))).bind fun t118 => (if t118.size + 1 ≤ 9223372036854775807 then (if x10_2.size + (t118 ++ (⟨#[59]⟩ : ByteArray)).size ≤ 9223372036854775807 then (laws_FnColoured.l0 kj7 a0 a1 a2 l3 x9_5 (x10_2 ++ (t118 ++ (⟨#[59]⟩ : ByteArray))) y114 (wrap64 (x12_2 + 1))) else (none)) else (none))) = some r := by first | (rw [hy114]; with_reducible exact H) | (have H2_ := (Option.bind_some _ _).symm.trans H; rw [hy114]; with_reducible exact H2_) | (have H2_ := (Option.bind_some _ _).symm.trans H; with_reducible exact H2_) | with_reducible exact H | (rw [hy114]; exact H) | exact H
                          have Ny114 := Aside0.mk hy114
                          clear hy114
                          replace H := Option.bind_eq_some_iff.mp H
                          obtain ⟨t118, A150, H⟩ := H
                          replace H : (if t118.size + 1 ≤ 9223372036854775807 then (if x10_2.size + (t118 ++ (⟨#[59]⟩ : ByteArray)).size ≤ 9223372036854775807 then (laws_FnColoured.l0 kj7 a0 a1 a2 l3 x9_5 (x10_2 ++ (t118 ++ (⟨#[59]⟩ : ByteArray))) y114 (wrap64 (x12_2 + 1))) else (none)) else (none)) = some r := H
                          have A15 := Aside0.mk A150
                          clear A150
                          by_cases c16 : t118.size + 1 ≤ 9223372036854775807
                          · rw [if_pos c16] at H
                            have c16b0 := eq_true c16
                            have c16b1 : decide (t118.size + 1 ≤ 9223372036854775807) = true := decide_eq_true c16
                            try have c16b2 : (9223372036854775807 < t118.size + 1) = False := eq_false (Nat.not_lt.2 c16)
                            by_cases c17 : x10_2.size + (t118 ++ (⟨#[59]⟩ : ByteArray)).size ≤ 9223372036854775807
                            · rw [if_pos c17] at H
                              have c17b0 := eq_true c17
                              have c17b1 : decide (x10_2.size + (t118 ++ (⟨#[59]⟩ : ByteArray)).size ≤ 9223372036854775807) = true := decide_eq_true c17
                              try have c17b2 : (9223372036854775807 < x10_2.size + (t118 ++ (⟨#[59]⟩ : ByteArray)).size) = False := eq_false (Nat.not_lt.2 c17)
                              try have c17b3 : (9223372036854775807 < x10_2.size + (t118.size + 1)) = False := eq_false (by have h_ := c17; have l0_ : (⟨#[59]⟩ : ByteArray).size = 1 := rfl; simp only [ByteArray.size_append] at h_; omega)
                              have H' := Aside0.mk H
                              clear H
                              have p112 : 0 ≤ (x12_2 : Int) := of_decide_eq_true (by first | (with_reducible assumption) | assumption)
                              have q112 : x12_2 < (l3.length : Int) := of_decide_eq_true (by first | (with_reducible assumption) | assumption)
                              obtain ⟨ad112, e112, hx112_0⟩ := Kd.at_int HR3.out x12_2 p112 q112
                              cases e112
                              replace hx112_0 := (HB.out.cell (World.block_lt_of_cell? w _ hx112_0)).trans hx112_0
                              replace p112 := eq_true p112
                              replace q112 := eq_true q112
                              have p113 : 0 ≤ (x12_2 : Int) := of_decide_eq_true (by first | (with_reducible assumption) | assumption)
                              have q113 : x12_2 < (l3.length : Int) := of_decide_eq_true (by first | (with_reducible assumption) | assumption)
                              obtain ⟨ad113, e113, hx113_0⟩ := Kd.at_int HR3.out x12_2 p113 q113
                              obtain rfl : ad112 = ad113 := (by injection e113)
                              replace hx113_0 := (HB.out.cell (World.block_lt_of_cell? w _ hx113_0)).trans hx113_0
                              replace p113 := eq_true p113
                              replace q113 := eq_true q113
                              go_wp2_with (first | ((with_reducible refine gate_builtin (b := .append) (xs := #[.tmp 33, .tmp 39]) rfl ?_); at_builtin; refine Kd.R_append (Kd.int .i64) (w0 := w) w.heap.size rfl (.tmp 33) (.tmp 39) 42 3 (.int .i64 0) 8 rfl Try.underlying42 info3 rfl (by decide) (by omega) u11 x11_2 (wrap64 (rd l3 x12_2)) [.int .i64 (wrap64 (rd l3 x12_2))] (fun _ => True) (fun _ => False) rfl rfl ?aP (fun _ hk => hk.elim) ?aF ?aO ?aB ?aS ?aL ?_; (case aP => exact rfl); (case aB => exact (by repeat (first | (with_reducible first | exact HB.out | apply below_alloc | apply pw_below_drewN | apply below_drew1) | exact HB.out))); (case aF => exact (fun _ _ => trivial)); (case aO => exact (by (with_reducible repeat (first | apply Kd.R_alloc | apply Kd.R_drewN | apply Kd.R_drew)); exact HO_11.out)); (case aS => exact (below_size (by repeat (first | (with_reducible first | exact HB.out | apply below_alloc | apply pw_below_drewN | apply below_drew1) | exact HB.out)))); (case aL => have := LMc14.out; omega); intro v115 w18 ho hb hg hat; rw [← Ny114.out] at ho; have n0_ := Aside0.mk (hb); have n1_ := Aside0.mk (ho); clear HB; clear HO_11; have HB := n0_; have HO116 := n1_; clear n0_ n1_; clear ho hb hg hat; have p117 : 0 ≤ (x12_2 : Int) := of_decide_eq_true (by first | (with_reducible assumption) | assumption); have q117 : x12_2 < (l3.length : Int) := of_decide_eq_true (by first | (with_reducible assumption) | assumption); obtain ⟨ad117, e117, hx117_0⟩ := Kd.at_int HR3.out x12_2 p117 q117; obtain rfl : ad112 = ad117 := (by injection e117); replace hx117_0 := (HB.out.cell (World.block_lt_of_cell? w _ hx117_0)).trans hx117_0; replace p117 := eq_true p117; replace q117 := eq_true q117) | ((with_reducible refine gate_callee (f := 16) rfl ?_); refine goesL_ (some 47) rfl rfl Try.func16 (by kernel_rfl) rfl #[.int .i64 (wrap64 (rd l3 x12_2))] rfl (by (try simp only [List.map_toArray, List.map_cons, List.map_nil]); first | done | rfl | (simp only [List.length_drop, List.length_take]; rfl) | (simp only [Int.toNat_natCast, ByteArray.extract_zero_size]; rfl)) ?_; (with_reducible refine (spec_Number.calls kj7 (wrap64 (rd l3 x12_2)) t118 _ A15.out).mono ?_); rintro e w19 ⟨rfl, hb⟩; refine ⟨_, rfl, ?_⟩; have n0_ := Aside0.mk (Kd.R_below (by (with_reducible repeat (first | apply Kd.R_alloc | apply Kd.R_drewN | apply Kd.R_drew)); exact HO116.out) hb); have n1_ := Aside0.mk (below_step (by repeat (first | (with_reducible first | exact HB.out | apply below_alloc | apply pw_below_drewN | apply below_drew1) | exact HB.out)) hb); clear HO116; clear HB; have HO116 := n0_; have HB := n1_; clear n0_ n1_; (try clear hb); (try clear hb2); (try clear hk); (try clear hi)))
                              go_roundg kj7
                              case measure => have := HJ5.out; have := HK2.out; have := HJ7.out; omega
                              case rel => exact ⟨(x10_2 ++ (t118 ++ (⟨#[59]⟩ : ByteArray))), (y114), (wrap64 (x12_2 + 1)), (by first | rfl | (simp; done) | (simp [*]; done)), (by first | rfl | (simp; done) | (simp [*]; done)), H', ⟨by have := HJ5.out; have := HK2.out; have := HJ7.out; omega⟩, ⟨by (with_reducible repeat (first | apply Kd.R_alloc | apply Kd.R_drewN | apply Kd.R_drew)); exact HO116.out⟩, ⟨by repeat (first | (with_reducible first | exact HB.out | apply below_alloc | apply pw_below_drewN | apply below_drew1) | exact HB.out)⟩⟩
                            · rw [if_neg c17] at H
                              exact absurd H (by simp)
                          · rw [if_neg c16] at H
                            exact absurd H (by simp)
                        · rw [if_neg c14] at H
                          exact absurd H (by simp)
                    · rw [if_neg c12] at H
                      exact absurd H (by simp)
                  · rw [if_neg c11] at H
                    exact absurd H (by simp)
                · replace c10 := Bool.eq_false_iff.mpr c10
                  subst c10
                  have H1 : ((spec_Colour.f kj7 (wrap64 (a0)) (wrap64 (a1))).bind fun t119 => ((impl_Coloured.f (wrap64 (a0)) (wrap64 (a1)) a2).bind fun t120 => (if 2 + x9_5.size ≤ 9223372036854775807 then (if ((⟨#[27, 91]⟩ : ByteArray) ++ x9_5).size + t119.size ≤ 9223372036854775807 then (if t120.toList = (((⟨#[27, 91]⟩ : ByteArray) ++ x9_5) ++ t119).toList then ((impl_Attributed.f (wrap64 (a0)) (wrap64 (a1)) x11_2).bind fun t121 => (if 2 + x10_2.size ≤ 9223372036854775807 then (if ((⟨#[27, 91]⟩ : ByteArray) ++ x10_2).size + t119.size ≤ 9223372036854775807 then (some (t121.toList == (((⟨#[27, 91]⟩ : ByteArray) ++ x10_2) ++ t119).toList)) else (none)) else (none))) else (some false)) else (none)) else (none)))) = some r := by rw [if_neg (show ¬ (false = true) by decide)] at H; exact H
                  clear H
                  have H := H1
                  clear H1
                  replace H := Option.bind_eq_some_iff.mp H
                  obtain ⟨t119, A200, H⟩ := H
                  replace H : ((impl_Coloured.f (wrap64 (a0)) (wrap64 (a1)) a2).bind fun t120 => (if 2 + x9_5.size ≤ 9223372036854775807 then (if ((⟨#[27, 91]⟩ : ByteArray) ++ x9_5).size + t119.size ≤ 9223372036854775807 then (if t120.toList = (((⟨#[27, 91]⟩ : ByteArray) ++ x9_5) ++ t119).toList then ((impl_Attributed.f (wrap64 (a0)) (wrap64 (a1)) x11_2).bind fun t121 => (if 2 + x10_2.size ≤ 9223372036854775807 then (if ((⟨#[27, 91]⟩ : ByteArray) ++ x10_2).size + t119.size ≤ 9223372036854775807 then (some (t121.toList == (((⟨#[27, 91]⟩ : ByteArray) ++ x10_2) ++ t119).toList)) else (none)) else (none))) else (some false)) else (none)) else (none))) = some r := H
                  have A20 := Aside0.mk A200
                  clear A200
                  replace H := Option.bind_eq_some_iff.mp H
                  obtain ⟨t120, A210, H⟩ := H
                  replace H : (if 2 + x9_5.size ≤ 9223372036854775807 then (if ((⟨#[27, 91]⟩ : ByteArray) ++ x9_5).size + t119.size ≤ 9223372036854775807 then (if t120.toList = (((⟨#[27, 91]⟩ : ByteArray) ++ x9_5) ++ t119).toList then ((impl_Attributed.f (wrap64 (a0)) (wrap64 (a1)) x11_2).bind fun t121 => (if 2 + x10_2.size ≤ 9223372036854775807 then (if ((⟨#[27, 91]⟩ : ByteArray) ++ x10_2).size + t119.size ≤ 9223372036854775807 then (some (t121.toList == (((⟨#[27, 91]⟩ : ByteArray) ++ x10_2) ++ t119).toList)) else (none)) else (none))) else (some false)) else (none)) else (none)) = some r := H
                  have A21 := Aside0.mk A210
                  clear A210
                  by_cases c22 : 2 + x9_5.size ≤ 9223372036854775807
                  · rw [if_pos c22] at H
                    have c22b0 := eq_true c22
                    have c22b1 : decide (2 + x9_5.size ≤ 9223372036854775807) = true := decide_eq_true c22
                    try have c22b2 : (9223372036854775807 < 2 + x9_5.size) = False := eq_false (Nat.not_lt.2 c22)
                    by_cases c23 : ((⟨#[27, 91]⟩ : ByteArray) ++ x9_5).size + t119.size ≤ 9223372036854775807
                    · rw [if_pos c23] at H
                      have c23b0 := eq_true c23
                      have c23b1 : decide (((⟨#[27, 91]⟩ : ByteArray) ++ x9_5).size + t119.size ≤ 9223372036854775807) = true := decide_eq_true c23
                      try have c23b2 : (9223372036854775807 < ((⟨#[27, 91]⟩ : ByteArray) ++ x9_5).size + t119.size) = False := eq_false (Nat.not_lt.2 c23)
                      try have c23b3 : (9223372036854775807 < 2 + x9_5.size + t119.size) = False := eq_false (by have h_ := c23; have l0_ : (⟨#[27, 91]⟩ : ByteArray).size = 2 := rfl; simp only [ByteArray.size_append] at h_; omega)
                      by_cases c24 : t120.toList = (((⟨#[27, 91]⟩ : ByteArray) ++ x9_5) ++ t119).toList
                      · rw [if_pos c24] at H
                        have c24b0 : (t120.toList == (((⟨#[27, 91]⟩ : ByteArray) ++ x9_5) ++ t119).toList) = true := beq_iff_eq.mpr c24
                        have c24b1 : (t120.toList != (((⟨#[27, 91]⟩ : ByteArray) ++ x9_5) ++ t119).toList) = false := bne_eq_false_iff_eq.mpr c24
                        clear c24
                        replace H := Option.bind_eq_some_iff.mp H
                        obtain ⟨t121, A250, H⟩ := H
                        replace H : (if 2 + x10_2.size ≤ 9223372036854775807 then (if ((⟨#[27, 91]⟩ : ByteArray) ++ x10_2).size + t119.size ≤ 9223372036854775807 then (some (t121.toList == (((⟨#[27, 91]⟩ : ByteArray) ++ x10_2) ++ t119).toList)) else (none)) else (none)) = some r := H
                        have A25 := Aside0.mk A250
                        clear A250
                        by_cases c26 : 2 + x10_2.size ≤ 9223372036854775807
                        · rw [if_pos c26] at H
                          have c26b0 := eq_true c26
                          have c26b1 : decide (2 + x10_2.size ≤ 9223372036854775807) = true := decide_eq_true c26
                          try have c26b2 : (9223372036854775807 < 2 + x10_2.size) = False := eq_false (Nat.not_lt.2 c26)
                          by_cases c27 : ((⟨#[27, 91]⟩ : ByteArray) ++ x10_2).size + t119.size ≤ 9223372036854775807
                          · rw [if_pos c27] at H
                            have c27b0 := eq_true c27
                            have c27b1 : decide (((⟨#[27, 91]⟩ : ByteArray) ++ x10_2).size + t119.size ≤ 9223372036854775807) = true := decide_eq_true c27
                            try have c27b2 : (9223372036854775807 < ((⟨#[27, 91]⟩ : ByteArray) ++ x10_2).size + t119.size) = False := eq_false (Nat.not_lt.2 c27)
                            try have c27b3 : (9223372036854775807 < 2 + x10_2.size + t119.size) = False := eq_false (by have h_ := c27; have l0_ : (⟨#[27, 91]⟩ : ByteArray).size = 2 := rfl; simp only [ByteArray.size_append] at h_; omega)
                            obtain rfl := Option.some.inj H
                            go_wp2_with (first | ((with_reducible refine gate_callee (f := 17) rfl ?_); refine goesL_ (some 54) rfl rfl Try.func17 (by kernel_rfl) rfl #[.int .i64 (wrap64 (a0)), .int .i64 (wrap64 (a1))] rfl (by (try simp only [List.map_toArray, List.map_cons, List.map_nil]); first | done | rfl | (simp only [List.length_drop, List.length_take]; rfl) | (simp only [Int.toNat_natCast, ByteArray.extract_zero_size]; rfl)) ?_; (with_reducible refine (spec_Colour.calls kj7 (wrap64 (a0)) (wrap64 (a1)) t119 _ A20.out).mono ?_); rintro e w28 ⟨rfl, hb⟩; refine ⟨_, rfl, ?_⟩; have n0_ := Aside0.mk (Kd.R_below (by (with_reducible repeat (first | apply Kd.R_alloc | apply Kd.R_drewN | apply Kd.R_drew)); exact HO_11.out) hb); have n1_ := Aside0.mk (below_step (by repeat (first | (with_reducible first | exact HB.out | apply below_alloc | apply pw_below_drewN | apply below_drew1) | exact HB.out)) hb); clear HO_11; clear HB; have HO_11 := n0_; have HB := n1_; clear n0_ n1_; (try clear hb); (try clear hb2); (try clear hk); (try clear hi)) | ((with_reducible refine gate_callee (f := 18) rfl ?_); refine goesL_ (some 60) rfl rfl Try.func18 (by kernel_rfl) rfl #[.int .i64 (wrap64 (a0)), .int .i64 (wrap64 (a1)), .bool a2] rfl (by (try simp only [List.map_toArray, List.map_cons, List.map_nil]); first | done | rfl | (simp only [List.length_drop, List.length_take]; rfl) | (simp only [Int.toNat_natCast, ByteArray.extract_zero_size]; rfl)) ?_; (with_reducible refine (impl_Coloured.calls (wrap64 (a0)) (wrap64 (a1)) a2 t120 _ A21.out).mono ?_); rintro e w29 ⟨rfl, hb⟩; refine ⟨_, rfl, ?_⟩; have n0_ := Aside0.mk (Kd.R_below (by (with_reducible repeat (first | apply Kd.R_alloc | apply Kd.R_drewN | apply Kd.R_drew)); exact HO_11.out) hb); have n1_ := Aside0.mk (below_step (by repeat (first | (with_reducible first | exact HB.out | apply below_alloc | apply pw_below_drewN | apply below_drew1) | exact HB.out)) hb); clear HO_11; clear HB; have HO_11 := n0_; have HB := n1_; clear n0_ n1_; (try clear hb); (try clear hb2); (try clear hk); (try clear hi); obtain ⟨Ao30, co30, eo30⟩ := Kd.R_slice HO_11.out; subst eo30) | (go_at_call 19; (with_reducible refine (impl_Attributed.calls (wrap64 (a0)) (wrap64 (a1)) _ _ x11_2 t121 _ ?side1 ?side2 A25.out).mono ?_); (case side1 => repeat (first | exact (Kd.R_reads' HO_11.out).2.2 | (with_reducible refine Kd.C_alloc ?_ _) | (with_reducible refine Kd.C_drewN ?_ _) | (with_reducible refine Kd.C_drew ?_))); (case side2 => exact (Kd.R_reads' HO_11.out).2.1); rintro e w31 ⟨rfl, hb⟩; have n0_ := Aside0.mk (Kd.R_below (by (with_reducible repeat (first | apply Kd.R_alloc | apply Kd.R_drewN | apply Kd.R_drew)); exact HO_11.out) hb); have n1_ := Aside0.mk (below_step (by repeat (first | (with_reducible first | exact HB.out | apply below_alloc | apply pw_below_drewN | apply below_drew1) | exact HB.out)) hb); clear HO_11; clear HB; have HO_11 := n0_; have HB := n1_; clear n0_ n1_; (try clear hb); (try clear hb2); (try clear hk); (try clear hi)))
                            go_ret
                            exact ⟨by first | rfl | (simp [errW_none, errW_some] <;> rfl) | (simp [*, errW_none, errW_some] <;> rfl), by repeat (first | (with_reducible first | exact HB.out | apply below_alloc | apply pw_below_drewN | apply below_drew1) | exact HB.out)⟩
                          · rw [if_neg c27] at H
                            exact absurd H (by simp)
                        · rw [if_neg c26] at H
                          exact absurd H (by simp)
                      · rw [if_neg c24] at H
                        have c24b0 : (t120.toList == (((⟨#[27, 91]⟩ : ByteArray) ++ x9_5) ++ t119).toList) = false := beq_eq_false_iff_ne.mpr c24
                        have c24b1 : (t120.toList != (((⟨#[27, 91]⟩ : ByteArray) ++ x9_5) ++ t119).toList) = true := bne_iff_ne.mpr c24
                        obtain rfl := Option.some.inj H
                        go_wp2_with (first | ((with_reducible refine gate_callee (f := 17) rfl ?_); refine goesL_ (some 54) rfl rfl Try.func17 (by kernel_rfl) rfl #[.int .i64 (wrap64 (a0)), .int .i64 (wrap64 (a1))] rfl (by (try simp only [List.map_toArray, List.map_cons, List.map_nil]); first | done | rfl | (simp only [List.length_drop, List.length_take]; rfl) | (simp only [Int.toNat_natCast, ByteArray.extract_zero_size]; rfl)) ?_; (with_reducible refine (spec_Colour.calls kj7 (wrap64 (a0)) (wrap64 (a1)) t119 _ A20.out).mono ?_); rintro e w32 ⟨rfl, hb⟩; refine ⟨_, rfl, ?_⟩; have n0_ := Aside0.mk (Kd.R_below (by (with_reducible repeat (first | apply Kd.R_alloc | apply Kd.R_drewN | apply Kd.R_drew)); exact HO_11.out) hb); have n1_ := Aside0.mk (below_step (by repeat (first | (with_reducible first | exact HB.out | apply below_alloc | apply pw_below_drewN | apply below_drew1) | exact HB.out)) hb); clear HO_11; clear HB; have HO_11 := n0_; have HB := n1_; clear n0_ n1_; (try clear hb); (try clear hb2); (try clear hk); (try clear hi)) | ((with_reducible refine gate_callee (f := 18) rfl ?_); refine goesL_ (some 60) rfl rfl Try.func18 (by kernel_rfl) rfl #[.int .i64 (wrap64 (a0)), .int .i64 (wrap64 (a1)), .bool a2] rfl (by (try simp only [List.map_toArray, List.map_cons, List.map_nil]); first | done | rfl | (simp only [List.length_drop, List.length_take]; rfl) | (simp only [Int.toNat_natCast, ByteArray.extract_zero_size]; rfl)) ?_; (with_reducible refine (impl_Coloured.calls (wrap64 (a0)) (wrap64 (a1)) a2 t120 _ A21.out).mono ?_); rintro e w33 ⟨rfl, hb⟩; refine ⟨_, rfl, ?_⟩; have n0_ := Aside0.mk (Kd.R_below (by (with_reducible repeat (first | apply Kd.R_alloc | apply Kd.R_drewN | apply Kd.R_drew)); exact HO_11.out) hb); have n1_ := Aside0.mk (below_step (by repeat (first | (with_reducible first | exact HB.out | apply below_alloc | apply pw_below_drewN | apply below_drew1) | exact HB.out)) hb); clear HO_11; clear HB; have HO_11 := n0_; have HB := n1_; clear n0_ n1_; (try clear hb); (try clear hb2); (try clear hk); (try clear hi)))
                        go_ret
                        exact ⟨by first | rfl | (simp [errW_none, errW_some] <;> rfl) | (simp [*, errW_none, errW_some] <;> rfl), by repeat (first | (with_reducible first | exact HB.out | apply below_alloc | apply pw_below_drewN | apply below_drew1) | exact HB.out)⟩
                    · rw [if_neg c23] at H
                      exact absurd H (by simp)
                  · rw [if_neg c22] at H
                    exact absurd H (by simp)
/-- THE ONE PURE STATEMENT of laws_FnColoured: yours. -/
def laws_FnColoured.Pure : Prop := ∀ (a0 : Int) (a1 : Int) (a2 : Bool) (l3 : List Int), (Lit.int .i8 a0).wf = true → (Lit.int .i8 a1).wf = true → l3.length ≤ maxLen → l3.length * 1 ≤ 140737488351232 → (∀ x ∈ l3, (Lit.int .u8 x).wf = true) → ∃ k, laws_FnColoured.f k a0 a1 a2 l3 = some true
theorem laws_FnColoured.walk (P : laws_FnColoured.Pure) (a0 : Int) (a1 : Int) (a2 : Bool) (a3 : Option Addr) (len3 cap3 : Nat) (z3 : List Int) (w : World) (w0 : (Lit.int .i8 a0).wf = true) (w1 : (Lit.int .i8 a1).wf = true) (w3 : (a3 = none ∧ len3 = 0 ∧ cap3 = 0 ∧ z3 = []) ∨ ∃ x, a3 = some x ∧ len3 ≤ cap3 ∧ cap3 ≤ maxLen ∧ z3.length = cap3 ∧ (∀ i, i < z3.length → w.cell? (x.add i) = some (.int .u8 (z3.getD i 0))) ∧ ∀ n ∈ z3, (Lit.int .u8 n).wf = true) (y3 : len3 * 1 ≤ 140737488351232) :
    Calls Try.prog 6 #[.int .i8 a0, .int .i8 a1, .bool a2, .slice a3 len3 cap3] w fun e w' => e = .returned (.bool true) ∧ Below w.heap.size w w' := by
  obtain ⟨l3, rfl, hr3, hm3, hw3, hc3⟩ := ReadsInt.ofRowC w3
  obtain ⟨k, h⟩ := P a0 a1 a2 l3 w0 w1 hm3 y3 hw3
  refine (laws_FnColoured.calls k a0 a1 a2 _ _ l3 true w (Kd.C_of_reads (d := (0 : Int)) (h1 := fun _ => rfl) hr3) hc3 h).mono ?_
  rintro e w' ⟨rfl, hd⟩
  exact ⟨rfl, hd⟩
end Go.Proofs.Ythbdaoapjnofkaa.PFnColoured
