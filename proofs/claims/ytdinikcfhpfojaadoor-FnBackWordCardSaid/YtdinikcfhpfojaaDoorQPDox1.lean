/- Printed by a program of this seat (xprint) out of the translation: Go functions as plain functions, and the walks that show them; no condition. -/
import Derived.Test.YtdinikcfhpfojaaDoorQPDox0
import Derived.Test.YtdinikcfhpfojaaDoorQHWhole
namespace Go.Proofs.YtdinikcfhpfojaaDoor.PDo
open Go.RowKit Go.Proofs.YtdinikcfhpfojaaDoor.H Go.Proofs.YtdinikcfhpfojaaDoor.R Go.Proofs.YtdinikcfhpfojaaDoorW.PrintWords Go.Proofs.YtdinikcfhpfojaaDoorW.PrintLast Go.Proofs.YtdinikcfhpfojaaDoorW.PrintMore
attribute [local go_sem] max2_int min2_int max_two min_two max_three min_three max_four min_four   -- for this text's walks alone
set_option linter.unusedVariables false
set_option linter.unusedSimpArgs false
/-! ### spec_IsWordSign: function 17 -/
def spec_IsWordSign.f (a0 : Int) : Option (Bool) := if a0 ≥ 97 then (if a0 ≤ 122 then (some true) else (if a0 ≥ 65 then (if a0 ≤ 90 then (some true) else (if a0 ≥ 48 then (some (decide (a0 ≤ 57))) else (some false))) else (if a0 ≥ 48 then (some (decide (a0 ≤ 57))) else (some false)))) else (if a0 ≥ 65 then (if a0 ≤ 90 then (some true) else (if a0 ≥ 48 then (some (decide (a0 ≤ 57))) else (some false))) else (if a0 ≥ 48 then (some (decide (a0 ≤ 57))) else (some false)))
set_option maxHeartbeats 8000000 in
set_option maxRecDepth 100000 in
theorem spec_IsWordSign.calls (a0 : Int) (r : Bool) (w : World) (h : spec_IsWordSign.f a0 = some r) :
    Calls Tryd.prog 17 #[.int .i32 a0] w fun e w' => e = .returned (.bool r) ∧ Drawn0 w w' := by
  have H : (if a0 ≥ 97 then (if a0 ≤ 122 then (some true) else (if a0 ≥ 65 then (if a0 ≤ 90 then (some true) else (if a0 ≥ 48 then (some (decide (a0 ≤ 57))) else (some false))) else (if a0 ≥ 48 then (some (decide (a0 ≤ 57))) else (some false)))) else (if a0 ≥ 65 then (if a0 ≤ 90 then (some true) else (if a0 ≥ 48 then (some (decide (a0 ≤ 57))) else (some false))) else (if a0 ≥ 48 then (some (decide (a0 ≤ 57))) else (some false)))) = some r := h
  clear h
  by_cases c2 : a0 ≥ 97
  · rw [if_pos c2] at H
    have c2b0 : decide (97 ≤ a0) = true := decide_eq_true c2
    clear c2
    by_cases c3 : a0 ≤ 122
    · rw [if_pos c3] at H
      have c3b0 : decide (a0 ≤ 122) = true := decide_eq_true c3
      clear c3
      obtain rfl := Option.some.inj H
      go_enter Tryd.func17, Tryd.ntmps17
      go_wp2
      go_ret
      exact ⟨by first | rfl | (simp; done) | (simp [*]; done), by repeat (first | exact Drawn0.refl _ | apply Drawn0.step)⟩
    · rw [if_neg c3] at H
      have c3b0 : decide (a0 ≤ 122) = false := decide_eq_false c3
      clear c3
      by_cases c4 : a0 ≥ 65
      · rw [if_pos c4] at H
        have c4b0 : decide (65 ≤ a0) = true := decide_eq_true c4
        clear c4
        by_cases c5 : a0 ≤ 90
        · rw [if_pos c5] at H
          have c5b0 : decide (a0 ≤ 90) = true := decide_eq_true c5
          clear c5
          obtain rfl := Option.some.inj H
          go_enter Tryd.func17, Tryd.ntmps17
          go_wp2
          go_ret
          exact ⟨by first | rfl | (simp; done) | (simp [*]; done), by repeat (first | exact Drawn0.refl _ | apply Drawn0.step)⟩
        · rw [if_neg c5] at H
          have c5b0 : decide (a0 ≤ 90) = false := decide_eq_false c5
          clear c5
          by_cases c6 : a0 ≥ 48
          · rw [if_pos c6] at H
            have c6b0 : decide (48 ≤ a0) = true := decide_eq_true c6
            clear c6
            obtain rfl := Option.some.inj H
            go_enter Tryd.func17, Tryd.ntmps17
            go_wp2
            go_ret
            exact ⟨by first | rfl | (simp; done) | (simp [*]; done), by repeat (first | exact Drawn0.refl _ | apply Drawn0.step)⟩
          · rw [if_neg c6] at H
            have c6b0 : decide (48 ≤ a0) = false := decide_eq_false c6
            clear c6
            obtain rfl := Option.some.inj H
            go_enter Tryd.func17, Tryd.ntmps17
            go_wp2
            go_ret
            exact ⟨by first | rfl | (simp; done) | (simp [*]; done), by repeat (first | exact Drawn0.refl _ | apply Drawn0.step)⟩
      · rw [if_neg c4] at H
        have c4b0 : decide (65 ≤ a0) = false := decide_eq_false c4
        clear c4
        by_cases c7 : a0 ≥ 48
        · rw [if_pos c7] at H
          have c7b0 : decide (48 ≤ a0) = true := decide_eq_true c7
          clear c7
          obtain rfl := Option.some.inj H
          go_enter Tryd.func17, Tryd.ntmps17
          go_wp2
          go_ret
          exact ⟨by first | rfl | (simp; done) | (simp [*]; done), by repeat (first | exact Drawn0.refl _ | apply Drawn0.step)⟩
        · rw [if_neg c7] at H
          have c7b0 : decide (48 ≤ a0) = false := decide_eq_false c7
          clear c7
          obtain rfl := Option.some.inj H
          go_enter Tryd.func17, Tryd.ntmps17
          go_wp2
          go_ret
          exact ⟨by first | rfl | (simp; done) | (simp [*]; done), by repeat (first | exact Drawn0.refl _ | apply Drawn0.step)⟩
  · rw [if_neg c2] at H
    have c2b0 : decide (97 ≤ a0) = false := decide_eq_false c2
    clear c2
    by_cases c8 : a0 ≥ 65
    · rw [if_pos c8] at H
      have c8b0 : decide (65 ≤ a0) = true := decide_eq_true c8
      clear c8
      by_cases c9 : a0 ≤ 90
      · rw [if_pos c9] at H
        have c9b0 : decide (a0 ≤ 90) = true := decide_eq_true c9
        clear c9
        obtain rfl := Option.some.inj H
        go_enter Tryd.func17, Tryd.ntmps17
        go_wp2
        go_ret
        exact ⟨by first | rfl | (simp; done) | (simp [*]; done), by repeat (first | exact Drawn0.refl _ | apply Drawn0.step)⟩
      · rw [if_neg c9] at H
        have c9b0 : decide (a0 ≤ 90) = false := decide_eq_false c9
        clear c9
        by_cases c10 : a0 ≥ 48
        · rw [if_pos c10] at H
          have c10b0 : decide (48 ≤ a0) = true := decide_eq_true c10
          clear c10
          obtain rfl := Option.some.inj H
          go_enter Tryd.func17, Tryd.ntmps17
          go_wp2
          go_ret
          exact ⟨by first | rfl | (simp; done) | (simp [*]; done), by repeat (first | exact Drawn0.refl _ | apply Drawn0.step)⟩
        · rw [if_neg c10] at H
          have c10b0 : decide (48 ≤ a0) = false := decide_eq_false c10
          clear c10
          obtain rfl := Option.some.inj H
          go_enter Tryd.func17, Tryd.ntmps17
          go_wp2
          go_ret
          exact ⟨by first | rfl | (simp; done) | (simp [*]; done), by repeat (first | exact Drawn0.refl _ | apply Drawn0.step)⟩
    · rw [if_neg c8] at H
      have c8b0 : decide (65 ≤ a0) = false := decide_eq_false c8
      clear c8
      by_cases c11 : a0 ≥ 48
      · rw [if_pos c11] at H
        have c11b0 : decide (48 ≤ a0) = true := decide_eq_true c11
        clear c11
        obtain rfl := Option.some.inj H
        go_enter Tryd.func17, Tryd.ntmps17
        go_wp2
        go_ret
        exact ⟨by first | rfl | (simp; done) | (simp [*]; done), by repeat (first | exact Drawn0.refl _ | apply Drawn0.step)⟩
      · rw [if_neg c11] at H
        have c11b0 : decide (48 ≤ a0) = false := decide_eq_false c11
        clear c11
        obtain rfl := Option.some.inj H
        go_enter Tryd.func17, Tryd.ntmps17
        go_wp2
        go_ret
        exact ⟨by first | rfl | (simp; done) | (simp [*]; done), by repeat (first | exact Drawn0.refl _ | apply Drawn0.step)⟩
/-- A state of type 91 at block g of W; what its slices lead to came in by w0. -/
def IsS91 (w0 W : World) (g : Nat) (f0 : List Int) (f1 : Int) (f2 : List Int) (f3 : Bool) (f4 : Bool) : Prop := ∃ A0 c0, ∃ A2 c2, W.heap[g]? = some (.cells #[.slice A0 f0.length c0, .int .i64 f1, .slice A2 f2.length c2, .bool f3, .bool f4] 91 (0, 0)) ∧ w0.heap.size ≤ g ∧ Kd.C (Kd.int .i32) w0 A0 f0.length f0 ∧ Kd.C (Kd.int .i32) w0 A2 f2.length f2
theorem IsS91.grown {w0 W : World} {g : Nat} {f0 : List Int} {f1 : Int} {f2 : List Int} {f3 : Bool} {f4 : Bool} {W1 : World} {row : Option Nat} (h : IsS91 w0 W g f0 f1 f2 f3 f4) (hw : W.grownBy W1 row) (hne : some g ≠ row) : IsS91 w0 W1 g f0 f1 f2 f3 f4 := by
  obtain ⟨A0, c0, A2, c2, hb, hg, hr0, hr2⟩ := h
  exact ⟨A0, c0, A2, c2, blk_grown hb hw hne, hg, hr0, hr2⟩
theorem IsS91.kept {w0 W : World} {g : Nat} {f0 : List Int} {f1 : Int} {f2 : List Int} {f3 : Bool} {f4 : Bool} {W1 : World} {S : Nat → Prop} (h : IsS91 w0 W g f0 f1 f2 f3 f4) (hk : Kept W W1 S) (hne : ¬ S g) : IsS91 w0 W1 g f0 f1 f2 f3 f4 := by
  obtain ⟨A0, c0, A2, c2, hb, hg, hr0, hr2⟩ := h
  exact ⟨A0, c0, A2, c2, blk_kept hb hk hne, hg, hr0, hr2⟩
theorem IsS91.below {w0 W : World} {g : Nat} {f0 : List Int} {f1 : Int} {f2 : List Int} {f3 : Bool} {f4 : Bool} {W1 : World} (h : IsS91 w0 W g f0 f1 f2 f3 f4) (hw : Below W.heap.size W W1) : IsS91 w0 W1 g f0 f1 f2 f3 f4 := h.grown (grown_of_below hw none) (by simp)
theorem IsS91.alloc {w0 W : World} {g : Nat} {f0 : List Int} {f1 : Int} {f2 : List Int} {f3 : Bool} {f4 : Bool} (h : IsS91 w0 W g f0 f1 f2 f3 f4) (o : Obj) : IsS91 w0 (W.alloc o) g f0 f1 f2 f3 f4 := h.below (below_alloc (Below.refl _ _) o)
theorem IsS91.drewN {w0 W : World} {g : Nat} {f0 : List Int} {f1 : Int} {f2 : List Int} {f3 : Bool} {f4 : Bool} (h : IsS91 w0 W g f0 f1 f2 f3 f4) (m : Nat) : IsS91 w0 (W.drewN m) g f0 f1 f2 f3 f4 := h
theorem IsS91.drew {w0 W : World} {g : Nat} {f0 : List Int} {f1 : Int} {f2 : List Int} {f3 : Bool} {f4 : Bool} (h : IsS91 w0 W g f0 f1 f2 f3 f4) : IsS91 w0 W.drew g f0 f1 f2 f3 f4 := h
theorem IsS91.at_ {w0 W : World} {g : Nat} {f0 : List Int} {f1 : Int} {f2 : List Int} {f3 : Bool} {f4 : Bool} {w' : World} {m : Nat} (hq : W.drewN m = w') (h : IsS91 w0 W g f0 f1 f2 f3 f4) : IsS91 w0 w' g f0 f1 f2 f3 f4 := by subst hq; exact IsS91.drewN h m
theorem IsS91.apart {w0 W : World} {g : Nat} {f0 : List Int} {f1 : Int} {f2 : List Int} {f3 : Bool} {f4 : Bool} {α : Type} {d : Kd α} {e : Nat} {base : Nat} {ok : Nat → Prop} {v : Value} {xs : List α} (h : IsS91 w0 W g f0 f1 f2 f3 f4) (ho : d.R e W base ok v xs) (ht : ∀ q, q ∈ e :: d.E → q ≠ 91) : d.R e W base (fun k => ok k ∧ k ≠ g) v xs := by
  obtain ⟨A0, c0, A2, c2, hb, hg, hr0, hr2⟩ := h
  exact Kd.R_types ho hb ht
theorem IsS91.own_ne {w0 W : World} {g : Nat} {f0 : List Int} {f1 : Int} {f2 : List Int} {f3 : Bool} {f4 : Bool} {α : Type} {d : Kd α} {e : Nat} {base : Nat} {ok : Nat → Prop} {v : Value} {xs : List α} (h : IsS91 w0 W g f0 f1 f2 f3 f4) (ho : d.R e W base ok v xs) (ht : e ≠ 91) : some g ≠ v.ownBlock := by
  obtain ⟨A0, c0, A2, c2, hb, hg, hr0, hr2⟩ := h
  exact Kd.R_ne ho hb ht
theorem IsS91.lt {w0 W : World} {g : Nat} {f0 : List Int} {f1 : Int} {f2 : List Int} {f3 : Bool} {f4 : Bool} (h : IsS91 w0 W g f0 f1 f2 f3 f4) : g < W.heap.size := by
  obtain ⟨A0, c0, A2, c2, hb, hg, hr0, hr2⟩ := h
  exact blk_lt hb
theorem IsS91.ge {w0 W : World} {g : Nat} {f0 : List Int} {f1 : Int} {f2 : List Int} {f3 : Bool} {f4 : Bool} (h : IsS91 w0 W g f0 f1 f2 f3 f4) : w0.heap.size ≤ g := by
  obtain ⟨A0, c0, A2, c2, hb, hg, hr0, hr2⟩ := h
  exact hg
theorem IsS91.far {w0 W : World} {g : Nat} {f0 : List Int} {f1 : Int} {f2 : List Int} {f3 : Bool} {f4 : Bool} {p : Addr} (h : IsS91 w0 W g f0 f1 f2 f3 f4) (hne : g ≠ p.block) (u : Value) : IsS91 w0 (W.setCell p u) g f0 f1 f2 f3 f4 := by
  obtain ⟨A0, c0, A2, c2, hb, hg, hr0, hr2⟩ := h
  exact ⟨A0, c0, A2, c2, blk_far hb hne u, hg, hr0, hr2⟩
theorem cellS91_0 {W : World} {g : Nat} {A0 : Option Addr} {c0 : Nat} {A2 : Option Addr} {c2 : Nat} {f0 : List Int} {f1 : Int} {f2 : List Int} {f3 : Bool} {f4 : Bool} (h : W.heap[g]? = some (.cells #[.slice A0 f0.length c0, .int .i64 f1, .slice A2 f2.length c2, .bool f3, .bool f4] 91 (0, 0))) : W.cell? ⟨g, 0, none⟩ = some (.slice A0 f0.length c0) := (blk_cell h 0).trans rfl
theorem cellS91_1 {W : World} {g : Nat} {A0 : Option Addr} {c0 : Nat} {A2 : Option Addr} {c2 : Nat} {f0 : List Int} {f1 : Int} {f2 : List Int} {f3 : Bool} {f4 : Bool} (h : W.heap[g]? = some (.cells #[.slice A0 f0.length c0, .int .i64 f1, .slice A2 f2.length c2, .bool f3, .bool f4] 91 (0, 0))) : W.cell? ⟨g, 1, none⟩ = some (.int .i64 f1) := (blk_cell h 1).trans rfl
theorem IsS91.set_1 {w0 W : World} {g : Nat} {f0 : List Int} {f1 : Int} {f2 : List Int} {f3 : Bool} {f4 : Bool} (h : IsS91 w0 W g f0 f1 f2 f3 f4) (x : Int) : IsS91 w0 (W.setCell ⟨g, 1, none⟩ (.int .i64 x)) g f0 x f2 f3 f4 := by
  obtain ⟨A0, c0, A2, c2, hb, hg, hr0, hr2⟩ := h
  exact ⟨A0, c0, A2, c2, by simpa using blk_set hb 1 (.int .i64 x), hg, hr0, hr2⟩
theorem cellS91_2 {W : World} {g : Nat} {A0 : Option Addr} {c0 : Nat} {A2 : Option Addr} {c2 : Nat} {f0 : List Int} {f1 : Int} {f2 : List Int} {f3 : Bool} {f4 : Bool} (h : W.heap[g]? = some (.cells #[.slice A0 f0.length c0, .int .i64 f1, .slice A2 f2.length c2, .bool f3, .bool f4] 91 (0, 0))) : W.cell? ⟨g, 2, none⟩ = some (.slice A2 f2.length c2) := (blk_cell h 2).trans rfl
theorem cellS91_3 {W : World} {g : Nat} {A0 : Option Addr} {c0 : Nat} {A2 : Option Addr} {c2 : Nat} {f0 : List Int} {f1 : Int} {f2 : List Int} {f3 : Bool} {f4 : Bool} (h : W.heap[g]? = some (.cells #[.slice A0 f0.length c0, .int .i64 f1, .slice A2 f2.length c2, .bool f3, .bool f4] 91 (0, 0))) : W.cell? ⟨g, 3, none⟩ = some (.bool f3) := (blk_cell h 3).trans rfl
theorem IsS91.set_3 {w0 W : World} {g : Nat} {f0 : List Int} {f1 : Int} {f2 : List Int} {f3 : Bool} {f4 : Bool} (h : IsS91 w0 W g f0 f1 f2 f3 f4) (x : Bool) : IsS91 w0 (W.setCell ⟨g, 3, none⟩ (.bool x)) g f0 f1 f2 x f4 := by
  obtain ⟨A0, c0, A2, c2, hb, hg, hr0, hr2⟩ := h
  exact ⟨A0, c0, A2, c2, by simpa using blk_set hb 3 (.bool x), hg, hr0, hr2⟩
theorem cellS91_4 {W : World} {g : Nat} {A0 : Option Addr} {c0 : Nat} {A2 : Option Addr} {c2 : Nat} {f0 : List Int} {f1 : Int} {f2 : List Int} {f3 : Bool} {f4 : Bool} (h : W.heap[g]? = some (.cells #[.slice A0 f0.length c0, .int .i64 f1, .slice A2 f2.length c2, .bool f3, .bool f4] 91 (0, 0))) : W.cell? ⟨g, 4, none⟩ = some (.bool f4) := (blk_cell h 4).trans rfl
theorem IsS91.set_4 {w0 W : World} {g : Nat} {f0 : List Int} {f1 : Int} {f2 : List Int} {f3 : Bool} {f4 : Bool} (h : IsS91 w0 W g f0 f1 f2 f3 f4) (x : Bool) : IsS91 w0 (W.setCell ⟨g, 4, none⟩ (.bool x)) g f0 f1 f2 f3 x := by
  obtain ⟨A0, c0, A2, c2, hb, hg, hr0, hr2⟩ := h
  exact ⟨A0, c0, A2, c2, by simpa using blk_set hb 4 (.bool x), hg, hr0, hr2⟩
theorem IsS91.new (w0 W : World) (A0 : Option Addr) (c0 : Nat) (A2 : Option Addr) (c2 : Nat) (f0 : List Int) (f1 : Int) (f2 : List Int) (f3 : Bool) (f4 : Bool) (hB : Below w0.heap.size w0 W) (hr0 : Kd.C (Kd.int .i32) w0 A0 f0.length f0) (hr2 : Kd.C (Kd.int .i32) w0 A2 f2.length f2) : IsS91 w0 (W.alloc (.cells #[.slice A0 f0.length c0, .int .i64 f1, .slice A2 f2.length c2, .bool f3, .bool f4] 91)) W.heap.size f0 f1 f2 f3 f4 := ⟨A0, c0, A2, c2, by simpa using heap_alloc_new W _, hB.size, hr0, hr2⟩
/-! ### spec_Editor_begins: function 92 -/
def spec_Editor_begins.f (s0_0 : List Int) (s0_1 : Int) (s0_2 : List Int) (s0_3 : Bool) (s0_4 : Bool) (a1 : Int) : Option (Bool × Int × Bool × Bool) := if a1 > 0 then (if a1 < (s0_0.length : Int) then (if 0 ≤ a1 then ((spec_IsWordSign.f (rd s0_0 a1)).bind fun t111 => (if t111 = true then (if 0 ≤ (wrap64 (a1 - 1)) then (if (wrap64 (a1 - 1)) < (s0_0.length : Int) then ((spec_IsWordSign.f (rd s0_0 (wrap64 (a1 - 1)))).bind fun t113 => (some (!t113, s0_1, s0_3, s0_4))) else (none)) else (none)) else (some (false, s0_1, s0_3, s0_4)))) else (none)) else (some (false, s0_1, s0_3, s0_4))) else (some (false, s0_1, s0_3, s0_4))
set_option maxHeartbeats 8000000 in
set_option maxRecDepth 100000 in
theorem spec_Editor_begins.calls (g : Nat) (s0_0 : List Int) (s0_1 : Int) (s0_2 : List Int) (s0_3 : Bool) (s0_4 : Bool) (a1 : Int) (r1 : Bool) (r2 : Int) (r3 : Bool) (r4 : Bool) (w0 w : World) (hI : IsS91 w0 w g s0_0 s0_1 s0_2 s0_3 s0_4) (hB : Below w0.heap.size w0 w) (h : spec_Editor_begins.f s0_0 s0_1 s0_2 s0_3 s0_4 a1 = some (r1, r2, r3, r4)) :
    Calls Tryd.prog 92 #[.pointer (some ⟨g, 0, none⟩), .int .i64 a1] w fun e w' => e = .returned (.bool r1) ∧ IsS91 w0 w' g s0_0 r2 s0_2 r3 r4 ∧ Below w0.heap.size w0 w' ∧ KeepBut w w' g none := by
  have HI0 := Aside0.mk hI
  have HK := Aside0.mk (KeepBut.refl w g none)
  have HL := Aside0.mk hB.size
  clear hI
  have HW0 := Aside0.mk hB.size
  have HB := Aside0.mk hB
  clear hB
  have H : (if a1 > 0 then (if a1 < (s0_0.length : Int) then (if 0 ≤ a1 then ((spec_IsWordSign.f (rd s0_0 a1)).bind fun t111 => (if t111 = true then (if 0 ≤ (wrap64 (a1 - 1)) then (if (wrap64 (a1 - 1)) < (s0_0.length : Int) then ((spec_IsWordSign.f (rd s0_0 (wrap64 (a1 - 1)))).bind fun t113 => (some (!t113, s0_1, s0_3, s0_4))) else (none)) else (none)) else (some (false, s0_1, s0_3, s0_4)))) else (none)) else (some (false, s0_1, s0_3, s0_4))) else (some (false, s0_1, s0_3, s0_4))) = some (r1, r2, r3, r4) := h
  clear h
  by_cases c3 : a1 > 0
  · rw [if_pos c3] at H
    have c3b0 : decide (0 < a1) = true := decide_eq_true c3
    clear c3
    by_cases c4 : a1 < (s0_0.length : Int)
    · rw [if_pos c4] at H
      have c4b0 : decide (a1 < (s0_0.length : Int)) = true := decide_eq_true c4
      clear c4
      by_cases c5 : 0 ≤ a1
      · rw [if_pos c5] at H
        have c5b0 : decide (0 ≤ a1) = true := decide_eq_true c5
        clear c5
        replace H := Option.bind_eq_some_iff.mp H
        obtain ⟨t111, A60, H⟩ := H
        replace H : (if t111 = true then (if 0 ≤ (wrap64 (a1 - 1)) then (if (wrap64 (a1 - 1)) < (s0_0.length : Int) then ((spec_IsWordSign.f (rd s0_0 (wrap64 (a1 - 1)))).bind fun t113 => (some (!t113, s0_1, s0_3, s0_4))) else (none)) else (none)) else (some (false, s0_1, s0_3, s0_4))) = some (r1, r2, r3, r4) := H
        have A6 := Aside0.mk A60
        clear A60
        by_cases c7 : t111 = true
        · subst c7
          have H1 : (if 0 ≤ (wrap64 (a1 - 1)) then (if (wrap64 (a1 - 1)) < (s0_0.length : Int) then ((spec_IsWordSign.f (rd s0_0 (wrap64 (a1 - 1)))).bind fun t113 => (some (!t113, s0_1, s0_3, s0_4))) else (none)) else (none)) = some (r1, r2, r3, r4) := by rw [if_pos rfl] at H; exact H
          clear H
          have H := H1
          clear H1
          obtain ⟨ji8, hji8⟩ : ∃ j_ : Int, (wrap64 (a1 - 1)) = j_ := ⟨_, rfl⟩
          replace H : (if 0 ≤ (ji8) then (if (ji8) < (s0_0.length : Int) then ((spec_IsWordSign.f (rd s0_0 (ji8))).bind fun t113 => (some (!t113, s0_1, s0_3, s0_4))) else (none)) else (none)) = some (r1, r2, r3, r4) := by first | (rw [hji8] at H; exact H) | (simp only [hji8] at H ⊢; exact H)
          (try rw [hji8] at A6)
          have hji8w : (IntKind.i64.wrap (a1 - 1)) = ji8 := (i64_w _).trans hji8
          by_cases c9 : 0 ≤ (ji8)
          · rw [if_pos c9] at H
            have c9b0 : decide (0 ≤ (ji8)) = true := decide_eq_true c9
            clear c9
            by_cases c10 : (ji8) < (s0_0.length : Int)
            · rw [if_pos c10] at H
              have c10b0 : decide ((ji8) < (s0_0.length : Int)) = true := decide_eq_true c10
              clear c10
              replace H := Option.bind_eq_some_iff.mp H
              obtain ⟨t113, A110, H⟩ := H
              replace H : (some (!t113, s0_1, s0_3, s0_4)) = some (r1, r2, r3, r4) := H
              have A11 := Aside0.mk A110
              clear A110
              simp only [Option.some.injEq, Prod.mk.injEq] at H
              obtain ⟨rfl, rfl, rfl, rfl⟩ := H
              obtain ⟨ASz12_0, cSz12_0, ASz12_2, cSz12_2, HGz12, hgz12, HSz12_0, HSz12_2⟩ := HI0.out
              have hcz12_0 := cellS91_0 HGz12
              have hcz12_1 := cellS91_1 HGz12
              have hcz12_2 := cellS91_2 HGz12
              have hcz12_3 := cellS91_3 HGz12
              have hcz12_4 := cellS91_4 HGz12
              have hfz12_1 := blk_frozen HGz12 1
              have hfz12_3 := blk_frozen HGz12 3
              have hfz12_4 := blk_frozen HGz12 4
              clear HGz12 hgz12
              have p110 : 0 ≤ (a1 : Int) := of_decide_eq_true (by first | (with_reducible assumption) | assumption)
              have q110 : a1 < (s0_0.length : Int) := of_decide_eq_true (by first | (with_reducible assumption) | assumption)
              obtain ⟨ad110, e110, hx110_0⟩ := Kd.at_int HSz12_0 a1 p110 q110
              cases e110
              replace hx110_0 := pw_cell_below HB.out hx110_0
              replace p110 := eq_true p110
              replace q110 := eq_true q110
              go_enter Tryd.func92, Tryd.ntmps92
              go_wp2_with (first | (go_at_call 17; (with_reducible refine (spec_IsWordSign.calls (rd s0_0 a1) true _ A6.out).mono ?_); rintro e w' ⟨rfl, ⟨nd, rfl⟩⟩; have p112 : 0 ≤ ((ji8) : Int) := of_decide_eq_true (by first | (with_reducible assumption) | assumption); have q112 : (ji8) < (s0_0.length : Int) := of_decide_eq_true (by first | (with_reducible assumption) | assumption); obtain ⟨ad112, e112, hx112_0⟩ := Kd.at_int HSz12_0 (ji8) p112 q112; obtain rfl : ad110 = ad112 := (by injection e112); replace hx112_0 := pw_cell_below HB.out hx112_0; replace p112 := eq_true p112; replace q112 := eq_true q112) | (go_at_call 17; (with_reducible refine (spec_IsWordSign.calls (rd s0_0 (ji8)) t113 _ A11.out).mono ?_); rintro e w' ⟨rfl, ⟨nd, rfl⟩⟩))
              go_ret
              exact ⟨by first | rfl | (simp [errW_none, errW_some] <;> rfl) | (simp only [← hji8]; first | rfl | (simp [errW_none, errW_some] <;> rfl)) | (simp [*, errW_none, errW_some] <;> rfl), by repeat (first | (with_reducible first | exact HI0.out | apply IsS91.alloc | apply IsS91.drewN | apply IsS91.drew | apply IsS91.set_1 | apply IsS91.set_3 | apply IsS91.set_4) | exact HI0.out), by repeat (first | (with_reducible first | exact HB.out | apply below_alloc | apply pw_below_drewN | apply below_drew1 | refine below_set ?_ (IsS91.ge HI0.out)) | exact HB.out), by repeat (first | (with_reducible first | exact HK.out | apply KeepBut.set_ | apply keep_drewN | apply keep_drew | apply keep_alloc) | exact HK.out)⟩
            · rw [if_neg c10] at H
              exact absurd H (by simp)
          · rw [if_neg c9] at H
            exact absurd H (by simp)
        · replace c7 := Bool.eq_false_iff.mpr c7
          subst c7
          have H1 : (some (false, s0_1, s0_3, s0_4)) = some (r1, r2, r3, r4) := by rw [if_neg (show ¬ (false = true) by decide)] at H; exact H
          clear H
          have H := H1
          clear H1
          simp only [Option.some.injEq, Prod.mk.injEq] at H
          obtain ⟨rfl, rfl, rfl, rfl⟩ := H
          obtain ⟨ASz13_0, cSz13_0, ASz13_2, cSz13_2, HGz13, hgz13, HSz13_0, HSz13_2⟩ := HI0.out
          have hcz13_0 := cellS91_0 HGz13
          have hcz13_1 := cellS91_1 HGz13
          have hcz13_2 := cellS91_2 HGz13
          have hcz13_3 := cellS91_3 HGz13
          have hcz13_4 := cellS91_4 HGz13
          have hfz13_1 := blk_frozen HGz13 1
          have hfz13_3 := blk_frozen HGz13 3
          have hfz13_4 := blk_frozen HGz13 4
          clear HGz13 hgz13
          have p110 : 0 ≤ (a1 : Int) := of_decide_eq_true (by first | (with_reducible assumption) | assumption)
          have q110 : a1 < (s0_0.length : Int) := of_decide_eq_true (by first | (with_reducible assumption) | assumption)
          obtain ⟨ad110, e110, hx110_0⟩ := Kd.at_int HSz13_0 a1 p110 q110
          cases e110
          replace hx110_0 := pw_cell_below HB.out hx110_0
          replace p110 := eq_true p110
          replace q110 := eq_true q110
          go_enter Tryd.func92, Tryd.ntmps92
          go_wp2_with (first | (go_at_call 17; (with_reducible refine (spec_IsWordSign.calls (rd s0_0 a1) false _ A6.out).mono ?_); rintro e w' ⟨rfl, ⟨nd, rfl⟩⟩))
          go_ret
          exact ⟨by first | rfl | (simp [errW_none, errW_some] <;> rfl) | (simp [*, errW_none, errW_some] <;> rfl), by repeat (first | (with_reducible first | exact HI0.out | apply IsS91.alloc | apply IsS91.drewN | apply IsS91.drew | apply IsS91.set_1 | apply IsS91.set_3 | apply IsS91.set_4) | exact HI0.out), by repeat (first | (with_reducible first | exact HB.out | apply below_alloc | apply pw_below_drewN | apply below_drew1 | refine below_set ?_ (IsS91.ge HI0.out)) | exact HB.out), by repeat (first | (with_reducible first | exact HK.out | apply KeepBut.set_ | apply keep_drewN | apply keep_drew | apply keep_alloc) | exact HK.out)⟩
      · rw [if_neg c5] at H
        exact absurd H (by simp)
    · rw [if_neg c4] at H
      have c4b0 : decide (a1 < (s0_0.length : Int)) = false := decide_eq_false c4
      clear c4
      simp only [Option.some.injEq, Prod.mk.injEq] at H
      obtain ⟨rfl, rfl, rfl, rfl⟩ := H
      obtain ⟨ASz14_0, cSz14_0, ASz14_2, cSz14_2, HGz14, hgz14, HSz14_0, HSz14_2⟩ := HI0.out
      have hcz14_0 := cellS91_0 HGz14
      have hcz14_1 := cellS91_1 HGz14
      have hcz14_2 := cellS91_2 HGz14
      have hcz14_3 := cellS91_3 HGz14
      have hcz14_4 := cellS91_4 HGz14
      have hfz14_1 := blk_frozen HGz14 1
      have hfz14_3 := blk_frozen HGz14 3
      have hfz14_4 := blk_frozen HGz14 4
      clear HGz14 hgz14
      go_enter Tryd.func92, Tryd.ntmps92
      go_wp2
      go_ret
      exact ⟨by first | rfl | (simp [errW_none, errW_some] <;> rfl) | (simp [*, errW_none, errW_some] <;> rfl), by repeat (first | (with_reducible first | exact HI0.out | apply IsS91.alloc | apply IsS91.drewN | apply IsS91.drew | apply IsS91.set_1 | apply IsS91.set_3 | apply IsS91.set_4) | exact HI0.out), by repeat (first | (with_reducible first | exact HB.out | apply below_alloc | apply pw_below_drewN | apply below_drew1 | refine below_set ?_ (IsS91.ge HI0.out)) | exact HB.out), by repeat (first | (with_reducible first | exact HK.out | apply KeepBut.set_ | apply keep_drewN | apply keep_drew | apply keep_alloc) | exact HK.out)⟩
  · rw [if_neg c3] at H
    have c3b0 : decide (0 < a1) = false := decide_eq_false c3
    clear c3
    simp only [Option.some.injEq, Prod.mk.injEq] at H
    obtain ⟨rfl, rfl, rfl, rfl⟩ := H
    go_enter Tryd.func92, Tryd.ntmps92
    go_wp2
    go_ret
    exact ⟨by first | rfl | (simp [errW_none, errW_some] <;> rfl) | (simp [*, errW_none, errW_some] <;> rfl), by repeat (first | (with_reducible first | exact HI0.out | apply IsS91.alloc | apply IsS91.drewN | apply IsS91.drew | apply IsS91.set_1 | apply IsS91.set_3 | apply IsS91.set_4) | exact HI0.out), by repeat (first | (with_reducible first | exact HB.out | apply below_alloc | apply pw_below_drewN | apply below_drew1 | refine below_set ?_ (IsS91.ge HI0.out)) | exact HB.out), by repeat (first | (with_reducible first | exact HK.out | apply KeepBut.set_ | apply keep_drewN | apply keep_drew | apply keep_alloc) | exact HK.out)⟩
/-! ### spec_Editor_before: function 55 -/
def spec_Editor_before.l0 : Nat → Int → List Int → Int → List Int → Bool → Bool → Option (Int × Int × Bool × Bool)
  | 0, _, _, _, _, _, _ => none
  | k + 1, x5, x1000, x1001, x1002, x1003, x1004 => if x5 ≥ 0 then ((spec_Editor_begins.f x1000 x1001 x1002 x1003 x1004 x5).bind fun bt114 => (if bt114.1 = true then (some (x5, bt114.2.1, bt114.2.2.1, bt114.2.2.2)) else (spec_Editor_before.l0 k (wrap64 (x5 - 1)) x1000 bt114.2.1 x1002 bt114.2.2.1 bt114.2.2.2))) else (some ((-1), x1001, x1003, x1004))
def spec_Editor_before.f (k : Nat) (s0_0 : List Int) (s0_1 : Int) (s0_2 : List Int) (s0_3 : Bool) (s0_4 : Bool) (a1 : Int) : Option (Int × Int × Bool × Bool) := spec_Editor_before.l0 k (wrap64 (a1 - 1)) s0_0 s0_1 s0_2 s0_3 s0_4
theorem spec_Editor_before.mono_l : ∀ k, (∀ y0 y1 y2 y3 y4 y5, LeO (spec_Editor_before.l0 k y0 y1 y2 y3 y4 y5) (spec_Editor_before.l0 (k + 1) y0 y1 y2 y3 y4 y5))
  | 0 => fun _ _ _ _ _ _ r h => by simp [spec_Editor_before.l0] at h
  | k + 1 => by
    have ih0 := spec_Editor_before.mono_l k
    · intro y0 y1 y2 y3 y4 y5
      unfold spec_Editor_before.l0
      repeat' first
      | (with_reducible exact ih0 _ _ _ _ _ _)
      | (with_reducible exact LeO.refl _)
      | (with_reducible exact LeO.none _)
      | (with_reducible refine LeO.ite ?_ ?_)
      | (with_reducible refine LeO.bind ?_ (fun _ => ?_))
      | exact ih0 _ _ _ _ _ _
      | exact LeO.none _
      | refine LeO.ite ?_ ?_
      | refine LeO.bind ?_ (fun _ => ?_)
theorem spec_Editor_before.mono : ∀ a0 a1 a2 a3 a4 a5 k, LeO (spec_Editor_before.f k a0 a1 a2 a3 a4 a5) (spec_Editor_before.f (k + 1) a0 a1 a2 a3 a4 a5) := by
  intro a0 a1 a2 a3 a4 a5 k
  have ih0 := spec_Editor_before.mono_l k
  unfold spec_Editor_before.f
  repeat' first
      | (with_reducible exact ih0 _ _ _ _ _ _)
      | (with_reducible exact LeO.refl _)
      | (with_reducible exact LeO.none _)
      | (with_reducible refine LeO.ite ?_ ?_)
      | (with_reducible refine LeO.bind ?_ (fun _ => ?_))
      | exact ih0 _ _ _ _ _ _
      | exact LeO.none _
      | refine LeO.ite ?_ ?_
      | refine LeO.bind ?_ (fun _ => ?_)
set_option maxHeartbeats 8000000 in
set_option maxRecDepth 100000 in
theorem spec_Editor_before.calls (k : Nat) (g : Nat) (s0_0 : List Int) (s0_1 : Int) (s0_2 : List Int) (s0_3 : Bool) (s0_4 : Bool) (a1 : Int) (r1 : Int) (r2 : Int) (r3 : Bool) (r4 : Bool) (w0 w : World) (hI : IsS91 w0 w g s0_0 s0_1 s0_2 s0_3 s0_4) (hB : Below w0.heap.size w0 w) (h : spec_Editor_before.f k s0_0 s0_1 s0_2 s0_3 s0_4 a1 = some (r1, r2, r3, r4)) :
    Calls Tryd.prog 55 #[.pointer (some ⟨g, 0, none⟩), .int .i64 a1] w fun e w' => e = .returned (.int .i64 r1) ∧ IsS91 w0 w' g s0_0 r2 s0_2 r3 r4 ∧ Below w0.heap.size w0 w' ∧ KeepBut w w' g none := by
  have HI0 := Aside0.mk hI
  have HK := Aside0.mk (KeepBut.refl w g none)
  have HL := Aside0.mk hB.size
  clear hI
  have HW0 := Aside0.mk hB.size
  have HB := Aside0.mk hB
  clear hB
  have H : (spec_Editor_before.l0 k (wrap64 (a1 - 1)) s0_0 s0_1 s0_2 s0_3 s0_4) = some (r1, r2, r3, r4) := h
  clear h
  have H' := Aside0.mk H
  clear H
  go_enter Tryd.func55, Tryd.ntmps55
  go_wp2
  go_loopg [5] k (fun kq v5 w' => ∃ (x5_1 : Int) (x1001_1 : Int) (x1003_1 : Bool) (x1004_1 : Bool), v5 = .int .i64 x5_1 ∧ Aside0 (spec_Editor_before.l0 kq x5_1 s0_0 x1001_1 s0_2 x1003_1 x1004_1 = some (r1, r2, r3, r4)) ∧ Aside0 (kq ≤ k) ∧ Aside0 (IsS91 w0 w' g s0_0 x1001_1 s0_2 x1003_1 x1004_1) ∧ Aside0 (KeepBut w w' g none) ∧ Aside0 (Below w0.heap.size w0 w'))
  case atStart => exact ⟨(wrap64 (a1 - 1)), (s0_1), (s0_3), (s0_4), (by first | rfl | (simp; done) | (simp [*]; done)), H', ⟨Nat.le_refl _⟩, ⟨by repeat (first | (with_reducible first | exact HI0.out | apply IsS91.alloc | apply IsS91.drewN | apply IsS91.drew | apply IsS91.set_1 | apply IsS91.set_3 | apply IsS91.set_4) | exact HI0.out)⟩, ⟨by repeat (first | (with_reducible first | exact HK.out | apply KeepBut.set_ | apply keep_drewN | apply keep_drew | apply keep_alloc) | exact HK.out)⟩, ⟨by repeat (first | (with_reducible first | exact HB.out | apply below_alloc | apply pw_below_drewN | apply below_drew1 | refine below_set ?_ (IsS91.ge HI0.out)) | exact HB.out)⟩⟩
  case round =>
    clear H'
    try clear p2
    obtain ⟨x5_1, x1001_1, x1003_1, x1004_1, rfl, HA, HK1, HI0, HK, HB⟩ := hrel
    cases gk with
    | zero => exact absurd HA.out (by simp [spec_Editor_before.l0])
    | succ k1 =>
      have H := HA.out
      clear HA
      simp only [spec_Editor_before.l0] at H
      by_cases c3 : x5_1 ≥ 0
      · rw [if_pos c3] at H
        have c3b0 : decide (0 ≤ x5_1) = true := decide_eq_true c3
        clear c3
        replace H := Option.bind_eq_some_iff.mp H
        obtain ⟨⟨t114, t115, t116, t117⟩, A40, H⟩ := H
        replace H : (if t114 = true then (some (x5_1, t115, t116, t117)) else (spec_Editor_before.l0 k1 (wrap64 (x5_1 - 1)) s0_0 t115 s0_2 t116 t117)) = some (r1, r2, r3, r4) := H
        have A4 := Aside0.mk A40
        clear A40
        by_cases c5 : t114 = true
        · subst c5
          have H1 : (some (x5_1, t115, t116, t117)) = some (r1, r2, r3, r4) := by rw [if_pos rfl] at H; exact H
          clear H
          have H := H1
          clear H1
          simp only [Option.some.injEq, Prod.mk.injEq] at H
          obtain ⟨rfl, rfl, rfl, rfl⟩ := H
          go_wp2_with (first | ((with_reducible refine gate_callee (f := 92) rfl ?_); refine goesL_ (some 14) rfl rfl Tryd.func92 (by kernel_rfl) rfl #[.pointer (some ⟨g, 0, none⟩), .int .i64 x5_1] rfl (by (try simp only [List.map_toArray, List.map_cons, List.map_nil]); first | done | rfl | (simp only [List.length_drop, List.length_take]; rfl) | (simp only [Int.toNat_natCast, ByteArray.extract_zero_size]; rfl)) ?_; (with_reducible refine (spec_Editor_begins.calls g s0_0 x1001_1 s0_2 x1003_1 x1004_1 x5_1 true t115 t116 t117 w0 _ ?side1 ?side2 A4.out).mono ?_); (case side1 => repeat (first | (with_reducible first | exact HI0.out | apply IsS91.alloc | apply IsS91.drewN | apply IsS91.drew | apply IsS91.set_1 | apply IsS91.set_3 | apply IsS91.set_4) | exact HI0.out)); (case side2 => repeat (first | (with_reducible first | exact HB.out | apply below_alloc | apply pw_below_drewN | apply below_drew1 | refine below_set ?_ (IsS91.ge HI0.out)) | exact HB.out)); rintro e w6 ⟨rfl, hi, hb, hk⟩; refine ⟨_, rfl, ?_⟩; have n0_ := Aside0.mk (KeepBut.trans (by repeat (first | (with_reducible first | exact HK.out | apply KeepBut.set_ | apply keep_drewN | apply keep_drew | apply keep_alloc) | exact HK.out)) hk (.inl rfl)); have n1_ := Aside0.mk (hb); have n2_ := Aside0.mk (hi); clear HK; clear HB; clear HI0; have HK := n0_; have HB := n1_; have HI0 := n2_; clear n0_ n1_ n2_; (try clear hb); (try clear hb2); (try clear hk); (try clear hi)))
          go_ret
          exact ⟨by first | rfl | (simp [errW_none, errW_some] <;> rfl) | (simp [*, errW_none, errW_some] <;> rfl), by repeat (first | (with_reducible first | exact HI0.out | apply IsS91.alloc | apply IsS91.drewN | apply IsS91.drew | apply IsS91.set_1 | apply IsS91.set_3 | apply IsS91.set_4) | exact HI0.out), by repeat (first | (with_reducible first | exact HB.out | apply below_alloc | apply pw_below_drewN | apply below_drew1 | refine below_set ?_ (IsS91.ge HI0.out)) | exact HB.out), by repeat (first | (with_reducible first | exact HK.out | apply KeepBut.set_ | apply keep_drewN | apply keep_drew | apply keep_alloc) | exact HK.out)⟩
        · replace c5 := Bool.eq_false_iff.mpr c5
          subst c5
          have H1 : (spec_Editor_before.l0 k1 (wrap64 (x5_1 - 1)) s0_0 t115 s0_2 t116 t117) = some (r1, r2, r3, r4) := by rw [if_neg (show ¬ (false = true) by decide)] at H; exact H
          clear H
          have H := H1
          clear H1
          have H' := Aside0.mk H
          clear H
          go_wp2_with (first | ((with_reducible refine gate_callee (f := 92) rfl ?_); refine goesL_ (some 14) rfl rfl Tryd.func92 (by kernel_rfl) rfl #[.pointer (some ⟨g, 0, none⟩), .int .i64 x5_1] rfl (by (try simp only [List.map_toArray, List.map_cons, List.map_nil]); first | done | rfl | (simp only [List.length_drop, List.length_take]; rfl) | (simp only [Int.toNat_natCast, ByteArray.extract_zero_size]; rfl)) ?_; (with_reducible refine (spec_Editor_begins.calls g s0_0 x1001_1 s0_2 x1003_1 x1004_1 x5_1 false t115 t116 t117 w0 _ ?side1 ?side2 A4.out).mono ?_); (case side1 => repeat (first | (with_reducible first | exact HI0.out | apply IsS91.alloc | apply IsS91.drewN | apply IsS91.drew | apply IsS91.set_1 | apply IsS91.set_3 | apply IsS91.set_4) | exact HI0.out)); (case side2 => repeat (first | (with_reducible first | exact HB.out | apply below_alloc | apply pw_below_drewN | apply below_drew1 | refine below_set ?_ (IsS91.ge HI0.out)) | exact HB.out)); rintro e w7 ⟨rfl, hi, hb, hk⟩; refine ⟨_, rfl, ?_⟩; have n0_ := Aside0.mk (KeepBut.trans (by repeat (first | (with_reducible first | exact HK.out | apply KeepBut.set_ | apply keep_drewN | apply keep_drew | apply keep_alloc) | exact HK.out)) hk (.inl rfl)); have n1_ := Aside0.mk (hb); have n2_ := Aside0.mk (hi); clear HK; clear HB; clear HI0; have HK := n0_; have HB := n1_; have HI0 := n2_; clear n0_ n1_ n2_; (try clear hb); (try clear hb2); (try clear hk); (try clear hi)))
          go_roundg k1
          case measure => have := HK1.out; omega
          case rel => exact ⟨(wrap64 (x5_1 - 1)), (t115), (t116), (t117), (by first | rfl | (simp; done) | (simp [*]; done)), H', ⟨by have := HK1.out; omega⟩, ⟨by repeat (first | (with_reducible first | exact HI0.out | apply IsS91.alloc | apply IsS91.drewN | apply IsS91.drew | apply IsS91.set_1 | apply IsS91.set_3 | apply IsS91.set_4) | exact HI0.out)⟩, ⟨by repeat (first | (with_reducible first | exact HK.out | apply KeepBut.set_ | apply keep_drewN | apply keep_drew | apply keep_alloc) | exact HK.out)⟩, ⟨by repeat (first | (with_reducible first | exact HB.out | apply below_alloc | apply pw_below_drewN | apply below_drew1 | refine below_set ?_ (IsS91.ge HI0.out)) | exact HB.out)⟩⟩
      · rw [if_neg c3] at H
        have c3b0 : decide (0 ≤ x5_1) = false := decide_eq_false c3
        clear c3
        simp only [Option.some.injEq, Prod.mk.injEq] at H
        obtain ⟨rfl, rfl, rfl, rfl⟩ := H
        go_wp2
        go_ret
        exact ⟨by first | rfl | (simp [errW_none, errW_some] <;> rfl) | (simp [*, errW_none, errW_some] <;> rfl), by repeat (first | (with_reducible first | exact HI0.out | apply IsS91.alloc | apply IsS91.drewN | apply IsS91.drew | apply IsS91.set_1 | apply IsS91.set_3 | apply IsS91.set_4) | exact HI0.out), by repeat (first | (with_reducible first | exact HB.out | apply below_alloc | apply pw_below_drewN | apply below_drew1 | refine below_set ?_ (IsS91.ge HI0.out)) | exact HB.out), by repeat (first | (with_reducible first | exact HK.out | apply KeepBut.set_ | apply keep_drewN | apply keep_drew | apply keep_alloc) | exact HK.out)⟩
/-! ### spec_told: function 56 -/
def spec_told.f (a0 : Bool) : Option (Int) := if a0 = true then (some 1) else (some 0)
set_option maxHeartbeats 8000000 in
set_option maxRecDepth 100000 in
theorem spec_told.calls (a0 : Bool) (r : Int) (w : World) (h : spec_told.f a0 = some r) :
    Calls Tryd.prog 56 #[.bool a0] w fun e w' => e = .returned (.int .i64 r) ∧ Drawn0 w w' := by
  have H : (if a0 = true then (some 1) else (some 0)) = some r := h
  clear h
  by_cases c2 : a0 = true
  · subst c2
    have H1 : (some 1) = some r := by rw [if_pos rfl] at H; exact H
    clear H
    have H := H1
    clear H1
    obtain rfl := Option.some.inj H
    go_enter Tryd.func56, Tryd.ntmps56
    go_wp2
    go_ret
    exact ⟨by first | rfl | (simp; done) | (simp [*]; done), by repeat (first | exact Drawn0.refl _ | apply Drawn0.step)⟩
  · replace c2 := Bool.eq_false_iff.mpr c2
    subst c2
    have H1 : (some 0) = some r := by rw [if_neg (show ¬ (false = true) by decide)] at H; exact H
    clear H
    have H := H1
    clear H1
    obtain rfl := Option.some.inj H
    go_enter Tryd.func56, Tryd.ntmps56
    go_wp2
    go_ret
    exact ⟨by first | rfl | (simp; done) | (simp [*]; done), by repeat (first | exact Drawn0.refl _ | apply Drawn0.step)⟩
/-! ### spec_Editor_after: function 57 -/
def spec_Editor_after.l0 : Nat → Int → List Int → Int → List Int → Bool → Bool → Option (Int × Int × Bool × Bool)
  | 0, _, _, _, _, _, _ => none
  | k + 1, x5, x1000, x1001, x1002, x1003, x1004 => if x5 < (x1000.length : Int) then ((spec_Editor_begins.f x1000 x1001 x1002 x1003 x1004 x5).bind fun bt118 => (if bt118.1 = true then (some (x5, bt118.2.1, bt118.2.2.1, bt118.2.2.2)) else (spec_Editor_after.l0 k (wrap64 (x5 + 1)) x1000 bt118.2.1 x1002 bt118.2.2.1 bt118.2.2.2))) else (some ((-1), x1001, x1003, x1004))
def spec_Editor_after.f (k : Nat) (s0_0 : List Int) (s0_1 : Int) (s0_2 : List Int) (s0_3 : Bool) (s0_4 : Bool) (a1 : Int) : Option (Int × Int × Bool × Bool) := spec_Editor_after.l0 k (wrap64 (a1 + 1)) s0_0 s0_1 s0_2 s0_3 s0_4
theorem spec_Editor_after.mono_l : ∀ k, (∀ y0 y1 y2 y3 y4 y5, LeO (spec_Editor_after.l0 k y0 y1 y2 y3 y4 y5) (spec_Editor_after.l0 (k + 1) y0 y1 y2 y3 y4 y5))
  | 0 => fun _ _ _ _ _ _ r h => by simp [spec_Editor_after.l0] at h
  | k + 1 => by
    have ih0 := spec_Editor_after.mono_l k
    · intro y0 y1 y2 y3 y4 y5
      unfold spec_Editor_after.l0
      repeat' first
      | (with_reducible exact ih0 _ _ _ _ _ _)
      | (with_reducible exact LeO.refl _)
      | (with_reducible exact LeO.none _)
      | (with_reducible refine LeO.ite ?_ ?_)
      | (with_reducible refine LeO.bind ?_ (fun _ => ?_))
      | exact ih0 _ _ _ _ _ _
      | exact LeO.none _
      | refine LeO.ite ?_ ?_
      | refine LeO.bind ?_ (fun _ => ?_)
theorem spec_Editor_after.mono : ∀ a0 a1 a2 a3 a4 a5 k, LeO (spec_Editor_after.f k a0 a1 a2 a3 a4 a5) (spec_Editor_after.f (k + 1) a0 a1 a2 a3 a4 a5) := by
  intro a0 a1 a2 a3 a4 a5 k
  have ih0 := spec_Editor_after.mono_l k
  unfold spec_Editor_after.f
  repeat' first
      | (with_reducible exact ih0 _ _ _ _ _ _)
      | (with_reducible exact LeO.refl _)
      | (with_reducible exact LeO.none _)
      | (with_reducible refine LeO.ite ?_ ?_)
      | (with_reducible refine LeO.bind ?_ (fun _ => ?_))
      | exact ih0 _ _ _ _ _ _
      | exact LeO.none _
      | refine LeO.ite ?_ ?_
      | refine LeO.bind ?_ (fun _ => ?_)
set_option maxHeartbeats 8000000 in
set_option maxRecDepth 100000 in
theorem spec_Editor_after.calls (k : Nat) (g : Nat) (s0_0 : List Int) (s0_1 : Int) (s0_2 : List Int) (s0_3 : Bool) (s0_4 : Bool) (a1 : Int) (r1 : Int) (r2 : Int) (r3 : Bool) (r4 : Bool) (w0 w : World) (hI : IsS91 w0 w g s0_0 s0_1 s0_2 s0_3 s0_4) (hB : Below w0.heap.size w0 w) (h : spec_Editor_after.f k s0_0 s0_1 s0_2 s0_3 s0_4 a1 = some (r1, r2, r3, r4)) :
    Calls Tryd.prog 57 #[.pointer (some ⟨g, 0, none⟩), .int .i64 a1] w fun e w' => e = .returned (.int .i64 r1) ∧ IsS91 w0 w' g s0_0 r2 s0_2 r3 r4 ∧ Below w0.heap.size w0 w' ∧ KeepBut w w' g none := by
  have HI0 := Aside0.mk hI
  have HK := Aside0.mk (KeepBut.refl w g none)
  have HL := Aside0.mk hB.size
  clear hI
  have HW0 := Aside0.mk hB.size
  have HB := Aside0.mk hB
  clear hB
  have H : (spec_Editor_after.l0 k (wrap64 (a1 + 1)) s0_0 s0_1 s0_2 s0_3 s0_4) = some (r1, r2, r3, r4) := h
  clear h
  have H' := Aside0.mk H
  clear H
  go_enter Tryd.func57, Tryd.ntmps57
  go_wp2
  go_loopg [5] k (fun kq v5 w' => ∃ (x5_1 : Int) (x1001_1 : Int) (x1003_1 : Bool) (x1004_1 : Bool), v5 = .int .i64 x5_1 ∧ Aside0 (spec_Editor_after.l0 kq x5_1 s0_0 x1001_1 s0_2 x1003_1 x1004_1 = some (r1, r2, r3, r4)) ∧ Aside0 (kq ≤ k) ∧ Aside0 (IsS91 w0 w' g s0_0 x1001_1 s0_2 x1003_1 x1004_1) ∧ Aside0 (KeepBut w w' g none) ∧ Aside0 (Below w0.heap.size w0 w'))
  case atStart => exact ⟨(wrap64 (a1 + 1)), (s0_1), (s0_3), (s0_4), (by first | rfl | (simp; done) | (simp [*]; done)), H', ⟨Nat.le_refl _⟩, ⟨by repeat (first | (with_reducible first | exact HI0.out | apply IsS91.alloc | apply IsS91.drewN | apply IsS91.drew | apply IsS91.set_1 | apply IsS91.set_3 | apply IsS91.set_4) | exact HI0.out)⟩, ⟨by repeat (first | (with_reducible first | exact HK.out | apply KeepBut.set_ | apply keep_drewN | apply keep_drew | apply keep_alloc) | exact HK.out)⟩, ⟨by repeat (first | (with_reducible first | exact HB.out | apply below_alloc | apply pw_below_drewN | apply below_drew1 | refine below_set ?_ (IsS91.ge HI0.out)) | exact HB.out)⟩⟩
  case round =>
    clear H'
    try clear p2
    obtain ⟨x5_1, x1001_1, x1003_1, x1004_1, rfl, HA, HK1, HI0, HK, HB⟩ := hrel
    cases gk with
    | zero => exact absurd HA.out (by simp [spec_Editor_after.l0])
    | succ k1 =>
      have H := HA.out
      clear HA
      simp only [spec_Editor_after.l0] at H
      by_cases c3 : x5_1 < (s0_0.length : Int)
      · rw [if_pos c3] at H
        have c3b0 : decide (x5_1 < (s0_0.length : Int)) = true := decide_eq_true c3
        clear c3
        replace H := Option.bind_eq_some_iff.mp H
        obtain ⟨⟨t118, t119, t120, t121⟩, A40, H⟩ := H
        replace H : (if t118 = true then (some (x5_1, t119, t120, t121)) else (spec_Editor_after.l0 k1 (wrap64 (x5_1 + 1)) s0_0 t119 s0_2 t120 t121)) = some (r1, r2, r3, r4) := H
        have A4 := Aside0.mk A40
        clear A40
        by_cases c5 : t118 = true
        · subst c5
          have H1 : (some (x5_1, t119, t120, t121)) = some (r1, r2, r3, r4) := by rw [if_pos rfl] at H; exact H
          clear H
          have H := H1
          clear H1
          simp only [Option.some.injEq, Prod.mk.injEq] at H
          obtain ⟨rfl, rfl, rfl, rfl⟩ := H
          obtain ⟨ASz6_0, cSz6_0, ASz6_2, cSz6_2, HGz6, hgz6, HSz6_0, HSz6_2⟩ := HI0.out
          have hcz6_0 := cellS91_0 HGz6
          have hcz6_1 := cellS91_1 HGz6
          have hcz6_2 := cellS91_2 HGz6
          have hcz6_3 := cellS91_3 HGz6
          have hcz6_4 := cellS91_4 HGz6
          have hfz6_1 := blk_frozen HGz6 1
          have hfz6_3 := blk_frozen HGz6 3
          have hfz6_4 := blk_frozen HGz6 4
          clear HGz6 hgz6
          go_wp2_with (first | ((with_reducible refine gate_callee (f := 92) rfl ?_); refine goesL_ (some 19) rfl rfl Tryd.func92 (by kernel_rfl) rfl #[.pointer (some ⟨g, 0, none⟩), .int .i64 x5_1] rfl (by (try simp only [List.map_toArray, List.map_cons, List.map_nil]); first | done | rfl | (simp only [List.length_drop, List.length_take]; rfl) | (simp only [Int.toNat_natCast, ByteArray.extract_zero_size]; rfl)) ?_; (with_reducible refine (spec_Editor_begins.calls g s0_0 x1001_1 s0_2 x1003_1 x1004_1 x5_1 true t119 t120 t121 w0 _ ?side1 ?side2 A4.out).mono ?_); (case side1 => repeat (first | (with_reducible first | exact HI0.out | apply IsS91.alloc | apply IsS91.drewN | apply IsS91.drew | apply IsS91.set_1 | apply IsS91.set_3 | apply IsS91.set_4) | exact HI0.out)); (case side2 => repeat (first | (with_reducible first | exact HB.out | apply below_alloc | apply pw_below_drewN | apply below_drew1 | refine below_set ?_ (IsS91.ge HI0.out)) | exact HB.out)); rintro e w7 ⟨rfl, hi, hb, hk⟩; refine ⟨_, rfl, ?_⟩; have n0_ := Aside0.mk (KeepBut.trans (by repeat (first | (with_reducible first | exact HK.out | apply KeepBut.set_ | apply keep_drewN | apply keep_drew | apply keep_alloc) | exact HK.out)) hk (.inl rfl)); have n1_ := Aside0.mk (hb); have n2_ := Aside0.mk (hi); clear HK; clear HB; clear HI0; have HK := n0_; have HB := n1_; have HI0 := n2_; clear n0_ n1_ n2_; (try clear hb); (try clear hb2); (try clear hk); (try clear hi)))
          go_ret
          exact ⟨by first | rfl | (simp [errW_none, errW_some] <;> rfl) | (simp [*, errW_none, errW_some] <;> rfl), by repeat (first | (with_reducible first | exact HI0.out | apply IsS91.alloc | apply IsS91.drewN | apply IsS91.drew | apply IsS91.set_1 | apply IsS91.set_3 | apply IsS91.set_4) | exact HI0.out), by repeat (first | (with_reducible first | exact HB.out | apply below_alloc | apply pw_below_drewN | apply below_drew1 | refine below_set ?_ (IsS91.ge HI0.out)) | exact HB.out), by repeat (first | (with_reducible first | exact HK.out | apply KeepBut.set_ | apply keep_drewN | apply keep_drew | apply keep_alloc) | exact HK.out)⟩
        · replace c5 := Bool.eq_false_iff.mpr c5
          subst c5
          have H1 : (spec_Editor_after.l0 k1 (wrap64 (x5_1 + 1)) s0_0 t119 s0_2 t120 t121) = some (r1, r2, r3, r4) := by rw [if_neg (show ¬ (false = true) by decide)] at H; exact H
          clear H
          have H := H1
          clear H1
          have H' := Aside0.mk H
          clear H
          obtain ⟨ASz8_0, cSz8_0, ASz8_2, cSz8_2, HGz8, hgz8, HSz8_0, HSz8_2⟩ := HI0.out
          have hcz8_0 := cellS91_0 HGz8
          have hcz8_1 := cellS91_1 HGz8
          have hcz8_2 := cellS91_2 HGz8
          have hcz8_3 := cellS91_3 HGz8
          have hcz8_4 := cellS91_4 HGz8
          have hfz8_1 := blk_frozen HGz8 1
          have hfz8_3 := blk_frozen HGz8 3
          have hfz8_4 := blk_frozen HGz8 4
          clear HGz8 hgz8
          go_wp2_with (first | ((with_reducible refine gate_callee (f := 92) rfl ?_); refine goesL_ (some 19) rfl rfl Tryd.func92 (by kernel_rfl) rfl #[.pointer (some ⟨g, 0, none⟩), .int .i64 x5_1] rfl (by (try simp only [List.map_toArray, List.map_cons, List.map_nil]); first | done | rfl | (simp only [List.length_drop, List.length_take]; rfl) | (simp only [Int.toNat_natCast, ByteArray.extract_zero_size]; rfl)) ?_; (with_reducible refine (spec_Editor_begins.calls g s0_0 x1001_1 s0_2 x1003_1 x1004_1 x5_1 false t119 t120 t121 w0 _ ?side1 ?side2 A4.out).mono ?_); (case side1 => repeat (first | (with_reducible first | exact HI0.out | apply IsS91.alloc | apply IsS91.drewN | apply IsS91.drew | apply IsS91.set_1 | apply IsS91.set_3 | apply IsS91.set_4) | exact HI0.out)); (case side2 => repeat (first | (with_reducible first | exact HB.out | apply below_alloc | apply pw_below_drewN | apply below_drew1 | refine below_set ?_ (IsS91.ge HI0.out)) | exact HB.out)); rintro e w9 ⟨rfl, hi, hb, hk⟩; refine ⟨_, rfl, ?_⟩; have n0_ := Aside0.mk (KeepBut.trans (by repeat (first | (with_reducible first | exact HK.out | apply KeepBut.set_ | apply keep_drewN | apply keep_drew | apply keep_alloc) | exact HK.out)) hk (.inl rfl)); have n1_ := Aside0.mk (hb); have n2_ := Aside0.mk (hi); clear HK; clear HB; clear HI0; have HK := n0_; have HB := n1_; have HI0 := n2_; clear n0_ n1_ n2_; (try clear hb); (try clear hb2); (try clear hk); (try clear hi)))
          go_roundg k1
          case measure => have := HK1.out; omega
          case rel => exact ⟨(wrap64 (x5_1 + 1)), (t119), (t120), (t121), (by first | rfl | (simp; done) | (simp [*]; done)), H', ⟨by have := HK1.out; omega⟩, ⟨by repeat (first | (with_reducible first | exact HI0.out | apply IsS91.alloc | apply IsS91.drewN | apply IsS91.drew | apply IsS91.set_1 | apply IsS91.set_3 | apply IsS91.set_4) | exact HI0.out)⟩, ⟨by repeat (first | (with_reducible first | exact HK.out | apply KeepBut.set_ | apply keep_drewN | apply keep_drew | apply keep_alloc) | exact HK.out)⟩, ⟨by repeat (first | (with_reducible first | exact HB.out | apply below_alloc | apply pw_below_drewN | apply below_drew1 | refine below_set ?_ (IsS91.ge HI0.out)) | exact HB.out)⟩⟩
      · rw [if_neg c3] at H
        have c3b0 : decide (x5_1 < (s0_0.length : Int)) = false := decide_eq_false c3
        clear c3
        simp only [Option.some.injEq, Prod.mk.injEq] at H
        obtain ⟨rfl, rfl, rfl, rfl⟩ := H
        obtain ⟨ASz10_0, cSz10_0, ASz10_2, cSz10_2, HGz10, hgz10, HSz10_0, HSz10_2⟩ := HI0.out
        have hcz10_0 := cellS91_0 HGz10
        have hcz10_1 := cellS91_1 HGz10
        have hcz10_2 := cellS91_2 HGz10
        have hcz10_3 := cellS91_3 HGz10
        have hcz10_4 := cellS91_4 HGz10
        have hfz10_1 := blk_frozen HGz10 1
        have hfz10_3 := blk_frozen HGz10 3
        have hfz10_4 := blk_frozen HGz10 4
        clear HGz10 hgz10
        go_wp2
        go_ret
        exact ⟨by first | rfl | (simp [errW_none, errW_some] <;> rfl) | (simp [*, errW_none, errW_some] <;> rfl), by repeat (first | (with_reducible first | exact HI0.out | apply IsS91.alloc | apply IsS91.drewN | apply IsS91.drew | apply IsS91.set_1 | apply IsS91.set_3 | apply IsS91.set_4) | exact HI0.out), by repeat (first | (with_reducible first | exact HB.out | apply below_alloc | apply pw_below_drewN | apply below_drew1 | refine below_set ?_ (IsS91.ge HI0.out)) | exact HB.out), by repeat (first | (with_reducible first | exact HK.out | apply KeepBut.set_ | apply keep_drewN | apply keep_drew | apply keep_alloc) | exact HK.out)⟩
/-! ### spec_Editor_ends: function 139 -/
def spec_Editor_ends.f (s0_0 : List Int) (s0_1 : Int) (s0_2 : List Int) (s0_3 : Bool) (s0_4 : Bool) (a1 : Int) : Option (Bool × Int × Bool × Bool) := if (wrap64 (a1 + 1)) < (s0_0.length : Int) then (if 0 ≤ a1 then (if a1 < (s0_0.length : Int) then ((spec_IsWordSign.f (rd s0_0 a1)).bind fun t123 => (if t123 = true then (if 0 ≤ (wrap64 (a1 + 1)) then ((spec_IsWordSign.f (rd s0_0 (wrap64 (a1 + 1)))).bind fun t125 => (some (!t125, s0_1, s0_3, s0_4))) else (none)) else (some (false, s0_1, s0_3, s0_4)))) else (none)) else (none)) else (some (false, s0_1, s0_3, s0_4))
set_option maxHeartbeats 8000000 in
set_option maxRecDepth 100000 in
theorem spec_Editor_ends.calls (g : Nat) (s0_0 : List Int) (s0_1 : Int) (s0_2 : List Int) (s0_3 : Bool) (s0_4 : Bool) (a1 : Int) (r1 : Bool) (r2 : Int) (r3 : Bool) (r4 : Bool) (w0 w : World) (hI : IsS91 w0 w g s0_0 s0_1 s0_2 s0_3 s0_4) (hB : Below w0.heap.size w0 w) (h : spec_Editor_ends.f s0_0 s0_1 s0_2 s0_3 s0_4 a1 = some (r1, r2, r3, r4)) :
    Calls Tryd.prog 139 #[.pointer (some ⟨g, 0, none⟩), .int .i64 a1] w fun e w' => e = .returned (.bool r1) ∧ IsS91 w0 w' g s0_0 r2 s0_2 r3 r4 ∧ Below w0.heap.size w0 w' ∧ KeepBut w w' g none := by
  have HI0 := Aside0.mk hI
  have HK := Aside0.mk (KeepBut.refl w g none)
  have HL := Aside0.mk hB.size
  clear hI
  have HW0 := Aside0.mk hB.size
  have HB := Aside0.mk hB
  clear hB
  have H : (if (wrap64 (a1 + 1)) < (s0_0.length : Int) then (if 0 ≤ a1 then (if a1 < (s0_0.length : Int) then ((spec_IsWordSign.f (rd s0_0 a1)).bind fun t123 => (if t123 = true then (if 0 ≤ (wrap64 (a1 + 1)) then ((spec_IsWordSign.f (rd s0_0 (wrap64 (a1 + 1)))).bind fun t125 => (some (!t125, s0_1, s0_3, s0_4))) else (none)) else (some (false, s0_1, s0_3, s0_4)))) else (none)) else (none)) else (some (false, s0_1, s0_3, s0_4))) = some (r1, r2, r3, r4) := h
  clear h
  by_cases c3 : (wrap64 (a1 + 1)) < (s0_0.length : Int)
  · rw [if_pos c3] at H
    have c3b0 : decide ((wrap64 (a1 + 1)) < (s0_0.length : Int)) = true := decide_eq_true c3
    clear c3
    by_cases c4 : 0 ≤ a1
    · rw [if_pos c4] at H
      have c4b0 : decide (0 ≤ a1) = true := decide_eq_true c4
      clear c4
      by_cases c5 : a1 < (s0_0.length : Int)
      · rw [if_pos c5] at H
        have c5b0 : decide (a1 < (s0_0.length : Int)) = true := decide_eq_true c5
        clear c5
        replace H := Option.bind_eq_some_iff.mp H
        obtain ⟨t123, A60, H⟩ := H
        replace H : (if t123 = true then (if 0 ≤ (wrap64 (a1 + 1)) then ((spec_IsWordSign.f (rd s0_0 (wrap64 (a1 + 1)))).bind fun t125 => (some (!t125, s0_1, s0_3, s0_4))) else (none)) else (some (false, s0_1, s0_3, s0_4))) = some (r1, r2, r3, r4) := H
        have A6 := Aside0.mk A60
        clear A60
        by_cases c7 : t123 = true
        · subst c7
          have H1 : (if 0 ≤ (wrap64 (a1 + 1)) then ((spec_IsWordSign.f (rd s0_0 (wrap64 (a1 + 1)))).bind fun t125 => (some (!t125, s0_1, s0_3, s0_4))) else (none)) = some (r1, r2, r3, r4) := by rw [if_pos rfl] at H; exact H
          clear H
          have H := H1
          clear H1
          obtain ⟨ji8, hji8⟩ : ∃ j_ : Int, (wrap64 (a1 + 1)) = j_ := ⟨_, rfl⟩
          replace H : (if 0 ≤ (ji8) then ((spec_IsWordSign.f (rd s0_0 (ji8))).bind fun t125 => (some (!t125, s0_1, s0_3, s0_4))) else (none)) = some (r1, r2, r3, r4) := by first | (rw [hji8] at H; exact H) | (simp only [hji8] at H ⊢; exact H)
          (try rw [hji8] at c3b0)
          (try rw [hji8] at A6)
          have hji8w : (IntKind.i64.wrap (a1 + 1)) = ji8 := (i64_w _).trans hji8
          by_cases c9 : 0 ≤ (ji8)
          · rw [if_pos c9] at H
            have c9b0 : decide (0 ≤ (ji8)) = true := decide_eq_true c9
            clear c9
            replace H := Option.bind_eq_some_iff.mp H
            obtain ⟨t125, A100, H⟩ := H
            replace H : (some (!t125, s0_1, s0_3, s0_4)) = some (r1, r2, r3, r4) := H
            have A10 := Aside0.mk A100
            clear A100
            simp only [Option.some.injEq, Prod.mk.injEq] at H
            obtain ⟨rfl, rfl, rfl, rfl⟩ := H
            obtain ⟨ASz11_0, cSz11_0, ASz11_2, cSz11_2, HGz11, hgz11, HSz11_0, HSz11_2⟩ := HI0.out
            have hcz11_0 := cellS91_0 HGz11
            have hcz11_1 := cellS91_1 HGz11
            have hcz11_2 := cellS91_2 HGz11
            have hcz11_3 := cellS91_3 HGz11
            have hcz11_4 := cellS91_4 HGz11
            have hfz11_1 := blk_frozen HGz11 1
            have hfz11_3 := blk_frozen HGz11 3
            have hfz11_4 := blk_frozen HGz11 4
            clear HGz11 hgz11
            have p122 : 0 ≤ (a1 : Int) := of_decide_eq_true (by first | (with_reducible assumption) | assumption)
            have q122 : a1 < (s0_0.length : Int) := of_decide_eq_true (by first | (with_reducible assumption) | assumption)
            obtain ⟨ad122, e122, hx122_0⟩ := Kd.at_int HSz11_0 a1 p122 q122
            cases e122
            replace hx122_0 := pw_cell_below HB.out hx122_0
            replace p122 := eq_true p122
            replace q122 := eq_true q122
            go_enter Tryd.func139, Tryd.ntmps139
            go_wp2_with (first | (go_at_call 17; (with_reducible refine (spec_IsWordSign.calls (rd s0_0 a1) true _ A6.out).mono ?_); rintro e w' ⟨rfl, ⟨nd, rfl⟩⟩; have p124 : 0 ≤ ((ji8) : Int) := of_decide_eq_true (by first | (with_reducible assumption) | assumption); have q124 : (ji8) < (s0_0.length : Int) := of_decide_eq_true (by first | (with_reducible assumption) | assumption); obtain ⟨ad124, e124, hx124_0⟩ := Kd.at_int HSz11_0 (ji8) p124 q124; obtain rfl : ad122 = ad124 := (by injection e124); replace hx124_0 := pw_cell_below HB.out hx124_0; replace p124 := eq_true p124; replace q124 := eq_true q124) | (go_at_call 17; (with_reducible refine (spec_IsWordSign.calls (rd s0_0 (ji8)) t125 _ A10.out).mono ?_); rintro e w' ⟨rfl, ⟨nd, rfl⟩⟩))
            go_ret
            exact ⟨by first | rfl | (simp [errW_none, errW_some] <;> rfl) | (simp only [← hji8]; first | rfl | (simp [errW_none, errW_some] <;> rfl)) | (simp [*, errW_none, errW_some] <;> rfl), by repeat (first | (with_reducible first | exact HI0.out | apply IsS91.alloc | apply IsS91.drewN | apply IsS91.drew | apply IsS91.set_1 | apply IsS91.set_3 | apply IsS91.set_4) | exact HI0.out), by repeat (first | (with_reducible first | exact HB.out | apply below_alloc | apply pw_below_drewN | apply below_drew1 | refine below_set ?_ (IsS91.ge HI0.out)) | exact HB.out), by repeat (first | (with_reducible first | exact HK.out | apply KeepBut.set_ | apply keep_drewN | apply keep_drew | apply keep_alloc) | exact HK.out)⟩
          · rw [if_neg c9] at H
            exact absurd H (by simp)
        · replace c7 := Bool.eq_false_iff.mpr c7
          subst c7
          have H1 : (some (false, s0_1, s0_3, s0_4)) = some (r1, r2, r3, r4) := by rw [if_neg (show ¬ (false = true) by decide)] at H; exact H
          clear H
          have H := H1
          clear H1
          simp only [Option.some.injEq, Prod.mk.injEq] at H
          obtain ⟨rfl, rfl, rfl, rfl⟩ := H
          obtain ⟨ASz12_0, cSz12_0, ASz12_2, cSz12_2, HGz12, hgz12, HSz12_0, HSz12_2⟩ := HI0.out
          have hcz12_0 := cellS91_0 HGz12
          have hcz12_1 := cellS91_1 HGz12
          have hcz12_2 := cellS91_2 HGz12
          have hcz12_3 := cellS91_3 HGz12
          have hcz12_4 := cellS91_4 HGz12
          have hfz12_1 := blk_frozen HGz12 1
          have hfz12_3 := blk_frozen HGz12 3
          have hfz12_4 := blk_frozen HGz12 4
          clear HGz12 hgz12
          have p122 : 0 ≤ (a1 : Int) := of_decide_eq_true (by first | (with_reducible assumption) | assumption)
          have q122 : a1 < (s0_0.length : Int) := of_decide_eq_true (by first | (with_reducible assumption) | assumption)
          obtain ⟨ad122, e122, hx122_0⟩ := Kd.at_int HSz12_0 a1 p122 q122
          cases e122
          replace hx122_0 := pw_cell_below HB.out hx122_0
          replace p122 := eq_true p122
          replace q122 := eq_true q122
          go_enter Tryd.func139, Tryd.ntmps139
          go_wp2_with (first | (go_at_call 17; (with_reducible refine (spec_IsWordSign.calls (rd s0_0 a1) false _ A6.out).mono ?_); rintro e w' ⟨rfl, ⟨nd, rfl⟩⟩))
          go_ret
          exact ⟨by first | rfl | (simp [errW_none, errW_some] <;> rfl) | (simp [*, errW_none, errW_some] <;> rfl), by repeat (first | (with_reducible first | exact HI0.out | apply IsS91.alloc | apply IsS91.drewN | apply IsS91.drew | apply IsS91.set_1 | apply IsS91.set_3 | apply IsS91.set_4) | exact HI0.out), by repeat (first | (with_reducible first | exact HB.out | apply below_alloc | apply pw_below_drewN | apply below_drew1 | refine below_set ?_ (IsS91.ge HI0.out)) | exact HB.out), by repeat (first | (with_reducible first | exact HK.out | apply KeepBut.set_ | apply keep_drewN | apply keep_drew | apply keep_alloc) | exact HK.out)⟩
      · rw [if_neg c5] at H
        exact absurd H (by simp)
    · rw [if_neg c4] at H
      exact absurd H (by simp)
  · rw [if_neg c3] at H
    have c3b0 : decide ((wrap64 (a1 + 1)) < (s0_0.length : Int)) = false := decide_eq_false c3
    clear c3
    simp only [Option.some.injEq, Prod.mk.injEq] at H
    obtain ⟨rfl, rfl, rfl, rfl⟩ := H
    obtain ⟨ASz13_0, cSz13_0, ASz13_2, cSz13_2, HGz13, hgz13, HSz13_0, HSz13_2⟩ := HI0.out
    have hcz13_0 := cellS91_0 HGz13
    have hcz13_1 := cellS91_1 HGz13
    have hcz13_2 := cellS91_2 HGz13
    have hcz13_3 := cellS91_3 HGz13
    have hcz13_4 := cellS91_4 HGz13
    have hfz13_1 := blk_frozen HGz13 1
    have hfz13_3 := blk_frozen HGz13 3
    have hfz13_4 := blk_frozen HGz13 4
    clear HGz13 hgz13
    go_enter Tryd.func139, Tryd.ntmps139
    go_wp2
    go_ret
    exact ⟨by first | rfl | (simp [errW_none, errW_some] <;> rfl) | (simp [*, errW_none, errW_some] <;> rfl), by repeat (first | (with_reducible first | exact HI0.out | apply IsS91.alloc | apply IsS91.drewN | apply IsS91.drew | apply IsS91.set_1 | apply IsS91.set_3 | apply IsS91.set_4) | exact HI0.out), by repeat (first | (with_reducible first | exact HB.out | apply below_alloc | apply pw_below_drewN | apply below_drew1 | refine below_set ?_ (IsS91.ge HI0.out)) | exact HB.out), by repeat (first | (with_reducible first | exact HK.out | apply KeepBut.set_ | apply keep_drewN | apply keep_drew | apply keep_alloc) | exact HK.out)⟩
end Go.Proofs.YtdinikcfhpfojaaDoor.PDo
