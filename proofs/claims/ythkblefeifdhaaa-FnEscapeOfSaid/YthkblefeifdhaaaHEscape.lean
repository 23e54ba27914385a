/- The key of a sign behind an escape, and what is left (impl.EscapeOf, over readline's reader): the contract by which the law FnEscapeOf takes it; of texts of more than 2^46 bytes nothing is said. -/
import Derived.Test.YthkblefeifdhaaaHRec
namespace Go.Proofs.Ythkblefeifdhaaa.H
open Go.RowKit Go.Proofs.YthkblefeifdhaaaW.PrintWords Go.Proofs.YthkblefeifdhaaaW.PrintLast Go.Proofs.Ythkblefeifdhaaa.R
set_option linter.unusedVariables false
set_option linter.unusedSimpArgs false

def ekey (c : Int) (l : List Int) : Int × Nat :=
  if c = 98 then (-1, 0) else if c = 102 then (-2, 0) else if c = 100 then (-3, 0) else if c = 20 then (-5, 0) else if c = 127 then (-4, 0)
  else if c = 79 then (match l with | [] => (79, 0) | d :: _ => if d = 72 then (1, 1) else if d = 70 then (5, 1) else (79, 0)) else (c, 0)
def impl_EscapeOf.f (a0 : Int) (a1 : ByteArray) : Option (Int × ByteArray) := if 0 ≤ a0 ∧ a0 < 128 ∧ a1.size ≤ 1000000 then some ((ekey a0 (runesOf a1)).1, runesBytes ((runesOf a1).drop (ekey a0 (runesOf a1)).2)) else none

set_option maxHeartbeats 1000000 in
theorem readRune_nil (r : Nat) (sl : Value) (b n c : Nat) (w : World) (h : Rec w r [.slice (some ⟨b, 0, none⟩) 0 c, .int .i64 0, .bool false] 121) :
    Calls Try.prog 101 #[.pointer (some ⟨r, 0, none⟩)] w fun e w' => e = .returned (.tuple #[.int .i32 0, .int .i64 0, .nilIface]) ∧ Rec w' r [.slice (some ⟨b, 0, none⟩) 0 c, .int .i64 0, .bool false] 121 ∧ Below r w w' := by
  have c0 := h.cell 0 rfl
  have c1 := h.cell 1 rfl
  have c2 := h.cell 2 rfl
  have z2 := h.free 2
  go_enter Try.func101, Try.ntmps101
  go_wp2
  go_region
  have h1 := h.set 2 (.bool false)
  have c3 := h1.cell 2 rfl
  go_wp2
  exact bodyPost_ret (v := .tuple #[.int .i32 0, .int .i64 0, .nilIface]) (by simp [results, Try.results101, go_sem]) rfl ⟨rfl, h1.drew, ((below_put (Below.refl _ _) (Nat.le_refl _) _ _).drew)⟩

set_option maxHeartbeats 1000000 in
theorem readRune_some (r b n c : Nat) (x : Int) (w : World) (h : Rec w r [.slice (some ⟨b, 0, none⟩) n c, .int .i64 0, .bool false] 121) (hn : 0 < n) (hx : w.cell? ⟨b, 0, none⟩ = some (.int .i32 x)) (hb : b ≠ r) :
    Calls Try.prog 101 #[.pointer (some ⟨r, 0, none⟩)] w fun e w' => e = .returned (.tuple #[.int .i32 x, .int .i64 1, .nilIface]) ∧ Rec w' r [.slice (some ⟨b, 0, none⟩) n c, .int .i64 1, .bool true] 121 ∧ Below r w w' := by
  have c0 := h.cell 0 rfl
  have c1 := h.cell 1 rfl
  have c2 := h.cell 2 rfl
  have z2 := h.free 2
  go_enter Try.func101, Try.ntmps101
  go_wp2
  go_region
  have h1 := h.set 2 (.bool true)
  have d1 := h1.cell 1 rfl
  have d2 := h1.cell 2 rfl
  have y1 := h1.free 1
  have h2 := h1.set 1 (.int .i64 1)
  have e0 := h2.cell 0 rfl
  have e1 := h2.cell 1 rfl
  go_wp2
  go_quiet (fail)
  go_wp2
  exact bodyPost_ret (v := .tuple #[.int .i32 x, .int .i64 1, .nilIface]) (by simp [results, Try.results101, go_sem]) rfl ⟨rfl, (h2.drew).drewN _, pw_below_drewN ((below_put (below_put (Below.refl _ _) (Nat.le_refl _) _ _) (Nat.le_refl _) _ _).drew) _⟩

set_option maxHeartbeats 1000000 in
theorem unread_no (r : Nat) (s a : Value) (w : World) (h : Rec w r [s, a, .bool false] 121) :
    Calls Try.prog 102 #[.pointer (some ⟨r, 0, none⟩)] w fun e w' => e = .returned (.tuple #[]) ∧ w' = w := by
  have c2 := h.cell 2 rfl
  go_enter Try.func102, Try.ntmps102
  go_wp2
  go_end0
  exact ⟨rfl, rfl⟩

set_option maxHeartbeats 1000000 in
theorem unread_yes (r : Nat) (s : Value) (w : World) (h : Rec w r [s, .int .i64 1, .bool true] 121) :
    Calls Try.prog 102 #[.pointer (some ⟨r, 0, none⟩)] w fun e w' => e = .returned (.tuple #[]) ∧ Rec w' r [s, .int .i64 0, .bool false] 121 ∧ Below r w w' := by
  have c2 := h.cell 2 rfl
  have c1 := h.cell 1 rfl
  have z1 := h.free 1
  have h1 := h.set 1 (.int .i64 0)
  have z2 := h1.free 2
  have c3 := h1.cell 2 rfl
  have h2 := h1.set 2 (.bool false)
  go_enter Try.func102, Try.ntmps102
  go_wp2
  go_end0
  exact ⟨rfl, h2, below_put (below_put (Below.refl _ _) (Nat.le_refl _) _ _) (Nat.le_refl _) _ _⟩

def Rdr (w : World) (r : Nat) (s : Value) (n : Nat) : Prop := ∃ u, Rec w r [s, .int .i64 n, .bool u] 121

set_option maxHeartbeats 2000000 in
theorem escapeKey_calls (x : Int) (l : List Int) (r b c : Nat) (w : World) (hrec : Rec w r [.slice (some ⟨b, 0, none⟩) l.length c, .int .i64 0, .bool false] 121) (hb : b < r) (hc : ∀ j, j < l.length → w.cell? ⟨b, j, none⟩ = some (.int .i32 (l.getD j 0))) :
    Calls Try.prog 81 #[.int .i32 x, .pointer (some ⟨r, 0, none⟩)] w fun e w' => e = .returned (.int .i32 (ekey x l).1) ∧ Below r w w' ∧ Rdr w' r (.slice (some ⟨b, 0, none⟩) l.length c) (ekey x l).2 := by
  by_cases k1 : x = 98
  · subst k1
    rw [show ekey 98 l = (-1, 0) from rfl]
    go_enter Try.func81, Try.ntmps81
    go_wp2
    go_ret
    exact ⟨rfl, Below.refl _ _, ⟨_, hrec⟩⟩
  by_cases k2 : x = 102
  · subst k2
    rw [show ekey 102 l = (-2, 0) from rfl]
    go_enter Try.func81, Try.ntmps81
    go_wp2
    go_ret
    exact ⟨rfl, Below.refl _ _, ⟨_, hrec⟩⟩
  by_cases k3 : x = 100
  · subst k3
    rw [show ekey 100 l = (-3, 0) from rfl]
    go_enter Try.func81, Try.ntmps81
    go_wp2
    go_ret
    exact ⟨rfl, Below.refl _ _, ⟨_, hrec⟩⟩
  by_cases k4 : x = 20
  · subst k4
    rw [show ekey 20 l = (-5, 0) from rfl]
    go_enter Try.func81, Try.ntmps81
    go_wp2
    go_ret
    exact ⟨rfl, Below.refl _ _, ⟨_, hrec⟩⟩
  by_cases k5 : x = 127
  · subst k5
    rw [show ekey 127 l = (-4, 0) from rfl]
    go_enter Try.func81, Try.ntmps81
    go_wp2
    go_ret
    exact ⟨rfl, Below.refl _ _, ⟨_, hrec⟩⟩
  by_cases k6 : x = 79
  · subst k6
    cases l with
    | nil =>
      rw [show ekey 79 [] = (79, 0) from rfl]
      go_enter Try.func81, Try.ntmps81
      go_wp2_with (first | (go_at_call 101; refine (readRune_nil r .nilIface b 0 c _ hrec).mono ?_; rintro e w1 ⟨rfl, h1, b1⟩) | (go_at_call 102; refine (unread_no r _ _ _ h1).mono ?_; rintro e w2 ⟨rfl, rfl⟩))
      go_ret
      exact ⟨rfl, b1, ⟨_, h1⟩⟩
    | cons d l =>
      have hx := hc 0 (by simp)
      simp only [List.getD_cons_zero] at hx
      clear hc
      by_cases q1 : d = 72
      · subst q1
        rw [show ekey 79 (72 :: l) = (1, 1) from rfl]
        go_enter Try.func81, Try.ntmps81
        go_wp2_with (go_at_call 101; refine (readRune_some r b _ c _ _ hrec (by simp) hx (by omega)).mono ?_; rintro e w1 ⟨rfl, h1, b1⟩)
        go_ret
        exact ⟨rfl, b1, ⟨_, h1⟩⟩
      by_cases q2 : d = 70
      · subst q2
        rw [show ekey 79 (70 :: l) = (5, 1) from rfl]
        go_enter Try.func81, Try.ntmps81
        go_wp2_with (go_at_call 101; refine (readRune_some r b _ c _ _ hrec (by simp) hx (by omega)).mono ?_; rintro e w1 ⟨rfl, h1, b1⟩)
        go_ret
        exact ⟨rfl, b1, ⟨_, h1⟩⟩
      have p1 : (d == 72) = false := beq_eq_false_iff_ne.2 q1
      have p2 : (d == 70) = false := beq_eq_false_iff_ne.2 q2
      rw [show ekey 79 (d :: l) = (79, 0) by simp [ekey, q1, q2]]
      clear q1 q2
      go_enter Try.func81, Try.ntmps81
      go_wp2_with (first | (go_at_call 101; refine (readRune_some r b _ c _ _ hrec (by simp) hx (by omega)).mono ?_; rintro e w1 ⟨rfl, h1, b1⟩) | (go_at_call 102; refine (unread_yes r _ _ h1).mono ?_; rintro e w2 ⟨rfl, h2, b2⟩))
      go_ret
      exact ⟨rfl, b1.trans b2, ⟨_, h2⟩⟩
  have p1 : (x == 98) = false := beq_eq_false_iff_ne.2 k1
  have p2 : (x == 102) = false := beq_eq_false_iff_ne.2 k2
  have p3 : (x == 100) = false := beq_eq_false_iff_ne.2 k3
  have p4 : (x == 20) = false := beq_eq_false_iff_ne.2 k4
  have p5 : (x == 127) = false := beq_eq_false_iff_ne.2 k5
  have p6 : (x == 79) = false := beq_eq_false_iff_ne.2 k6
  rw [show ekey x l = (x, 0) by simp [ekey, k1, k2, k3, k4, k5, k6]]
  clear k1 k2 k3 k4 k5 k6
  cases p7 : (x == 27)
  all_goals
    go_enter Try.func81, Try.ntmps81
    go_wp2
    go_ret
    exact ⟨rfl, Below.refl _ _, ⟨_, hrec⟩⟩

theorem ekey_le (x : Int) (l : List Int) : (ekey x l).2 ≤ l.length := by
  unfold ekey
  repeat' split
  all_goals simp_all
theorem ekey_key (x : Int) (l : List Int) (h0 : 0 ≤ x) (h1 : x < 128) : -5 ≤ (ekey x l).1 ∧ (ekey x l).1 < 128 := by
  unfold ekey
  repeat' split
  all_goals first | omega | (simp_all; done) | (simp_all; omega)
def EscOut (e : Ending) (b m : Nat) (p : Int × Nat) : Prop := ∃ o c', e = .returned (.tuple #[.int .i32 p.1, .slice (some ⟨b, o, none⟩) (m - p.2) c']) ∧ (p.2 < m → o = p.2)
set_option maxHeartbeats 2000000 in
theorem EscapeKey_calls (x : Int) (l : List Int) (b c : Nat) (w : World) (hb : b < w.heap.size) (hlc : l.length ≤ c) (hn : c ≤ maxLen) (hc : ∀ j, j < l.length → w.cell? ⟨b, j, none⟩ = some (.int .i32 (l.getD j 0))) :
    Calls Try.prog 55 #[.int .i32 x, .slice (some ⟨b, 0, none⟩) l.length c] w fun e w' => EscOut e b l.length (ekey x l) ∧ Below w.heap.size w w' := by
  have hle := ekey_le x l
  unfold maxLen at hn
  have HE := escapeKey_calls x l w.heap.size b c (w.alloc (.cells [.slice (some ⟨b, 0, none⟩) l.length c, .int .i64 0, .bool false].toArray 121)) (Rec.new _ _ _) hb (fun j hj => (Below.cell ((Below.refl _ _).alloc (Nat.le_refl _) _) (p := ⟨b, j, none⟩) (by exact hb)).trans (hc j hj))
  have HE := Lib.hid HE
  clear hc
  generalize ekey x l = p at *
  obtain ⟨k, n⟩ := p
  simp only at *
  go_enter Try.func55, Try.ntmps55
  go_wp2_with (go_at_call 81; refine HE.out.mono ?_; rintro e w1 ⟨rfl, b1, u, h1⟩; have c1 := h1.cell 1 rfl)
  go_quiet (fail)
  go_wp2
  all_goals
    go_ret2
    refine ⟨⟨_, _, rfl, ?_⟩, pw_below_drewN (((Below.refl _ _).alloc (Nat.le_refl _) _).trans b1) _⟩
    intro hlt
    first | rfl | omega
theorem runesBytes_none : runesBytes [] = ⟨#[]⟩ := rfl
set_option maxHeartbeats 2000000 in
theorem impl_EscapeOf.calls (a0 : Int) (a1 : ByteArray) (r1 : Int) (r2 : ByteArray) (w : World) (h : impl_EscapeOf.f a0 a1 = some (r1, r2)) :
    Calls Try.prog 26 #[.int .i64 a0, .string a1] w fun e w' => e = .returned (.tuple #[.int .i64 r1, .string r2]) ∧ Below w.heap.size w w' := by
  unfold impl_EscapeOf.f at h
  by_cases hc : 0 ≤ a0 ∧ a0 < 128 ∧ a1.size ≤ 1000000
  · rw [if_pos hc] at h
    obtain ⟨h0, h1, h2⟩ := hc
    have hq := Option.some.inj h
    simp only [Prod.mk.injEq] at hq
    obtain ⟨rfl, rfl⟩ := hq
    clear h
    have hcv := runes_run (P := Try.prog) w 9 85 21 a1 (by kernel_rfl) (by kernel_rfl) (by kernel_rfl) (by omega)
    have hlen := runesOf_length a1
    generalize runesOf a1 = l at *
    have hcap := grownCap_ge w l.length 0 21
    have hmax := grownCap_le_maxLen w l.length 0 21 (by unfold maxLen; omega)
    generalize grownCap w l.length 0 21 = c at *
    have hR := Rec.at_ (b := w.heap.size) w.drew (runeCells l c) 21 rfl
    have hB : Below w.heap.size w (w.drew.alloc (.cells (runeCells l c).toArray 21)) := ((Below.refl _ _).drew).alloc (Nat.le_refl _) _
    have hx : IntKind.i32.wrap a0 = a0 := IntWalk.i32_in _ ⟨by omega, by omega⟩
    have hcell : ∀ j, j < l.length → (w.drew.alloc (.cells (runeCells l c).toArray 21)).cell? ⟨w.heap.size, j, none⟩ = some (.int .i32 (l.getD j 0)) := fun j hj => hR.cell j (runeCells_at l c j hj)
    have hEK := EscapeKey_calls a0 l w.heap.size c _ hR.lt hcap hmax hcell
    have hle := ekey_le a0 l
    obtain ⟨hk0, hk1⟩ := ekey_key a0 l h0 h1
    generalize w.drew.alloc (.cells (runeCells l c).toArray 21) = W at *
    have HE := Lib.hid hEK
    have HC := Lib.hid hcell
    clear hEK hcell
    generalize ekey a0 l = p at *
    obtain ⟨k, n⟩ := p
    simp only at hle hk0 hk1 ⊢
    go_enter Try.func26, Try.ntmps26
    go_wp2_with (go_at_call 55; (try rw [hx]); refine HE.out.mono ?_; rintro e w1 ⟨⟨o, c', rfl, ho⟩, b1⟩)
    have hcv2 : ∀ m, (convert 85 9 (.slice (some ⟨w.heap.size, o, none⟩) (l.length - n) c')).run Try.prog (w1.drewN m) = .ok (.string (runesBytes (l.drop n))) (w1.drewN m) := fun m => by
      by_cases hlt : n < l.length
      · obtain rfl := ho hlt
        refine runes_str _ 85 9 21 _ o c' (l.drop o) _ (by simp) (by kernel_rfl) (by kernel_rfl) (by kernel_rfl) fun j hj => ?_
        rw [List.length_drop] at hj
        have h3 := (Below.cell b1 (p := ⟨w.heap.size, o + j, none⟩) (by exact hR.lt)).trans (HC.out (o + j) (by omega))
        rw [show (l.drop o).getD j 0 = l.getD (o + j) 0 by simp [List.getD]]
        exact h3
      · have : l.drop n = [] := List.drop_eq_nil_of_le (by omega)
        rw [this]
        exact runes_str _ 85 9 21 _ o c' [] _ (by simp; omega) (by kernel_rfl) (by kernel_rfl) (by kernel_rfl) fun j hj => by simp at hj
    have hcv1 := hcv2 0
    go_quiet (fail)
    go_wp2
    go_ret2
    exact ⟨rfl, pw_below_drewN (hB.trans (b1.mono (by exact Nat.le_of_lt hR.lt))) _⟩
  · rw [if_neg hc] at h
    cases h
end Go.Proofs.Ythkblefeifdhaaa.H
