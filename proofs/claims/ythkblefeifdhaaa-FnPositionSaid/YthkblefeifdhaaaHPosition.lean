/- The column and the row of a place (impl.Position): the contract by which the law FnPosition takes it, for places from 0 to 1000000 and 1 to 65535 columns; of others nothing is said. -/
import Derived.Test.YthkblefeifdhaaaHCaught
namespace Go.Proofs.Ythkblefeifdhaaa.H
open Go.RowKit Go.Proofs.YthkblefeifdhaaaW.PrintWords Go.Proofs.YthkblefeifdhaaaW.PrintLast
set_option linter.unusedVariables false
set_option linter.unusedSimpArgs false
attribute [local go_sem ↓] Go.wp_at_zero Go.wp_at_succ

def impl_Position.f (a0 a1 : Int) : Option (Int × Int × Bool) := if 0 ≤ a0 ∧ a0 ≤ 1000000 ∧ 1 ≤ a1 ∧ a1 ≤ 65535 then some (a0 % a1, a0 / a1, true) else none

set_option maxHeartbeats 1000000 in
theorem window_calls (c : Int) (w : World) (h1 : 1 ≤ c) (h2 : c ≤ 65535) : Calls Try.prog 50 #[.int .i64 c, .int .i64 0] w fun e w' => e = .returned (.bool true) ∧ w = w' := by
  go_enter Try.func50, Try.ntmps50
  go_wp2
  go_ret
  exact ⟨rfl, rfl⟩

/-- The render's fields. -/
def renderCells (k : Nat) (s : ByteArray) (c r : Int) : Array Value := #[.iface 109 (.pointer (some ⟨k, 0, none⟩)), .string s, .func (.func 79) #[] #[], .nilFunc, .string ⟨#[]⟩, .int .u16 r, .int .u16 c, .int .i64 0,
  .int .i64 13, .int .i64 0, .int .i64 0, .int .i64 0, .int .i64 11, .int .i64 0, .int .i64 16, .int .i64 7, .int .i64 1, .int .i64 15, .int .i64 1, .int .i64 15, .int .i64 16, .int .i64 7, .int .i64 9, .int .i64 7]
set_option maxRecDepth 100000 in
set_option maxHeartbeats 1000000 in
theorem newRender_calls (s : ByteArray) (c r : Int) (w : World) : Calls Try.prog 52 #[.string s, .int .u16 c, .int .u16 r] w fun e w' =>
    ∃ k, e = .returned (.pointer (some ⟨k, 0, none⟩)) ∧ w'.cell? ⟨k, 6, none⟩ = some (.int .u16 c) ∧ w.heap.size ≤ k ∧ Below w.heap.size w w' := by
  go_enter Try.func52, Try.ntmps52
  go_wp2_with ((with_reducible refine gate_dst (N := 13) rfl ?_); refine event_here (v := .agg (renderCells w.heap.size s c r)) (by rfl) (by kernel_rfl) ?_)
  go_ret
  have hh := heap_alloc_new (w.alloc (.cells #[.slice none 0 0] 111)) (.cells (renderCells w.heap.size s c r) 118)
  refine ⟨_, rfl, ?_, by omega, ((Below.refl _ _).alloc (Nat.le_refl _) _).alloc (by simp) _⟩
  simp only [World.size_alloc] at hh
  simp only [World.cell?, hh]
  rfl

set_option maxHeartbeats 1000000 in
theorem toPos_calls (k : Nat) (c p : Int) (w : World) (hc : w.cell? ⟨k, 6, none⟩ = some (.int .u16 c)) (h0 : 0 ≤ p) (h1 : p ≤ 1000000) (h2 : 1 ≤ c) (h3 : c ≤ 65535) :
    Calls Try.prog 80 #[.pointer (some ⟨k, 0, none⟩), .int .i64 p] w fun e w' => e = .returned (.tuple #[.int .i64 (p % c), .int .i64 (p / c)]) ∧ ∃ n, w' = w.drewN n := by
  have hz : (c == 0) = false := beq_eq_false_iff_ne.2 (by omega)
  go_enter Try.func80, Try.ntmps80
  go_wp2
  go_quiet (fail)
  go_wp2
  go_ret2
  exact ⟨rfl, _, rfl⟩

set_option maxHeartbeats 1000000 in
theorem ToPos_calls (k : Nat) (c p : Int) (w : World) (hc : w.cell? ⟨k, 6, none⟩ = some (.int .u16 c)) (h0 : 0 ≤ p) (h1 : p ≤ 1000000) (h2 : 1 ≤ c) (h3 : c ≤ 65535) :
    Calls Try.prog 53 #[.pointer (some ⟨k, 0, none⟩), .int .i64 p] w fun e w' => e = .returned (.tuple #[.int .i64 (p % c), .int .i64 (p / c)]) ∧ ∃ n, w' = w.drewN n := by
  go_enter Try.func53, Try.ntmps53
  go_wp2_with (go_at_call 80; refine (toPos_calls k c p _ hc h0 h1 h2 h3).mono ?_; rintro e w' ⟨rfl, n, rfl⟩)
  go_ret2
  exact ⟨rfl, _, rfl⟩

set_option maxRecDepth 100000 in
set_option maxHeartbeats 4000000 in
theorem position_closure (b : Nat) (p c x y : Int) (W : World) (h0 : 0 ≤ p) (h1 : p ≤ 1000000) (h2 : 1 ≤ c) (h3 : c ≤ 65535) (hsz : b + 3 < W.heap.size)
    (cp : W.cell? ⟨b, 0, none⟩ = some (.int .i64 p)) (cc : W.cell? ⟨b + 1, 0, none⟩ = some (.int .i64 c)) (cx : W.cell? ⟨b + 2, 0, none⟩ = some (.int .i64 x)) (cy : W.cell? ⟨b + 3, 0, none⟩ = some (.int .i64 y))
    (fx : W.frozen? ⟨b + 2, 0, none⟩ = false) (fy : W.frozen? ⟨b + 3, 0, none⟩ = false) :
    Calls Try.prog 51 #[.pointer (some ⟨b + 1, 0, none⟩), .pointer (some ⟨b, 0, none⟩), .pointer (some ⟨b + 2, 0, none⟩), .pointer (some ⟨b + 3, 0, none⟩)] W fun e W' =>
      e = .returned (.tuple #[]) ∧ ∃ w1, Below W.heap.size W w1 ∧ W' = (w1.setCell ⟨b + 2, 0, none⟩ (.int .i64 (p % c))).setCell ⟨b + 3, 0, none⟩ (.int .i64 (p / c)) := by
  have hcm : IntKind.u16.wrap c = c := IntWalk.u16_in _ ⟨by omega, by omega⟩
  go_enter Try.func51, Try.ntmps51
  go_wp2_with (fail)
  go_region_held3 (fun w' => w'.cell? ⟨b, 0, none⟩ = some (.int .i64 p) ∧ w'.cell? ⟨b + 1, 0, none⟩ = some (.int .i64 c)) (first | go_keep | (exact ⟨(hb1.cell (p := ⟨b, 0, none⟩) (by show b < W.heap.size; omega)).trans cp, (hb1.cell (p := ⟨b + 1, 0, none⟩) (by show b + 1 < W.heap.size; omega)).trans cc⟩))
    (first
      | (go_at_call 52; (with_reducible refine (newRender_calls _ _ _ _).mono ?_); rintro e w1 ⟨k, rfl, hk, hkb, hb1⟩; (try rw [hcm] at hk); have cx1 : w1.cell? ⟨b + 2, 0, none⟩ = _ := (hb1.cell (p := ⟨b + 2, 0, none⟩) (by show b + 2 < W.heap.size; omega)).trans cx; have cy1 : w1.cell? ⟨b + 3, 0, none⟩ = _ := (hb1.cell (p := ⟨b + 3, 0, none⟩) (by show b + 3 < W.heap.size; omega)).trans cy; have fx1 : w1.frozen? ⟨b + 2, 0, none⟩ = _ := (hb1.frozen (p := ⟨b + 2, 0, none⟩) (by show b + 2 < W.heap.size; omega)).trans fx; have fy1 : w1.frozen? ⟨b + 3, 0, none⟩ = _ := (hb1.frozen (p := ⟨b + 3, 0, none⟩) (by show b + 3 < W.heap.size; omega)).trans fy)
      | (go_at_call 53; (with_reducible refine (ToPos_calls _ _ _ _ (by first | assumption | (simp only [World.cell?_drewN]; assumption)) h0 h1 h2 h3).mono ?_); rintro e w2 ⟨rfl, n2, rfl⟩))
  have hb2 : Below W.heap.size W w1 := ⟨hb1.os, hb1.tape, hb1.output, hb1.size, hb1.block⟩
  go_end0
  exact ⟨rfl, w1.drewN n2, pw_below_drewN hb2 n2, rfl⟩

theorem enter_position (args : Array Value) (w : World) : (callFunc 51 args).run Try.prog w = .ok (.enter 51 args) w :=
  enters (P := Try.prog) Try.func51 (by kernel_rfl) rfl args w

set_option maxHeartbeats 1000000 in
theorem impl_Position.calls (a0 a1 r1 r2 : Int) (r3 : Bool) (w : World) (h : impl_Position.f a0 a1 = some (r1, r2, r3)) :
    Calls Try.prog 23 #[.int .i64 a0, .int .i64 a1] w fun e w' => e = .returned (.tuple #[.int .i64 r1, .int .i64 r2, .bool r3]) ∧ Below w.heap.size w w' := by
  unfold impl_Position.f at h
  by_cases hc : 0 ≤ a0 ∧ a0 ≤ 1000000 ∧ 1 ≤ a1 ∧ a1 ≤ 65535
  · rw [if_pos hc] at h
    obtain ⟨h0, h1, h2, h3⟩ := hc
    have hq := Option.some.inj h
    simp only [Prod.mk.injEq] at hq
    obtain ⟨rfl, rfl, rfl⟩ := hq
    clear h
    have hmf : ∀ (fn : Fn) (first cap : Array Value) (w : World), (Instr.makeFunc fn first cap).run Try.prog w = .ok (.func fn first cap) w := fun _ _ _ _ => rfl
    go_enter Try.func23, Try.ntmps23
    go_wp2_with (go_at_call 50; (with_reducible refine (window_calls _ _ h2 h3).mono ?_); rintro e w' ⟨rfl, rfl⟩)
    have o0 : One _ w.heap.size _ _ := (((One.new w (.int .i64 a0) 3).alloc (.cells #[.int .i64 a1] 3)).alloc (.cells #[.int .i64 0] 3)).alloc (.cells #[.int .i64 0] 3)
    have o1 := ((One.at_ (b := w.heap.size + 1) (w.alloc (.cells #[.int .i64 a0] 3)) (.int .i64 a1) 3 (by simp)).alloc (.cells #[.int .i64 0] 3)).alloc (.cells #[.int .i64 0] 3)
    have o2 := (One.at_ (b := w.heap.size + 2) ((w.alloc (.cells #[.int .i64 a0] 3)).alloc (.cells #[.int .i64 a1] 3)) (.int .i64 0) 3 (by simp)).alloc (.cells #[.int .i64 0] 3)
    have o3 := One.at_ (b := w.heap.size + 3) (((w.alloc (.cells #[.int .i64 a0] 3)).alloc (.cells #[.int .i64 a1] 3)).alloc (.cells #[.int .i64 0] 3)) (.int .i64 0) 3 (by simp)
    have b0 : Below w.heap.size w ((((w.alloc (.cells #[.int .i64 a0] 3)).alloc (.cells #[.int .i64 a1] 3)).alloc (.cells #[.int .i64 0] 3)).alloc (.cells #[.int .i64 0] 3)) := ((((Below.refl _ _).alloc (Nat.le_refl _) _).alloc (by simp) _).alloc (by simp; omega) _).alloc (by simp; omega) _
    have hs : ((((w.alloc (.cells #[.int .i64 a0] 3)).alloc (.cells #[.int .i64 a1] 3)).alloc (.cells #[.int .i64 0] 3)).alloc (.cells #[.int .i64 0] 3)).heap.size = w.heap.size + 4 := by simp
    generalize ((((w.alloc (.cells #[.int .i64 a0] 3)).alloc (.cells #[.int .i64 a1] 3)).alloc (.cells #[.int .i64 0] 3)).alloc (.cells #[.int .i64 0] 3)) = W at o0 o1 o2 o3 b0 hs ⊢
    refine (caught_calls 51 _ _ (fun w' => One w' (w.heap.size + 2) (.int .i64 (a0 % a1)) 3 ∧ One w' (w.heap.size + 3) (.int .i64 (a0 / a1)) 3 ∧ Below w.heap.size w w') enter_position ?_).mono ?_
    · have q0 := o0.alloc (.cells #[.bool false] 4)
      have q1 := o1.alloc (.cells #[.bool false] 4)
      have q2 := o2.alloc (.cells #[.bool false] 4)
      have q3 := o3.alloc (.cells #[.bool false] 4)
      have q4 := One.new W (.bool false) 4
      refine (position_closure w.heap.size a0 a1 0 0 _ h0 h1 h2 h3 (by simp; omega) q0.cell q1.cell q2.cell q3.cell q2.free q3.free).mono ?_
      rintro e w' ⟨rfl, w1, hb, rfl⟩
      have r2 := q2.stays hb
      have r3 := q3.stays hb
      have r4 := q4.stays hb
      refine ⟨rfl, (r4.other (by show _ ≠ w.heap.size + 2; omega) _).other (by show _ ≠ w.heap.size + 3; omega) _, (r2.set _).other (by show _ ≠ w.heap.size + 3; omega) _, (r3.other (by show _ ≠ w.heap.size + 2; omega) _).set _, ?_⟩
      exact ((Below.lower (b0.alloc (by omega) _) (by simp; omega) hb).setCell (by show _ ≤ w.heap.size + 2; omega) _).setCell (by show _ ≤ w.heap.size + 3; omega) _
    · rintro e w' ⟨rfl, w1, ⟨r2, r3, hb⟩, r4, rfl⟩
      have s2 := r2.other (a := ⟨W.heap.size, 0, none⟩) (by show _ ≠ W.heap.size; omega) (.bool true)
      have s3 := r3.other (a := ⟨W.heap.size, 0, none⟩) (by show _ ≠ W.heap.size; omega) (.bool true)
      have hb1 := hb.setCell (p := ⟨W.heap.size, 0, none⟩) (by show _ ≤ W.heap.size; omega) (.bool true)
      generalize w1.setCell ⟨W.heap.size, 0, none⟩ (.bool true) = V at s2 s3 hb1 ⊢
      clear r2 r3 r4 hb
      have c2 := s2.cell
      have c3 := s3.cell
      have f2 := s2.free
      have f3 := s3.free
      go_wp2
      go_region
      have t2 := ((s2.set (.int .i64 (a0 % a1))).other (a := ⟨w.heap.size + 3, 0, none⟩) (by show _ ≠ w.heap.size + 3; omega) (.int .i64 (a0 / a1))).drew.cell
      have t3 := ((s3.other (a := ⟨w.heap.size + 2, 0, none⟩) (by show _ ≠ w.heap.size + 2; omega) (.int .i64 (a0 % a1))).set (.int .i64 (a0 / a1))).drew.cell
      have hb2 : Below w.heap.size w ((V.setCell ⟨w.heap.size + 2, 0, none⟩ (.int .i64 (a0 % a1))).setCell ⟨w.heap.size + 3, 0, none⟩ (.int .i64 (a0 / a1))).drew := ((hb1.setCell (by show _ ≤ w.heap.size + 2; omega) _).setCell (by show _ ≤ w.heap.size + 3; omega) _).drew
      go_wp2
      exact bodyPost_ret (v := .tuple #[.int .i64 (a0 % a1), .int .i64 (a0 / a1), .bool true]) (by simp [results, Try.results23, go_sem, t2, t3]) rfl ⟨rfl, hb2⟩
  · rw [if_neg hc] at h
    cases h
end Go.Proofs.Ythkblefeifdhaaa.H
