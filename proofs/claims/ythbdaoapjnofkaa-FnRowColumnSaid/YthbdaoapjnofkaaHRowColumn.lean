/- The row and the column of a place, and the place of these (impl.RowColumn, impl.Index over impl.caught): the contracts by which the law FnRowColumn takes them; of inputs at which the functions below are not told nothing is said. -/
import Derived.Test.YthbdaoapjnofkaaPTranslateIndexToPositionx2
import Derived.Test.YthbdaoapjnofkaaHCaught
import Derived.Test.YthbdaoapjnofkaaHRec
namespace Go.Proofs.Ythbdaoapjnofkaa.H
open Go.RowKit Go.Proofs.YthbdaoapjnofkaaW.PrintWords Go.Proofs.YthbdaoapjnofkaaW.PrintLast Go.Proofs.Ythbdaoapjnofkaa.PTranslateIndexToPosition
set_option linter.unusedVariables false
set_option linter.unusedSimpArgs false
attribute [local go_sem ↓] Go.wp_at_zero Go.wp_at_succ

def impl_RowColumn.f (k : Nat) (a0 : ByteArray) (a1 : Int) : Option (Int × Int × Bool) := (goprompt_Document_TranslateIndexToPosition.f k a0 0 a1).bind fun p => some (p.1, p.2.1, true)
theorem impl_RowColumn.mono : ∀ a0 a1 k, LeO (impl_RowColumn.f k a0 a1) (impl_RowColumn.f (k + 1) a0 a1) := by
  intro a0 a1 k
  unfold impl_RowColumn.f
  exact LeO.bind (goprompt_Document_TranslateIndexToPosition.mono _ _ _ k) fun s => LeO.refl _
def impl_Index.f (k : Nat) (a0 : ByteArray) (a1 a2 : Int) : Option (Int × Bool) := (goprompt_Document_TranslateRowColToIndex.f k a0 0 a1 a2).bind fun p => some (p.1, true)
theorem impl_Index.mono : ∀ a0 a1 a2 k, LeO (impl_Index.f k a0 a1 a2) (impl_Index.f (k + 1) a0 a1 a2) := by
  intro a0 a1 a2 k
  unfold impl_Index.f
  exact LeO.bind (goprompt_Document_TranslateRowColToIndex.mono _ _ _ _ k) fun s => LeO.refl _

set_option maxRecDepth 100000 in
set_option maxHeartbeats 4000000 in
theorem rowcol_closure (k : Nat) (b : Nat) (s s2 : ByteArray) (i x y r1 r2 r4 : Int) (W : World) (h : goprompt_Document_TranslateIndexToPosition.f k s 0 i = some (r1, r2, s2, r4)) (hsz : b + 3 < W.heap.size)
    (cp : W.cell? ⟨b, 0, none⟩ = some (.string s)) (cc : W.cell? ⟨b + 1, 0, none⟩ = some (.int .i64 i)) (cx : W.cell? ⟨b + 2, 0, none⟩ = some (.int .i64 x)) (cy : W.cell? ⟨b + 3, 0, none⟩ = some (.int .i64 y))
    (fx : W.frozen? ⟨b + 2, 0, none⟩ = false) (fy : W.frozen? ⟨b + 3, 0, none⟩ = false) :
    Calls Try.prog 28 #[.pointer (some ⟨b, 0, none⟩), .pointer (some ⟨b + 1, 0, none⟩), .pointer (some ⟨b + 2, 0, none⟩), .pointer (some ⟨b + 3, 0, none⟩)] W fun e W' =>
      e = .returned (.tuple #[]) ∧ ∃ w1, Below W.heap.size W w1 ∧ W' = (w1.setCell ⟨b + 2, 0, none⟩ (.int .i64 r1)).setCell ⟨b + 3, 0, none⟩ (.int .i64 r2) := by
  have HD := Lib.hid (fun (W1 : World) (hB1 : Below W.heap.size W W1) => goprompt_DocumentAt.calls s 0 s 0 W W1 hB1 rfl)
  have HT := Lib.hid (fun (g : Nat) (W1 : World) (hI : IsS83 W W1 g s 0) (hb : Below W.heap.size W W1) => goprompt_Document_TranslateIndexToPosition.calls k g s 0 i r1 r2 s2 r4 W W1 hI hb h)
  clear h
  go_enter Try.func28, Try.ntmps28
  go_wp2_with (fail)
  go_region_held3 (fun w' => w'.cell? ⟨b, 0, none⟩ = some (.string s) ∧ w'.cell? ⟨b + 1, 0, none⟩ = some (.int .i64 i)) (first | go_keep | (exact ⟨(hb1.cell (p := ⟨b, 0, none⟩) (by show b < W.heap.size; omega)).trans cp, (hb1.cell (p := ⟨b + 1, 0, none⟩) (by show b + 1 < W.heap.size; omega)).trans cc⟩) | (exact ⟨(hb2.cell (p := ⟨b, 0, none⟩) (by show b < W.heap.size; omega)).trans cp, (hb2.cell (p := ⟨b + 1, 0, none⟩) (by show b + 1 < W.heap.size; omega)).trans cc⟩))
    (first
      | (go_at_call 29; (with_reducible refine (HD.out _ ?hbb).mono ?_); (case hbb => first | exact Below.refl _ _ | exact pw_below_drewN (Below.refl _ _) _ | exact (Below.refl _ _).drew); rintro e w1 ⟨g, rfl, hI, hb1, _⟩)
      | (go_at_call 30; (with_reducible refine (HT.out g _ (by first | assumption | (constructor <;> simp_all [hI.1, hI.2])) (by first | assumption | exact pw_below_drewN hb1 _)).mono ?_); rintro e w2 ⟨rfl, hI2, hb2, _⟩; have cx1 : w2.cell? ⟨b + 2, 0, none⟩ = _ := (hb2.cell (p := ⟨b + 2, 0, none⟩) (by show b + 2 < W.heap.size; omega)).trans cx; have cy1 : w2.cell? ⟨b + 3, 0, none⟩ = _ := (hb2.cell (p := ⟨b + 3, 0, none⟩) (by show b + 3 < W.heap.size; omega)).trans cy; have fx1 : w2.frozen? ⟨b + 2, 0, none⟩ = _ := (hb2.frozen (p := ⟨b + 2, 0, none⟩) (by show b + 2 < W.heap.size; omega)).trans fx; have fy1 : w2.frozen? ⟨b + 3, 0, none⟩ = _ := (hb2.frozen (p := ⟨b + 3, 0, none⟩) (by show b + 3 < W.heap.size; omega)).trans fy))
  go_end0
  exact ⟨rfl, w2, hb2, rfl⟩

theorem enter28 (args : Array Value) (w : World) : (callFunc 28 args).run Try.prog w = .ok (.enter 28 args) w :=
  enters (P := Try.prog) Try.func28 (by kernel_rfl) rfl args w

set_option maxHeartbeats 1000000 in
theorem impl_RowColumn.calls (k : Nat) (a0 : ByteArray) (a1 r1 r2 : Int) (r3 : Bool) (w : World) (h : impl_RowColumn.f k a0 a1 = some (r1, r2, r3)) :
    Calls Try.prog 12 #[.string a0, .int .i64 a1] w fun e w' => e = .returned (.tuple #[.int .i64 r1, .int .i64 r2, .bool r3]) ∧ Below w.heap.size w w' := by
  unfold impl_RowColumn.f at h
  obtain ⟨⟨x, y, s2, r4⟩, hp, h⟩ := Option.bind_eq_some_iff.mp h
  have hq := Option.some.inj h
  simp only [Prod.mk.injEq] at hq
  obtain ⟨rfl, rfl, rfl⟩ := hq
  clear h
  have hmf : ∀ (fn : Fn) (first cap : Array Value) (w : World), (Instr.makeFunc fn first cap).run Try.prog w = .ok (.func fn first cap) w := fun _ _ _ _ => rfl
  go_enter Try.func12, Try.ntmps12
  go_wp2_with (fail)
  have o0 : One _ w.heap.size _ _ := (((One.new w (.string a0) 9).alloc (.cells #[.int .i64 a1] 3)).alloc (.cells #[.int .i64 0] 3)).alloc (.cells #[.int .i64 0] 3)
  have o1 := ((One.at_ (b := w.heap.size + 1) (w.alloc (.cells #[.string a0] 9)) (.int .i64 a1) 3 (by simp)).alloc (.cells #[.int .i64 0] 3)).alloc (.cells #[.int .i64 0] 3)
  have o2 := (One.at_ (b := w.heap.size + 2) ((w.alloc (.cells #[.string a0] 9)).alloc (.cells #[.int .i64 a1] 3)) (.int .i64 0) 3 (by simp)).alloc (.cells #[.int .i64 0] 3)
  have o3 := One.at_ (b := w.heap.size + 3) (((w.alloc (.cells #[.string a0] 9)).alloc (.cells #[.int .i64 a1] 3)).alloc (.cells #[.int .i64 0] 3)) (.int .i64 0) 3 (by simp)
  have b0 : Below w.heap.size w ((((w.alloc (.cells #[.string a0] 9)).alloc (.cells #[.int .i64 a1] 3)).alloc (.cells #[.int .i64 0] 3)).alloc (.cells #[.int .i64 0] 3)) := ((((Below.refl _ _).alloc (Nat.le_refl _) _).alloc (by simp) _).alloc (by simp; omega) _).alloc (by simp; omega) _
  have hs : ((((w.alloc (.cells #[.string a0] 9)).alloc (.cells #[.int .i64 a1] 3)).alloc (.cells #[.int .i64 0] 3)).alloc (.cells #[.int .i64 0] 3)).heap.size = w.heap.size + 4 := by simp
  generalize ((((w.alloc (.cells #[.string a0] 9)).alloc (.cells #[.int .i64 a1] 3)).alloc (.cells #[.int .i64 0] 3)).alloc (.cells #[.int .i64 0] 3)) = W at o0 o1 o2 o3 b0 hs ⊢
  refine (caught_calls 28 _ _ (fun w' => One w' (w.heap.size + 2) (.int .i64 x) 3 ∧ One w' (w.heap.size + 3) (.int .i64 y) 3 ∧ Below w.heap.size w w') enter28 ?_).mono ?_
  · have q0 := o0.alloc (.cells #[.bool false] 4)
    have q1 := o1.alloc (.cells #[.bool false] 4)
    have q2 := o2.alloc (.cells #[.bool false] 4)
    have q3 := o3.alloc (.cells #[.bool false] 4)
    have q4 := One.new W (.bool false) 4
    refine (rowcol_closure k w.heap.size a0 s2 a1 0 0 x y r4 _ hp (by simp; omega) q0.cell q1.cell q2.cell q3.cell q2.free q3.free).mono ?_
    rintro e w' ⟨rfl, w1, hb, rfl⟩
    have r2 := q2.stays hb
    have r3 := q3.stays hb
    have r4 := q4.stays hb
    refine ⟨rfl, (r4.other (by show _ ≠ w.heap.size + 2; omega) _).other (by show _ ≠ w.heap.size + 3; omega) _, (r2.set _).other (by show _ ≠ w.heap.size + 3; omega) _, (r3.other (by show _ ≠ w.heap.size + 2; omega) _).set _, ?_⟩
    exact ((Below.lower (b0.alloc (by omega) _) (by simp; omega) hb).setCell (by show _ ≤ w.heap.size + 2; omega) _).setCell (by show _ ≤ w.heap.size + 3; omega) _
  · rintro e w' ⟨rfl, w1, ⟨r2, r3, hb⟩, r4, rfl⟩
    have s2 := r2.other (a := ⟨W.heap.size, 0, none⟩) (by show _ ≠ W.heap.size; omega) (.bool true)
    have s3 := r3.other (a := ⟨W.heap.size, 0, none⟩) (by show _ ≠ W.heap.size; omega) (.bool true)
    have hb1 := hb.setCell (p := ⟨W.heap.size, 0, none⟩) (by show _ ≤ W.heap.size; omega) (.bool true)
    generalize w1.setCell ⟨W.heap.size, 0, none⟩ (.bool true) = V at s2 s3 hb1 ⊢
    clear r2 r3 r4 hb
    have c2 := s2.cell
    have c3 := s3.cell
    have f2 := s2.free
    have f3 := s3.free
    go_wp2
    go_region
    have t2 := ((s2.set (.int .i64 x)).other (a := ⟨w.heap.size + 3, 0, none⟩) (by show _ ≠ w.heap.size + 3; omega) (.int .i64 y)).drew.cell
    have t3 := ((s3.other (a := ⟨w.heap.size + 2, 0, none⟩) (by show _ ≠ w.heap.size + 2; omega) (.int .i64 x)).set (.int .i64 y)).drew.cell
    have hb2 : Below w.heap.size w ((V.setCell ⟨w.heap.size + 2, 0, none⟩ (.int .i64 x)).setCell ⟨w.heap.size + 3, 0, none⟩ (.int .i64 y)).drew := ((hb1.setCell (by show _ ≤ w.heap.size + 2; omega) _).setCell (by show _ ≤ w.heap.size + 3; omega) _).drew
    go_wp2
    exact bodyPost_ret (v := .tuple #[.int .i64 x, .int .i64 y, .bool true]) (by simp [results, Try.results12, go_sem, t2, t3]) rfl ⟨rfl, hb2⟩

set_option maxRecDepth 100000 in
set_option maxHeartbeats 4000000 in
theorem index_closure (k : Nat) (b : Nat) (s s2 : ByteArray) (i j x r1 r4 : Int) (W : World) (h : goprompt_Document_TranslateRowColToIndex.f k s 0 i j = some (r1, s2, r4)) (hsz : b + 3 < W.heap.size)
    (cp : W.cell? ⟨b, 0, none⟩ = some (.string s)) (cc : W.cell? ⟨b + 1, 0, none⟩ = some (.int .i64 i)) (cd : W.cell? ⟨b + 2, 0, none⟩ = some (.int .i64 j)) (cx : W.cell? ⟨b + 3, 0, none⟩ = some (.int .i64 x))
    (fx : W.frozen? ⟨b + 3, 0, none⟩ = false) :
    Calls Try.prog 31 #[.pointer (some ⟨b, 0, none⟩), .pointer (some ⟨b + 1, 0, none⟩), .pointer (some ⟨b + 2, 0, none⟩), .pointer (some ⟨b + 3, 0, none⟩)] W fun e W' =>
      e = .returned (.tuple #[]) ∧ ∃ w1, Below W.heap.size W w1 ∧ W' = w1.setCell ⟨b + 3, 0, none⟩ (.int .i64 r1) := by
  have HD := Lib.hid (fun (W1 : World) (hB1 : Below W.heap.size W W1) => goprompt_DocumentAt.calls s 0 s 0 W W1 hB1 rfl)
  have HT := Lib.hid (fun (g : Nat) (W1 : World) (hI : IsS83 W W1 g s 0) (hb : Below W.heap.size W W1) => goprompt_Document_TranslateRowColToIndex.calls k g s 0 i j r1 s2 r4 W W1 hI hb h)
  clear h
  go_enter Try.func31, Try.ntmps31
  go_wp2_with (fail)
  go_region_held3 (fun w' => w'.cell? ⟨b, 0, none⟩ = some (.string s) ∧ w'.cell? ⟨b + 1, 0, none⟩ = some (.int .i64 i) ∧ w'.cell? ⟨b + 2, 0, none⟩ = some (.int .i64 j)) (first | go_keep | (exact ⟨(hb1.cell (p := ⟨b, 0, none⟩) (by show b < W.heap.size; omega)).trans cp, (hb1.cell (p := ⟨b + 1, 0, none⟩) (by show b + 1 < W.heap.size; omega)).trans cc, (hb1.cell (p := ⟨b + 2, 0, none⟩) (by show b + 2 < W.heap.size; omega)).trans cd⟩) | (exact ⟨(hb2.cell (p := ⟨b, 0, none⟩) (by show b < W.heap.size; omega)).trans cp, (hb2.cell (p := ⟨b + 1, 0, none⟩) (by show b + 1 < W.heap.size; omega)).trans cc, (hb2.cell (p := ⟨b + 2, 0, none⟩) (by show b + 2 < W.heap.size; omega)).trans cd⟩))
    (first
      | (go_at_call 29; (with_reducible refine (HD.out _ ?hbb).mono ?_); (case hbb => first | exact Below.refl _ _ | exact pw_below_drewN (Below.refl _ _) _ | exact (Below.refl _ _).drew); rintro e w1 ⟨g, rfl, hI, hb1, _⟩)
      | (go_at_call 32; (with_reducible refine (HT.out g _ (by first | assumption | (constructor <;> simp_all [hI.1, hI.2])) (by first | assumption | exact pw_below_drewN hb1 _)).mono ?_); rintro e w2 ⟨rfl, hI2, hb2, _⟩; have cx1 : w2.cell? ⟨b + 3, 0, none⟩ = _ := (hb2.cell (p := ⟨b + 3, 0, none⟩) (by show b + 3 < W.heap.size; omega)).trans cx; have fx1 : w2.frozen? ⟨b + 3, 0, none⟩ = _ := (hb2.frozen (p := ⟨b + 3, 0, none⟩) (by show b + 3 < W.heap.size; omega)).trans fx))
  go_end0
  exact ⟨rfl, w2, hb2, rfl⟩

theorem enter31 (args : Array Value) (w : World) : (callFunc 31 args).run Try.prog w = .ok (.enter 31 args) w :=
  enters (P := Try.prog) Try.func31 (by kernel_rfl) rfl args w

set_option maxHeartbeats 1000000 in
theorem impl_Index.calls (k : Nat) (a0 : ByteArray) (a1 a2 r1 : Int) (r2 : Bool) (w : World) (h : impl_Index.f k a0 a1 a2 = some (r1, r2)) :
    Calls Try.prog 13 #[.string a0, .int .i64 a1, .int .i64 a2] w fun e w' => e = .returned (.tuple #[.int .i64 r1, .bool r2]) ∧ Below w.heap.size w w' := by
  unfold impl_Index.f at h
  obtain ⟨⟨x, s2, r4⟩, hp, h⟩ := Option.bind_eq_some_iff.mp h
  have hq := Option.some.inj h
  simp only [Prod.mk.injEq] at hq
  obtain ⟨rfl, rfl⟩ := hq
  clear h
  have hmf : ∀ (fn : Fn) (first cap : Array Value) (w : World), (Instr.makeFunc fn first cap).run Try.prog w = .ok (.func fn first cap) w := fun _ _ _ _ => rfl
  go_enter Try.func13, Try.ntmps13
  go_wp2_with (fail)
  have o0 : One _ w.heap.size _ _ := (((One.new w (.string a0) 9).alloc (.cells #[.int .i64 a1] 3)).alloc (.cells #[.int .i64 a2] 3)).alloc (.cells #[.int .i64 0] 3)
  have o1 := ((One.at_ (b := w.heap.size + 1) (w.alloc (.cells #[.string a0] 9)) (.int .i64 a1) 3 (by simp)).alloc (.cells #[.int .i64 a2] 3)).alloc (.cells #[.int .i64 0] 3)
  have o2 := (One.at_ (b := w.heap.size + 2) ((w.alloc (.cells #[.string a0] 9)).alloc (.cells #[.int .i64 a1] 3)) (.int .i64 a2) 3 (by simp)).alloc (.cells #[.int .i64 0] 3)
  have o3 := One.at_ (b := w.heap.size + 3) (((w.alloc (.cells #[.string a0] 9)).alloc (.cells #[.int .i64 a1] 3)).alloc (.cells #[.int .i64 a2] 3)) (.int .i64 0) 3 (by simp)
  have b0 : Below w.heap.size w ((((w.alloc (.cells #[.string a0] 9)).alloc (.cells #[.int .i64 a1] 3)).alloc (.cells #[.int .i64 a2] 3)).alloc (.cells #[.int .i64 0] 3)) := ((((Below.refl _ _).alloc (Nat.le_refl _) _).alloc (by simp) _).alloc (by simp; omega) _).alloc (by simp; omega) _
  have hs : ((((w.alloc (.cells #[.string a0] 9)).alloc (.cells #[.int .i64 a1] 3)).alloc (.cells #[.int .i64 a2] 3)).alloc (.cells #[.int .i64 0] 3)).heap.size = w.heap.size + 4 := by simp
  generalize ((((w.alloc (.cells #[.string a0] 9)).alloc (.cells #[.int .i64 a1] 3)).alloc (.cells #[.int .i64 a2] 3)).alloc (.cells #[.int .i64 0] 3)) = W at o0 o1 o2 o3 b0 hs ⊢
  refine (caught_calls 31 _ _ (fun w' => One w' (w.heap.size + 3) (.int .i64 x) 3 ∧ Below w.heap.size w w') enter31 ?_).mono ?_
  · have q0 := o0.alloc (.cells #[.bool false] 4)
    have q1 := o1.alloc (.cells #[.bool false] 4)
    have q2 := o2.alloc (.cells #[.bool false] 4)
    have q3 := o3.alloc (.cells #[.bool false] 4)
    have q4 := One.new W (.bool false) 4
    refine (index_closure k w.heap.size a0 s2 a1 a2 0 x r4 _ hp (by simp; omega) q0.cell q1.cell q2.cell q3.cell q3.free).mono ?_
    rintro e w' ⟨rfl, w1, hb, rfl⟩
    have r3 := q3.stays hb
    have r4 := q4.stays hb
    refine ⟨rfl, r4.other (by show _ ≠ w.heap.size + 3; omega) _, r3.set _, ?_⟩
    exact (Below.lower (b0.alloc (by omega) _) (by simp; omega) hb).setCell (by show _ ≤ w.heap.size + 3; omega) _
  · rintro e w' ⟨rfl, w1, ⟨r3, hb⟩, r4, rfl⟩
    have s3 := r3.other (a := ⟨W.heap.size, 0, none⟩) (by show _ ≠ W.heap.size; omega) (.bool true)
    have hb1 := hb.setCell (p := ⟨W.heap.size, 0, none⟩) (by show _ ≤ W.heap.size; omega) (.bool true)
    generalize w1.setCell ⟨W.heap.size, 0, none⟩ (.bool true) = V at s3 hb1 ⊢
    clear r3 r4 hb
    have c3 := s3.cell
    have f3 := s3.free
    go_wp2
    have t3 := (s3.set (.int .i64 x)).cell
    have hb2 : Below w.heap.size w (V.setCell ⟨w.heap.size + 3, 0, none⟩ (.int .i64 x)) := (hb1.setCell (by show _ ≤ w.heap.size + 3; omega) _)
    exact bodyPost_ret (v := .tuple #[.int .i64 x, .bool true]) (by simp [results, Try.results13, go_sem, t3]) rfl ⟨rfl, hb2⟩
end Go.Proofs.Ythbdaoapjnofkaa.H
