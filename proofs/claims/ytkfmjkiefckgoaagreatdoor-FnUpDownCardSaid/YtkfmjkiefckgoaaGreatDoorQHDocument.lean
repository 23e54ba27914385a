/- A document and whether its cursor is one of its text (impl.document): the contract by which the printed walks take it, for cursors in the text; of others nothing is said. -/
import Derived.Test.YtkfmjkiefckgoaaGreatDoorQPAroundOfx0
import Derived.Test.YtkfmjkiefckgoaaGreatDoorQPDocumentAtx1
import Derived.Test.YtkfmjkiefckgoaaGreatDoorQHRec
namespace Go.Proofs.YtkfmjkiefckgoaaGreatDoor.H
open Go.RowKit Go.Proofs.YtkfmjkiefckgoaaGreatDoorW.PrintWords Go.Proofs.YtkfmjkiefckgoaaGreatDoorW.PrintLast Go.Proofs.YtkfmjkiefckgoaaGreatDoor.R Go.Proofs.YtkfmjkiefckgoaaGreatDoor.PAroundOf
set_option linter.unusedVariables false
set_option linter.unusedSimpArgs false
set_option maxRecDepth 100000 in
set_option maxHeartbeats 4000000 in
theorem document_calls (s : ByteArray) (at_ : Int) (w : World) (h0 : 0 ≤ at_) (h1 : at_ ≤ (runesOf s).length) (hs : s.size ≤ 1000000) :
    Calls Tryz.prog 22 #[.agg #[.string s, .int .i64 at_]] w fun e w' => ∃ g : Nat, e = .returned (.tuple #[.pointer (some ⟨g, 0, none⟩), .bool true]) ∧ IsS67 w w' g s at_ ∧ Below w.heap.size w w' := by
  have hcv := fun W => runes_run (P := Tryz.prog) W 9 58 21 s (by kernel_rfl) (by kernel_rfl) (by kernel_rfl) (by omega)
  have hlen := runesOf_length s
  generalize runesOf s = l at *
  have bx := Rec.new w [.string s, .int .i64 at_] 23
  have hB := (Below.refl w.heap.size w).alloc (Nat.le_refl _) (.cells #[.string s, .int .i64 at_] 23)
  go_enter Tryz.func22, Tryz.ntmps22
  go_wp2
  generalize hb : w.heap.size = b at *
  generalize w.alloc (.cells #[.string s, .int .i64 at_] 23) = W at *
  have k0 := bx.cell 0 rfl
  have k1 := bx.cell 1 rfl
  have hbl := bx.lt
  have HD := Lib.hid (fun (W1 : World) (hB1 : Below W.heap.size W W1) => PDocumentAt.goprompt_DocumentAt.calls s at_ s at_ W W1 hB1 rfl)
  refine wp_region_noPanic ?_
  refine wp_region_held_drew (S := fun w' => w'.cell? ⟨b, 0, none⟩ = some (.string s) ∧ w'.cell? ⟨b, 1, none⟩ = some (.int .i64 at_)) (by kernel_rfl) ⟨k0, k1⟩ (fun hHeld => ?_)
  refine wpAnyH_take (i := 0) (v := ?v0) (by simp only [List.getElem?_toArray, List.getElem?_cons_succ, List.getElem?_cons_zero]; rfl) (by kernel_rfl) (by kernel_rfl) (by kernel_rfl) (fun _ _ _ h => h) (Or.inl ⟨by rfl, ?h0⟩) (by assumption) ?_
  case h0 => (intro w hSw; (try dsimp only at hSw); go_simp; try with_reducible rfl)
  try simp only [Act.put, List.setIfInBounds_toArray, List.set_cons_zero, List.set_cons_succ]
  refine wpAnyH_take (i := 1) (v := ?v1) (by simp only [List.getElem?_toArray, List.getElem?_cons_succ, List.getElem?_cons_zero]; rfl) (by kernel_rfl) (by kernel_rfl) (by kernel_rfl) (fun _ _ _ h => h) (Or.inl ⟨by rfl, ?h1⟩) (by assumption) ?_
  case h1 => (intro w hSw; (try dsimp only at hSw); go_simp; try with_reducible rfl)
  try simp only [Act.put, List.setIfInBounds_toArray, List.set_cons_zero, List.set_cons_succ]
  refine wpAnyH_take (i := 2) (v := ?v2) (by simp only [List.getElem?_toArray, List.getElem?_cons_succ, List.getElem?_cons_zero]; rfl) (by kernel_rfl) (by kernel_rfl) (by kernel_rfl) (fun _ _ _ h => h) (Or.inl ⟨by rfl, ?h2⟩) (by assumption) ?_
  case h2 => (intro w hSw; (try dsimp only at hSw); go_simp; try with_reducible rfl)
  try simp only [Act.put, List.setIfInBounds_toArray, List.set_cons_zero, List.set_cons_succ]
  refine wpAnyH_take (i := 3) (v := ?v3) (by simp only [List.getElem?_toArray, List.getElem?_cons_succ, List.getElem?_cons_zero]; rfl) (by kernel_rfl) (by kernel_rfl) (by kernel_rfl) (fun _ _ _ h => h) (Or.inl ⟨by rfl, ?h3⟩) (by assumption) ?_
  case h3 => (intro w hSw; (try dsimp only at hSw); go_simp; try with_reducible rfl)
  try simp only [Act.put, List.setIfInBounds_toArray, List.set_cons_zero, List.set_cons_succ]
  refine wpAnyH_take (i := 5) (v := ?v5) (by simp only [List.getElem?_toArray, List.getElem?_cons_succ, List.getElem?_cons_zero]; rfl) (by kernel_rfl) (by kernel_rfl) (by kernel_rfl) (fun _ _ _ h => h) (Or.inl ⟨by rfl, ?h5⟩) (by assumption) ?_
  case h5 => (intro w hSw; (try dsimp only at hSw); go_simp; try with_reducible rfl)
  try simp only [Act.put, List.setIfInBounds_toArray, List.set_cons_zero, List.set_cons_succ]
  refine wpAnyH_take (i := 6) (v := ?v6) (by simp only [List.getElem?_toArray, List.getElem?_cons_succ, List.getElem?_cons_zero]; rfl) (by kernel_rfl) (by kernel_rfl) (by kernel_rfl) (fun _ _ _ h => h) (Or.inl ⟨by rfl, ?h6⟩) (by assumption) ?_
  case h6 => (intro w hSw; (try dsimp only at hSw); go_simp; try with_reducible rfl)
  try simp only [Act.put, List.setIfInBounds_toArray, List.set_cons_zero, List.set_cons_succ]
  refine wpAnyH_take (i := 7) (v := ?v7) (by simp only [List.getElem?_toArray, List.getElem?_cons_succ, List.getElem?_cons_zero]; rfl) (by kernel_rfl) (by kernel_rfl) (by kernel_rfl) (fun _ _ _ h => h) (Or.inl ⟨by rfl, ?h7⟩) (by assumption) ?_
  case h7 => (intro w hSw; (try dsimp only at hSw); go_simp; try with_reducible rfl)
  try simp only [Act.put, List.setIfInBounds_toArray, List.set_cons_zero, List.set_cons_succ]
  refine wpAnyH_ready (rs := [4]) (by kernel_rfl) (by simp) ?_
  refine AllReadyH.cons (o := _) rfl (fun K hK => ?_) AllReadyH.nil
  go_simp
  refine (HD.out _ (pw_below_drewN (Below.refl _ _) 1)).mono ?_
  rintro e w1 ⟨g, rfl, hI, hb2, hb3⟩
  have q0 : w1.cell? ⟨b, 0, none⟩ = some (.string s) := (hb2.cell (p := ⟨b, 0, none⟩) (by show b < W.heap.size; omega)).trans k0
  have q1 : w1.cell? ⟨b, 1, none⟩ = some (.int .i64 at_) := (hb2.cell (p := ⟨b, 1, none⟩) (by show b < W.heap.size; omega)).trans k1
  refine hK.out _ _ ⟨q0, q1⟩ (fun hHeld2 => ?_)
  clear hK K hHeld
  try simp only [Act.put, List.setIfInBounds_toArray, List.set_cons_zero, List.set_cons_succ]
  refine wpAnyH_take (i := 8) (v := ?v8) (by simp only [List.getElem?_toArray, List.getElem?_cons_succ, List.getElem?_cons_zero]; rfl) (by kernel_rfl) (by kernel_rfl) (by kernel_rfl) (fun _ _ _ h => h) (Or.inl ⟨by rfl, ?h8⟩) (by assumption) ?_
  case h8 => (intro w hSw; (try dsimp only at hSw); go_simp; try with_reducible rfl)
  try simp only [Act.put, List.setIfInBounds_toArray, List.set_cons_zero, List.set_cons_succ]
  refine wpAnyH_take (i := 9) (v := ?v9) (by simp only [List.getElem?_toArray, List.getElem?_cons_succ, List.getElem?_cons_zero]; rfl) (by kernel_rfl) (by kernel_rfl) (by kernel_rfl) (fun _ _ _ h => h) (Or.inl ⟨by rfl, ?h9⟩) (by assumption) ?_
  case h9 => (intro w hSw; (try dsimp only at hSw); go_simp; try with_reducible rfl)
  try simp only [Act.put, List.setIfInBounds_toArray, List.set_cons_zero, List.set_cons_succ]
  refine wpAnyH_take (i := 10) (v := ?v10) (by simp only [List.getElem?_toArray, List.getElem?_cons_succ, List.getElem?_cons_zero]; rfl) (by kernel_rfl) (by kernel_rfl) (by kernel_rfl) (fun _ _ _ h => h) (Or.inl ⟨by rfl, ?h10⟩) (by assumption) ?_
  case h10 => (intro w hSw; (try dsimp only at hSw); go_simp; try with_reducible rfl)
  try simp only [Act.put, List.setIfInBounds_toArray, List.set_cons_zero, List.set_cons_succ]
  refine wpAnyH_take (i := 11) (v := ?v11) (by simp only [List.getElem?_toArray, List.getElem?_cons_succ, List.getElem?_cons_zero]; rfl) (by kernel_rfl) (by kernel_rfl) (by kernel_rfl) (fun _ _ _ h => h) (Or.inl ⟨by rfl, ?h11⟩) (by assumption) ?_
  case h11 => (intro w hSw; (try dsimp only at hSw); go_simp; try with_reducible rfl)
  try simp only [Act.put, List.setIfInBounds_toArray, List.set_cons_zero, List.set_cons_succ]
  refine wpAnyH_take (i := 12) (v := ?v12) (by simp only [List.getElem?_toArray, List.getElem?_cons_succ, List.getElem?_cons_zero]; rfl) (by kernel_rfl) (by kernel_rfl) (by kernel_rfl) (fun _ _ _ h => h) (Or.inl ⟨by rfl, ?h12⟩) (by assumption) ?_
  case h12 => (intro w hSw; (try dsimp only at hSw); go_simp; try with_reducible rfl)
  try simp only [Act.put, List.setIfInBounds_toArray, List.set_cons_zero, List.set_cons_succ]
  refine wpAnyH_take (i := 17) (v := ?v17) (by simp only [List.getElem?_toArray, List.getElem?_cons_succ, List.getElem?_cons_zero]; rfl) (by kernel_rfl) (by kernel_rfl) (by kernel_rfl) (fun _ _ _ h => h) (Or.inl ⟨by rfl, ?h17⟩) (by assumption) ?_
  case h17 => (intro w hSw; (try dsimp only at hSw); go_simp; try with_reducible rfl)
  try simp only [Act.put, List.setIfInBounds_toArray, List.set_cons_zero, List.set_cons_succ]
  refine wpAnyH_ready (rs := [13]) (by kernel_rfl) (by simp) ?_
  refine AllReadyH.cons (o := _) rfl (fun K hK => ?_) AllReadyH.nil
  go_simp
  have hb4 : Below W.heap.size W (w1.drew.alloc (.cells (runeCells l (grownCap w1 l.length 0 21)).toArray 21)) := hb2.drew.alloc hb2.size _
  refine hK.out _ _ ⟨(hb4.cell (p := ⟨b, 0, none⟩) (by show b < W.heap.size; omega)).trans k0, (hb4.cell (p := ⟨b, 1, none⟩) (by show b < W.heap.size; omega)).trans k1⟩ (fun hHeld3 => ?_)
  clear hK K hHeld2
  try simp only [Act.put, List.setIfInBounds_toArray, List.set_cons_zero, List.set_cons_succ]
  refine wpAnyH_take (i := 14) (v := ?v14) (by simp only [List.getElem?_toArray, List.getElem?_cons_succ, List.getElem?_cons_zero]; rfl) (by kernel_rfl) (by kernel_rfl) (by kernel_rfl) (fun _ _ _ h => h) (Or.inl ⟨by rfl, ?h14⟩) (by assumption) ?_
  case h14 => (intro w hSw; (try dsimp only at hSw); go_simp; try with_reducible rfl)
  try simp only [Act.put, List.setIfInBounds_toArray, List.set_cons_zero, List.set_cons_succ]
  refine wpAnyH_take (i := 15) (v := ?v15) (by simp only [List.getElem?_toArray, List.getElem?_cons_succ, List.getElem?_cons_zero]; rfl) (by kernel_rfl) (by kernel_rfl) (by kernel_rfl) (fun _ _ _ h => h) (Or.inl ⟨by rfl, ?h15⟩) (by assumption) ?_
  case h15 => (intro w hSw; (try dsimp only at hSw); go_simp; try with_reducible rfl)
  try simp only [Act.put, List.setIfInBounds_toArray, List.set_cons_zero, List.set_cons_succ]
  refine wpAnyH_take (i := 16) (v := ?v16) (by simp only [List.getElem?_toArray, List.getElem?_cons_succ, List.getElem?_cons_zero]; rfl) (by kernel_rfl) (by kernel_rfl) (by kernel_rfl) (fun _ _ _ h => h) (Or.inl ⟨by rfl, ?h16⟩) (by assumption) ?_
  case h16 => (intro w hSw; (try dsimp only at hSw); go_simp; try with_reducible rfl)
  try simp only [Act.put, List.setIfInBounds_toArray, List.set_cons_zero, List.set_cons_succ]
  refine wpAnyH_take (i := 18) (v := ?v18) (by simp only [List.getElem?_toArray, List.getElem?_cons_succ, List.getElem?_cons_zero]; rfl) (by kernel_rfl) (by kernel_rfl) (by kernel_rfl) (fun _ _ _ h => h) (Or.inl ⟨by rfl, ?h18⟩) (by assumption) ?_
  case h18 => (intro w hSw; (try dsimp only at hSw); go_simp; try with_reducible rfl)
  try simp only [Act.put, List.setIfInBounds_toArray, List.set_cons_zero, List.set_cons_succ]
  refine wpAnyH_done (by kernel_rfl) ?_ _
  refine NoPanic.normal ?_
  have hI2 : IsS67 w (w1.alloc (.cells (runeCells l (grownCap w1 l.length 0 21)).toArray 21)).drew g s at_ := ⟨(hI.alloc _).1, by have := hI.2; have := hB.size; omega⟩
  have hB2 : Below w.heap.size w (w1.alloc (.cells (runeCells l (grownCap w1 l.length 0 21)).toArray 21)).drew := by
    rw [hb]
    exact ((hB.trans (hb2.mono (by omega))).alloc (by have := hb2.size; omega) _).drew
  go_wp2
  go_ret2
  exact ⟨g, rfl, hI2, hB2⟩
def impl_document.f (a0 : ByteArray) (a1 : Int) : Option (ByteArray × Int × Bool) := if 0 ≤ a1 ∧ a1 ≤ (runesOf a0).length ∧ a0.size ≤ 1000000 then some (a0, a1, true) else none
theorem impl_document.calls (a0 : ByteArray) (a1 : Int) (r1 : ByteArray) (r2 : Int) (r3 : Bool) (w0 w : World) (hB : Below w0.heap.size w0 w) (h : impl_document.f a0 a1 = some (r1, r2, r3)) :
    Calls Tryz.prog 22 #[.agg #[.string a0, .int .i64 a1]] w fun e w' => ∃ g_ : Nat, e = .returned (.tuple #[.pointer (some ⟨g_, 0, none⟩), .bool r3]) ∧ IsS67 w0 w' g_ r1 r2 ∧ Below w0.heap.size w0 w' ∧ Below w.heap.size w w' := by
  unfold impl_document.f at h
  by_cases hc : 0 ≤ a1 ∧ a1 ≤ (runesOf a0).length ∧ a0.size ≤ 1000000
  · rw [if_pos hc] at h
    have hq := Option.some.inj h
    simp only [Prod.mk.injEq] at hq
    obtain ⟨rfl, rfl, rfl⟩ := hq
    have hs := hB.size
    refine (document_calls a0 a1 w hc.1 hc.2.1 hc.2.2).mono ?_
    rintro e w' ⟨g, rfl, hI, hb⟩
    exact ⟨g, rfl, ⟨hI.1, by have := hI.2; omega⟩, hB.trans (hb.mono hs), hb⟩
  · rw [if_neg hc] at h
    cases h
end Go.Proofs.YtkfmjkiefckgoaaGreatDoor.H
