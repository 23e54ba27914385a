/- Where words begin and end around a cursor (impl.WordPlaces): the contract by which the law FnWordPlaces takes it, for cursors in the text; of others nothing is said. -/
import Derived.Test.YthkblefeifdhaaaPWordPlacesx1
import Derived.Test.YthkblefeifdhaaaHRec
namespace Go.Proofs.Ythkblefeifdhaaa.H
open Go.RowKit Go.Proofs.YthkblefeifdhaaaW.PrintWords Go.Proofs.YthkblefeifdhaaaW.PrintLast Go.Proofs.Ythkblefeifdhaaa.R Go.Proofs.Ythkblefeifdhaaa.PWordPlaces
set_option linter.unusedVariables false
set_option linter.unusedSimpArgs false

set_option maxRecDepth 100000 in
set_option maxHeartbeats 4000000 in
theorem document_calls (s : ByteArray) (at_ : Int) (w : World) (h0 : 0 ≤ at_) (h1 : at_ ≤ (runesOf s).length) (hs : s.size ≤ 1000000) :
    Calls Try.prog 62 #[.agg #[.string s, .int .i64 at_]] w fun e w' => ∃ g : Nat, e = .returned (.tuple #[.pointer (some ⟨g, 0, none⟩), .bool true]) ∧ IsS127 w w' g s at_ ∧ Below w.heap.size w w' := by
  have hcv := fun W => runes_run (P := Try.prog) W 9 85 21 s (by kernel_rfl) (by kernel_rfl) (by kernel_rfl) (by omega)
  have hlen := runesOf_length s
  generalize runesOf s = l at *
  have bx := Rec.new w [.string s, .int .i64 at_] 57
  have hB := (Below.refl w.heap.size w).alloc (Nat.le_refl _) (.cells #[.string s, .int .i64 at_] 57)
  go_enter Try.func62, Try.ntmps62
  go_wp2
  generalize hb : w.heap.size = b at *
  generalize w.alloc (.cells #[.string s, .int .i64 at_] 57) = W at *
  have k0 := bx.cell 0 rfl
  have k1 := bx.cell 1 rfl
  have hbl := bx.lt
  have HD := Lib.hid (fun (W1 : World) (hB1 : Below W.heap.size W W1) => goprompt_DocumentAt.calls s at_ s at_ W W1 hB1 rfl)
  refine wp_region_noPanic ?_
  refine wp_region_held_drew (S := fun w' => w'.cell? ⟨b, 0, none⟩ = some (.string s) ∧ w'.cell? ⟨b, 1, none⟩ = some (.int .i64 at_)) (by kernel_rfl) ⟨k0, k1⟩ (fun hHeld => ?_)
  refine wpAnyH_take (i := 0) (v := ?v0) (by simp only [List.getElem?_toArray, List.getElem?_cons_succ, List.getElem?_cons_zero]; rfl) (by kernel_rfl) (by kernel_rfl) (by kernel_rfl) (fun _ _ _ h => h) (Or.inl ⟨by rfl, ?h0⟩) (by assumption) ?_
  case h0 => (intro w hSw; (try dsimp only at hSw); go_simp; try with_reducible rfl)
  try simp only [Act.put, List.setIfInBounds_toArray, List.set_cons_zero, List.set_cons_succ]
  refine wpAnyH_take (i := 1) (v := ?v1) (by simp only [List.getElem?_toArray, List.getElem?_cons_succ, List.getElem?_cons_zero]; rfl) (by kernel_rfl) (by kernel_rfl) (by kernel_rfl) (fun _ _ _ h => h) (Or.inl ⟨by rfl, ?h1⟩) (by assumption) ?_
  case h1 => (intro w hSw; (try dsimp only at hSw); go_simp; try with_reducible rfl)
  try simp only [Act.put, List.setIfInBounds_toArray, List.set_cons_zero, List.set_cons_succ]
  refine wpAnyH_take (i := 2) (v := ?v2) (by simp only [List.getElem?_toArray, List.getElem?_cons_succ, List.getElem?_cons_zero]; rfl) (by kernel_rfl) (by kernel_rfl) (by kernel_rfl) (fun _ _ _ h => h) (Or.inl ⟨by rfl, ?h2⟩) (by assumption) ?_
  case h2 => (intro w hSw; (try dsimp only at hSw); go_simp; try with_reducible rfl)
  try simp only [Act.put, List.setIfInBounds_toArray, List.set_cons_zero, List.set_cons_succ]
  refine wpAnyH_take (i := 3) (v := ?v3) (by simp only [List.getElem?_toArray, List.getElem?_cons_succ, List.getElem?_cons_zero]; rfl) (by kernel_rfl) (by kernel_rfl) (by kernel_rfl) (fun _ _ _ h => h) (Or.inl ⟨by rfl, ?h3⟩) (by assumption) ?_
  case h3 => (intro w hSw; (try dsimp only at hSw); go_simp; try with_reducible rfl)
  try simp only [Act.put, List.setIfInBounds_toArray, List.set_cons_zero, List.set_cons_succ]
  refine wpAnyH_take (i := 5) (v := ?v5) (by simp only [List.getElem?_toArray, List.getElem?_cons_succ, List.getElem?_cons_zero]; rfl) (by kernel_rfl) (by kernel_rfl) (by kernel_rfl) (fun _ _ _ h => h) (Or.inl ⟨by rfl, ?h5⟩) (by assumption) ?_
  case h5 => (intro w hSw; (try dsimp only at hSw); go_simp; try with_reducible rfl)
  try simp only [Act.put, List.setIfInBounds_toArray, List.set_cons_zero, List.set_cons_succ]
  refine wpAnyH_take (i := 6) (v := ?v6) (by simp only [List.getElem?_toArray, List.getElem?_cons_succ, List.getElem?_cons_zero]; rfl) (by kernel_rfl) (by kernel_rfl) (by kernel_rfl) (fun _ _ _ h => h) (Or.inl ⟨by rfl, ?h6⟩) (by assumption) ?_
  case h6 => (intro w hSw; (try dsimp only at hSw); go_simp; try with_reducible rfl)
  try simp only [Act.put, List.setIfInBounds_toArray, List.set_cons_zero, List.set_cons_succ]
  refine wpAnyH_take (i := 7) (v := ?v7) (by simp only [List.getElem?_toArray, List.getElem?_cons_succ, List.getElem?_cons_zero]; rfl) (by kernel_rfl) (by kernel_rfl) (by kernel_rfl) (fun _ _ _ h => h) (Or.inl ⟨by rfl, ?h7⟩) (by assumption) ?_
  case h7 => (intro w hSw; (try dsimp only at hSw); go_simp; try with_reducible rfl)
  try simp only [Act.put, List.setIfInBounds_toArray, List.set_cons_zero, List.set_cons_succ]
  refine wpAnyH_ready (rs := [4]) (by kernel_rfl) (by simp) ?_
  refine AllReadyH.cons (o := _) rfl (fun K hK => ?_) AllReadyH.nil
  go_simp
  refine (HD.out _ (pw_below_drewN (Below.refl _ _) 1)).mono ?_
  rintro e w1 ⟨g, rfl, hI, hb2, hb3⟩
  have q0 : w1.cell? ⟨b, 0, none⟩ = some (.string s) := (hb2.cell (p := ⟨b, 0, none⟩) (by show b < W.heap.size; omega)).trans k0
  have q1 : w1.cell? ⟨b, 1, none⟩ = some (.int .i64 at_) := (hb2.cell (p := ⟨b, 1, none⟩) (by show b < W.heap.size; omega)).trans k1
  refine hK.out _ _ ⟨q0, q1⟩ (fun hHeld2 => ?_)
  clear hK K hHeld
  try simp only [Act.put, List.setIfInBounds_toArray, List.set_cons_zero, List.set_cons_succ]
  refine wpAnyH_take (i := 8) (v := ?v8) (by simp only [List.getElem?_toArray, List.getElem?_cons_succ, List.getElem?_cons_zero]; rfl) (by kernel_rfl) (by kernel_rfl) (by kernel_rfl) (fun _ _ _ h => h) (Or.inl ⟨by rfl, ?h8⟩) (by assumption) ?_
  case h8 => (intro w hSw; (try dsimp only at hSw); go_simp; try with_reducible rfl)
  try simp only [Act.put, List.setIfInBounds_toArray, List.set_cons_zero, List.set_cons_succ]
  refine wpAnyH_take (i := 9) (v := ?v9) (by simp only [List.getElem?_toArray, List.getElem?_cons_succ, List.getElem?_cons_zero]; rfl) (by kernel_rfl) (by kernel_rfl) (by kernel_rfl) (fun _ _ _ h => h) (Or.inl ⟨by rfl, ?h9⟩) (by assumption) ?_
  case h9 => (intro w hSw; (try dsimp only at hSw); go_simp; try with_reducible rfl)
  try simp only [Act.put, List.setIfInBounds_toArray, List.set_cons_zero, List.set_cons_succ]
  refine wpAnyH_take (i := 10) (v := ?v10) (by simp only [List.getElem?_toArray, List.getElem?_cons_succ, List.getElem?_cons_zero]; rfl) (by kernel_rfl) (by kernel_rfl) (by kernel_rfl) (fun _ _ _ h => h) (Or.inl ⟨by rfl, ?h10⟩) (by assumption) ?_
  case h10 => (intro w hSw; (try dsimp only at hSw); go_simp; try with_reducible rfl)
  try simp only [Act.put, List.setIfInBounds_toArray, List.set_cons_zero, List.set_cons_succ]
  refine wpAnyH_take (i := 11) (v := ?v11) (by simp only [List.getElem?_toArray, List.getElem?_cons_succ, List.getElem?_cons_zero]; rfl) (by kernel_rfl) (by kernel_rfl) (by kernel_rfl) (fun _ _ _ h => h) (Or.inl ⟨by rfl, ?h11⟩) (by assumption) ?_
  case h11 => (intro w hSw; (try dsimp only at hSw); go_simp; try with_reducible rfl)
  try simp only [Act.put, List.setIfInBounds_toArray, List.set_cons_zero, List.set_cons_succ]
  refine wpAnyH_take (i := 12) (v := ?v12) (by simp only [List.getElem?_toArray, List.getElem?_cons_succ, List.getElem?_cons_zero]; rfl) (by kernel_rfl) (by kernel_rfl) (by kernel_rfl) (fun _ _ _ h => h) (Or.inl ⟨by rfl, ?h12⟩) (by assumption) ?_
  case h12 => (intro w hSw; (try dsimp only at hSw); go_simp; try with_reducible rfl)
  try simp only [Act.put, List.setIfInBounds_toArray, List.set_cons_zero, List.set_cons_succ]
  refine wpAnyH_take (i := 17) (v := ?v17) (by simp only [List.getElem?_toArray, List.getElem?_cons_succ, List.getElem?_cons_zero]; rfl) (by kernel_rfl) (by kernel_rfl) (by kernel_rfl) (fun _ _ _ h => h) (Or.inl ⟨by rfl, ?h17⟩) (by assumption) ?_
  case h17 => (intro w hSw; (try dsimp only at hSw); go_simp; try with_reducible rfl)
  try simp only [Act.put, List.setIfInBounds_toArray, List.set_cons_zero, List.set_cons_succ]
  refine wpAnyH_ready (rs := [13]) (by kernel_rfl) (by simp) ?_
  refine AllReadyH.cons (o := _) rfl (fun K hK => ?_) AllReadyH.nil
  go_simp
  have hb4 : Below W.heap.size W (w1.drew.alloc (.cells (runeCells l (grownCap w1 l.length 0 21)).toArray 21)) := hb2.drew.alloc hb2.size _
  refine hK.out _ _ ⟨(hb4.cell (p := ⟨b, 0, none⟩) (by show b < W.heap.size; omega)).trans k0, (hb4.cell (p := ⟨b, 1, none⟩) (by show b < W.heap.size; omega)).trans k1⟩ (fun hHeld3 => ?_)
  clear hK K hHeld2
  try simp only [Act.put, List.setIfInBounds_toArray, List.set_cons_zero, List.set_cons_succ]
  refine wpAnyH_take (i := 14) (v := ?v14) (by simp only [List.getElem?_toArray, List.getElem?_cons_succ, List.getElem?_cons_zero]; rfl) (by kernel_rfl) (by kernel_rfl) (by kernel_rfl) (fun _ _ _ h => h) (Or.inl ⟨by rfl, ?h14⟩) (by assumption) ?_
  case h14 => (intro w hSw; (try dsimp only at hSw); go_simp; try with_reducible rfl)
  try simp only [Act.put, List.setIfInBounds_toArray, List.set_cons_zero, List.set_cons_succ]
  refine wpAnyH_take (i := 15) (v := ?v15) (by simp only [List.getElem?_toArray, List.getElem?_cons_succ, List.getElem?_cons_zero]; rfl) (by kernel_rfl) (by kernel_rfl) (by kernel_rfl) (fun _ _ _ h => h) (Or.inl ⟨by rfl, ?h15⟩) (by assumption) ?_
  case h15 => (intro w hSw; (try dsimp only at hSw); go_simp; try with_reducible rfl)
  try simp only [Act.put, List.setIfInBounds_toArray, List.set_cons_zero, List.set_cons_succ]
  refine wpAnyH_take (i := 16) (v := ?v16) (by simp only [List.getElem?_toArray, List.getElem?_cons_succ, List.getElem?_cons_zero]; rfl) (by kernel_rfl) (by kernel_rfl) (by kernel_rfl) (fun _ _ _ h => h) (Or.inl ⟨by rfl, ?h16⟩) (by assumption) ?_
  case h16 => (intro w hSw; (try dsimp only at hSw); go_simp; try with_reducible rfl)
  try simp only [Act.put, List.setIfInBounds_toArray, List.set_cons_zero, List.set_cons_succ]
  refine wpAnyH_take (i := 18) (v := ?v18) (by simp only [List.getElem?_toArray, List.getElem?_cons_succ, List.getElem?_cons_zero]; rfl) (by kernel_rfl) (by kernel_rfl) (by kernel_rfl) (fun _ _ _ h => h) (Or.inl ⟨by rfl, ?h18⟩) (by assumption) ?_
  case h18 => (intro w hSw; (try dsimp only at hSw); go_simp; try with_reducible rfl)
  try simp only [Act.put, List.setIfInBounds_toArray, List.set_cons_zero, List.set_cons_succ]
  refine wpAnyH_done (by kernel_rfl) ?_ _
  refine NoPanic.normal ?_
  have hI2 : IsS127 w (w1.alloc (.cells (runeCells l (grownCap w1 l.length 0 21)).toArray 21)).drew g s at_ := ⟨(hI.alloc _).1, by have := hI.2; have := hB.size; omega⟩
  have hB2 : Below w.heap.size w (w1.alloc (.cells (runeCells l (grownCap w1 l.length 0 21)).toArray 21)).drew := by
    rw [hb]
    exact ((hB.trans (hb2.mono (by omega))).alloc (by have := hb2.size; omega) _).drew
  go_wp2
  go_ret2
  exact ⟨g, rfl, hI2, hB2⟩

def impl_WordPlaces.f (k : Nat) (a0_0 : ByteArray) (a0_1 : Int) : Option (Int × Int × Int × Int) :=
  if 0 ≤ a0_1 ∧ a0_1 ≤ (runesOf a0_0).length ∧ a0_0.size ≤ 1000000 then
    ((goprompt_Document_FindStartOfPreviousWord.f k a0_0 a0_1).bind fun p => ((goprompt_Document_FindStartOfPreviousWordWithSpace.f k p.2.1 p.2.2).bind fun q => ((goprompt_Document_FindEndOfCurrentWord.f q.2.1 q.2.2).bind fun r => ((goprompt_Document_FindEndOfCurrentWordWithSpace.f k r.2.1 r.2.2).bind fun s => some (p.1, q.1, r.1, s.1))))) else none
theorem impl_WordPlaces.mono : ∀ a0 a1 k, LeO (impl_WordPlaces.f k a0 a1) (impl_WordPlaces.f (k + 1) a0 a1) := by
  intro a0 a1 k
  unfold impl_WordPlaces.f
  refine LeO.ite ?_ (LeO.refl _)
  refine LeO.bind (goprompt_Document_FindStartOfPreviousWord.mono _ _ k) fun p => ?_
  refine LeO.bind (goprompt_Document_FindStartOfPreviousWordWithSpace.mono _ _ k) fun q => ?_
  refine LeO.bind (LeO.refl _) fun r => ?_
  exact LeO.bind (goprompt_Document_FindEndOfCurrentWordWithSpace.mono _ _ k) fun s => LeO.refl _

set_option maxHeartbeats 4000000 in
theorem impl_WordPlaces.calls (k : Nat) (a0_0 : ByteArray) (a0_1 : Int) (r1 r2 r3 r4 : Int) (w : World) (h : impl_WordPlaces.f k a0_0 a0_1 = some (r1, r2, r3, r4)) :
    Calls Try.prog 36 #[.agg #[.string a0_0, .int .i64 a0_1]] w fun e w' => e = .returned (.tuple #[.int .i64 r1, .int .i64 r2, .int .i64 r3, .int .i64 r4]) ∧ Below w.heap.size w w' := by
  unfold impl_WordPlaces.f at h
  by_cases hc : 0 ≤ a0_1 ∧ a0_1 ≤ (runesOf a0_0).length ∧ a0_0.size ≤ 1000000
  · rw [if_pos hc] at h
    obtain ⟨⟨p1, ps, pa⟩, hp, h⟩ := Option.bind_eq_some_iff.mp h
    obtain ⟨⟨q1, qs, qa⟩, hq, h⟩ := Option.bind_eq_some_iff.mp h
    obtain ⟨⟨t1, ts, ta⟩, ht, h⟩ := Option.bind_eq_some_iff.mp h
    obtain ⟨⟨u1, us, ua⟩, hu, h⟩ := Option.bind_eq_some_iff.mp h
    have h' := Option.some.inj h
    simp only [Prod.mk.injEq] at h'
    obtain ⟨rfl, rfl, rfl, rfl⟩ := h'
    clear h
    have HD := Lib.hid (document_calls a0_0 a0_1 (w.alloc (.cells #[.string a0_0, .int .i64 a0_1] 57)) hc.1 hc.2.1 hc.2.2)
    have hB := (Below.refl w.heap.size w).alloc (Nat.le_refl _) (.cells #[.string a0_0, .int .i64 a0_1] 57)
    have bx := Rec.new w [.string a0_0, .int .i64 a0_1] 57
    have k0 := bx.cell 0 rfl
    have k1 := bx.cell 1 rfl
    have H1 := Lib.hid (fun (g : Nat) (W : World) (hI : IsS127 w W g a0_0 a0_1) (hb : Below w.heap.size w W) => goprompt_Document_FindStartOfPreviousWord.calls k g _ _ _ _ _ w W hI hb hp)
    have H2 := Lib.hid (fun (g : Nat) (W : World) (hI : IsS127 w W g ps pa) (hb : Below w.heap.size w W) => goprompt_Document_FindStartOfPreviousWordWithSpace.calls k g _ _ _ _ _ w W hI hb hq)
    have H3 := Lib.hid (fun (g : Nat) (W : World) (hI : IsS127 w W g qs qa) (hb : Below w.heap.size w W) => goprompt_Document_FindEndOfCurrentWord.calls g _ _ _ _ _ w W hI hb ht)
    have H4 := Lib.hid (fun (g : Nat) (W : World) (hI : IsS127 w W g ts ta) (hb : Below w.heap.size w W) => goprompt_Document_FindEndOfCurrentWordWithSpace.calls k g _ _ _ _ _ w W hI hb hu)
    clear hp hq ht hu hc
    go_enter Try.func36, Try.ntmps36
    go_wp2_with (first
      | (go_at_call 62; refine HD.out.mono ?_; rintro e w1 ⟨g, rfl, hI, hb1⟩; have hI1 : IsS127 w w1 g a0_0 a0_1 := ⟨hI.1, by have := hI.2; simp at this; omega⟩; have hB1 : Below w.heap.size w w1 := hB.trans (hb1.mono (by simp)))
      | (go_at_call 63; refine (H1.out g _ hI1 hB1).mono ?_; rintro e w2 ⟨rfl, hI2, hB2, _⟩)
      | (go_at_call 64; refine (H2.out g _ hI2 hB2).mono ?_; rintro e w3 ⟨rfl, hI3, hB3, _⟩)
      | (go_at_call 65; refine (H3.out g _ hI3 hB3).mono ?_; rintro e w4 ⟨rfl, hI4, hB4, _⟩)
      | (go_at_call 66; refine (H4.out g _ hI4 hB4).mono ?_; rintro e w5 ⟨rfl, hI5, hB5, _⟩))
    exact bodyPost_ret (v := .tuple #[.int .i64 p1, .int .i64 q1, .int .i64 t1, .int .i64 u1]) (by simp [results, Try.results36, go_sem]) rfl ⟨rfl, hB5⟩
  · rw [if_neg hc] at h
    cases h
end Go.Proofs.Ythkblefeifdhaaa.H
