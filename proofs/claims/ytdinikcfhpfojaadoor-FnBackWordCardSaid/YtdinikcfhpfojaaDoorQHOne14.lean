/- Whether a step back a word does what the reference does (laws.one9 for the step 14): the walk, where a word begins ahead of the cursor; for texts of at most 1000 signs. -/
import Derived.Test.YtdinikcfhpfojaaDoorQHEd14
namespace Go.Proofs.YtdinikcfhpfojaaDoor.H
open Go.RowKit Go.Proofs.YtdinikcfhpfojaaDoorW.PrintWords Go.Proofs.YtdinikcfhpfojaaDoorW.PrintLast Go.Proofs.YtdinikcfhpfojaaDoor.R Go.Proofs.YtdinikcfhpfojaaDoor.PDo
set_option linter.unusedVariables false
set_option linter.unusedSimpArgs false
theorem ed_lt {w : World} {g : Nat} {A : Addr} {c : Nat} {l : List Int} {a : Int} {kv : Value} {b o : Bool} (h : Ed w g A c l a kv b o) (hl : 0 < l.length) : A.block < w.heap.size := by
  have h1 := ed_cell h 0 hl
  rcases Nat.lt_or_ge A.block w.heap.size with h2 | h2
  · exact h2
  · unfold World.cell? at h1
    rw [add_block_, Array.getElem?_eq_none h2] at h1
    simp at h1
theorem NewEditor_ed (s : ByteArray) (a : Int) (w : World) (hs : s.size ≤ 1000000) (h0 : 0 ≤ a) (h1 : a ≤ (runesOf s).length) :
    Calls Tryd.prog 30 #[.string s, .int .i64 a] w fun e w' => ∃ g A c, e = .returned (.tuple #[.pointer (some ⟨g, 0, none⟩), .bool true]) ∧ Ed w' g A c (runesOf s) a (.slice none 0 0) false false ∧ A.block ≠ g ∧ A.block < w'.heap.size ∧ w.heap.size ≤ g ∧ Below w.heap.size w w' := by
  obtain ⟨c, W1, hcv, hC, hc, hb, hz⟩ := str_runes w s (by omega)
  have hl := runesOf_length s
  have HX := Lib.hid (And.intro hC (And.intro hc (And.intro hb hz)))
  clear hC hc hb hz
  go_enter Tryd.func30, Tryd.ntmps30
  go_wp2
  go_ret2
  have hz := HX.out.2.2.2
  refine ⟨W1.heap.size, ⟨w.heap.size, 0, none⟩, c, by simp, ⟨Go.heap_alloc_new W1 _, reads_kept (Kd.reads_of_C HX.out.1) (Below.heap_alloc W1 _ _ (by show w.heap.size < _; omega)), HX.out.2.1⟩, by show w.heap.size ≠ _; omega, by show w.heap.size < _; simp; omega, by omega, HX.out.2.2.1.alloc (by omega) _⟩
set_option maxRecDepth 100000 in
set_option maxHeartbeats 8000000 in
theorem one9_14 (k p : Nat) (t : ByteArray) (a : Nat) (w : World) (hs : t.size ≤ 1000000) (h1 : a ≤ (runesOf t).length) (h2 : (runesOf t).length ≤ 1000) (hpw : prevW (runesOf t) (a - 1) = p) (hp : 0 < p) (hpa : p < a) (hl : laws_line9.f k t a = some true) (hk : laws_key9.f k 14 ⟨#[]⟩ 0 false false = some true)
    (hO : impl_KeyedOnce.f t a 14 ⟨#[]⟩ 0 false false = some (runesBytes ((runesOf t).take p ++ (runesOf t).drop a), (p : Int), -1, true)) :
    Calls Tryd.prog 19 #[.agg #[.string t, .int .i64 a], .agg #[.int .i64 14, .string ⟨#[]⟩, .int .i64 0, .bool false, .bool false]] w fun e w' => e = .returned (.bool true) ∧ Below w.heap.size w w' := by
  have b1 := Below.alloc (Below.refl w.heap.size w) (Nat.le_refl _) (.cells #[.string t, .int .i64 a] 23)
  have b2 := Below.alloc b1 (by simp) (.cells #[.int .i64 14, .string ⟨#[]⟩, .int .i64 0, .bool false, .bool false] 29)
  have x0 : Bx ((w.alloc (.cells #[.string t, .int .i64 a] 23)).alloc (.cells #[.int .i64 14, .string ⟨#[]⟩, .int .i64 0, .bool false, .bool false] 29)) w.heap.size t a 14 := ⟨(Rec.new w [.string t, .int .i64 a] 23).alloc _, Rec.at_ _ (kcells 14) 29 (by simp)⟩
  have HC := Lib.hid (laws_line9.calls k t a true ((w.alloc (.cells #[.string t, .int .i64 a] 23)).alloc (.cells #[.int .i64 14, .string ⟨#[]⟩, .int .i64 0, .bool false, .bool false] 29)) hl)
  have HB := Lib.hid (And.intro b2 x0)
  have HH := Lib.hid (And.intro hk hO)
  clear b1 b2 hl x0 hk hO
  go_enter Tryd.func19, Tryd.ntmps19
  go_wp2_with fail
  refine HC.out.mono ?_
  rintro e w1 ⟨rfl, hb1⟩
  have H1 := Lib.hid (And.intro (HB.out.1.trans (hb1.mono HB.out.1.size)) (HB.out.2.stays hb1))
  clear hb1
  have k0 := H1.out.2.2.cell 0 rfl
  have k1 := H1.out.2.2.cell 1 rfl
  have k2 := H1.out.2.2.cell 2 rfl
  have k3 := H1.out.2.2.cell 3 rfl
  have k4 := H1.out.2.2.cell 4 rfl
  go_wp2_with fail
  refine (laws_key9.calls k 14 ⟨#[]⟩ 0 false false true _ HH.out.1).mono ?_
  rintro e w2 ⟨rfl, hb2⟩
  have H2 := Lib.hid (And.intro (H1.out.1.trans (hb2.mono H1.out.1.size)) (H1.out.2.stays hb2))
  clear hb2 k0 k1 k2 k3 k4
  have l0 := H2.out.2.1.cell 0 rfl
  have l1 := H2.out.2.1.cell 1 rfl
  go_wp2_with fail
  refine (NewEditor_ed t a w2 hs (by omega) (by omega)).mono ?_
  rintro e w3 ⟨g, A, c, rfl, hE, hA1, hA2, hg, hb3⟩
  have hx2 := H2.out.2.2.lt
  have H3 := Lib.hid (And.intro (H2.out.1.trans (hb3.mono H2.out.1.size)) (And.intro (H2.out.2.stays hb3) (And.intro hE (And.intro hA1 hA2))))
  have hgw : w.heap.size ≤ g := Nat.le_trans H2.out.1.size hg
  clear hE hb3 hA1 hA2 l0 l1
  have x3 := H3.out.2.1
  have k0 := x3.2.cell 0 rfl
  have k1 := x3.2.cell 1 rfl
  have k2 := x3.2.cell 2 rfl
  have k3 := x3.2.cell 3 rfl
  have k4 := x3.2.cell 4 rfl
  go_wp2_with fail
  refine (Do_14 w3 g p a c A (runesOf t) _ H3.out.2.2.1 ⟨H3.out.2.2.2.1, H3.out.2.2.2.2⟩ hpw hp hpa h1 h2).mono ?_
  rintro e w4 ⟨rfl, ⟨A4, c4, kv4, hE4⟩, hk4⟩
  have H4 := Lib.hid (And.intro hE4 (And.intro (hk4.below H3.out.1 hgw) (show Bx w4 w.heap.size t a 14 from ⟨(hk4.1 _ H3.out.2.1.1.lt (by omega)).trans H3.out.2.1.1, (hk4.1 _ H3.out.2.1.2.lt (by omega)).trans H3.out.2.1.2⟩)))
  clear hE4 hk4 x3 k0 k1 k2 k3 k4
  go_wp2_with fail
  refine (Open_ed w4 g c4 A4 _ _ kv4 false false H4.out.1).mono ?_
  rintro e w5 ⟨rfl, m5, rfl⟩
  have H5 := Lib.hid (And.intro (H4.out.1.drewN m5) (And.intro (pw_below_drewN H4.out.2.1 m5) (H4.out.2.2.stays (pw_below_drewN (Below.refl _ _) m5))))
  generalize w4.drewN m5 = w5 at *
  have HO := Lib.hid HH.out.2
  have hlt5 := ed_lt H5.out.1 (by simp; omega)
  have l0 := H5.out.2.2.1.cell 0 rfl
  have l1 := H5.out.2.2.1.cell 1 rfl
  have k0 := H5.out.2.2.2.cell 0 rfl
  have k1 := H5.out.2.2.2.cell 1 rfl
  have k2 := H5.out.2.2.2.cell 2 rfl
  have k3 := H5.out.2.2.2.cell 3 rfl
  have k4 := H5.out.2.2.2.cell 4 rfl
  go_wp2_with fail
  refine (impl_KeyedOnce.calls t a 14 ⟨#[]⟩ 0 false false _ _ _ _ w5 HO.out).mono ?_
  rintro e w6 ⟨rfl, hb6⟩
  have H6 := Lib.hid (And.intro (H5.out.1.stays hlt5 hb6) (H5.out.2.1.trans (hb6.mono H5.out.2.1.size)))
  clear hb6 l0 l1 k0 k1 k2 k3 k4
  go_wp2_with fail
  have hE7 := H6.out.1.stays (ed_lt H6.out.1 (by simp; omega)) ((Below.refl w6.heap.size w6).alloc (Nat.le_refl _) (.cells #[.string (runesBytes ((runesOf t).take p ++ (runesOf t).drop a)), .int .i64 p] 23))
  have hb7 := H6.out.2.alloc H6.out.2.size (.cells #[.string (runesBytes ((runesOf t).take p ++ (runesOf t).drop a)), .int .i64 p] 23)
  have r7 := Rec.new w6 [.string (runesBytes ((runesOf t).take p ++ (runesOf t).drop a)), .int .i64 p] 23
  refine (Bad_ed _ g c4 A4 _ _ kv4 false false hE7).mono ?_
  rintro e w8 ⟨rfl, m8, rfl⟩
  have r8 := r7.drewN m8
  have H8 := Lib.hid (And.intro (hE7.drewN m8) (And.intro (pw_below_drewN hb7 m8) r8))
  generalize (w6.alloc (.cells #[.string (runesBytes ((runesOf t).take p ++ (runesOf t).drop a)), .int .i64 p] 23)).drewN m8 = w8 at *
  have c0 := r8.cell 0 rfl
  have c1 := r8.cell 1 rfl
  clear hE7 hb7 r7 r8
  go_wp2_with fail
  refine wp_region_noPanic ?_
  refine wp_region_held_drew (S := fun w' => w'.cell? ⟨w6.heap.size, 0, none⟩ = some (.string (runesBytes ((runesOf t).take p ++ (runesOf t).drop a))) ∧ w'.cell? ⟨w6.heap.size, 1, none⟩ = some (.int .i64 p)) (by kernel_rfl) (⟨c0, c1⟩) (fun hHeld => ?_)
  refine wpAnyH_take (i := 0) (v := ?v0) (by simp only [List.getElem?_toArray, List.getElem?_cons_succ, List.getElem?_cons_zero]; rfl) (by kernel_rfl) (by kernel_rfl) (by kernel_rfl) (fun _ _ _ h => h) (Or.inl ⟨by rfl, ?h0⟩) (by assumption) ?_
  case h0 => (intro wS hSw; (try dsimp only at hSw); go_simp; try with_reducible rfl)
  try simp only [Act.put, List.setIfInBounds_toArray, List.set_cons_zero, List.set_cons_succ]
  refine wpAnyH_take (i := 1) (v := ?v1) (by simp only [List.getElem?_toArray, List.getElem?_cons_succ, List.getElem?_cons_zero]; rfl) (by kernel_rfl) (by kernel_rfl) (by kernel_rfl) (fun _ _ _ h => h) (Or.inl ⟨by rfl, ?h1⟩) (by assumption) ?_
  case h1 => (intro wS hSw; (try dsimp only at hSw); go_simp; try with_reducible rfl)
  try simp only [Act.put, List.setIfInBounds_toArray, List.set_cons_zero, List.set_cons_succ]
  refine wpAnyH_take (i := 2) (v := ?v2) (by simp only [List.getElem?_toArray, List.getElem?_cons_succ, List.getElem?_cons_zero]; rfl) (by kernel_rfl) (by kernel_rfl) (by kernel_rfl) (fun _ _ _ h => h) (Or.inl ⟨by rfl, ?h2⟩) (by assumption) ?_
  case h2 => (intro wS hSw; (try dsimp only at hSw); have hs0_ := hSw.1; have hs1_ := hSw.2; go_simp; try with_reducible rfl)
  try simp only [Act.put, List.setIfInBounds_toArray, List.set_cons_zero, List.set_cons_succ]
  refine wpAnyH_take (i := 3) (v := ?v3) (by simp only [List.getElem?_toArray, List.getElem?_cons_succ, List.getElem?_cons_zero]; rfl) (by kernel_rfl) (by kernel_rfl) (by kernel_rfl) (fun _ _ _ h => h) (Or.inl ⟨by rfl, ?h3⟩) (by assumption) ?_
  case h3 => (intro wS hSw; (try dsimp only at hSw); go_simp; try with_reducible rfl)
  try simp only [Act.put, List.setIfInBounds_toArray, List.set_cons_zero, List.set_cons_succ]
  refine wpAnyH_ready (rs := [4]) (by kernel_rfl) (by simp) ?_
  refine AllReadyH.cons (o := _) rfl (fun K hK => ?_) AllReadyH.nil
  go_simp
  refine (Line_ed _ g c4 A4 _ _ kv4 false false (H8.out.1.drewN 1)).mono ?_
  rintro e w9 ⟨rfl, hb9⟩
  have hbb : Below w8.heap.size w8 w9 := ((Below.refl w8.heap.size w8).drew).trans hb9
  have r9 := H8.out.2.2.stays hbb
  have HZ := Lib.hid (H8.out.2.1.trans (hbb.mono H8.out.2.1.size))
  have d0 := r9.cell 0 rfl
  have d1 := r9.cell 1 rfl
  clear hb9 hbb r9
  refine hK.out _ _ (⟨d0, d1⟩) (fun hHeld4 => ?_)
  clear hK K
  try simp only [Act.put, List.setIfInBounds_toArray, List.set_cons_zero, List.set_cons_succ]
  refine wpAnyH_take (i := 5) (v := ?v5) (by simp only [List.getElem?_toArray, List.getElem?_cons_succ, List.getElem?_cons_zero]; rfl) (by kernel_rfl) (by kernel_rfl) (by kernel_rfl) (fun _ _ _ h => h) (Or.inl ⟨by rfl, ?h5⟩) (by assumption) ?_
  case h5 => (intro wS hSw; (try dsimp only at hSw); go_simp; try with_reducible rfl)
  try simp only [Act.put, List.setIfInBounds_toArray, List.set_cons_zero, List.set_cons_succ]
  refine wpAnyH_take (i := 6) (v := ?v6) (by simp only [List.getElem?_toArray, List.getElem?_cons_succ, List.getElem?_cons_zero]; rfl) (by kernel_rfl) (by kernel_rfl) (by kernel_rfl) (fun _ _ _ h => h) (Or.inl ⟨by rfl, ?h6⟩) (by assumption) ?_
  case h6 => (intro wS hSw; (try dsimp only at hSw); go_simp; try with_reducible rfl)
  try simp only [Act.put, List.setIfInBounds_toArray, List.set_cons_zero, List.set_cons_succ]
  refine wpAnyH_take (i := 7) (v := ?v7) (by simp only [List.getElem?_toArray, List.getElem?_cons_succ, List.getElem?_cons_zero]; rfl) (by kernel_rfl) (by kernel_rfl) (by kernel_rfl) (fun _ _ _ h => h) (Or.inl ⟨by rfl, ?h7⟩) (by assumption) ?_
  case h7 => (intro wS hSw; (try dsimp only at hSw); go_simp; try with_reducible rfl)
  try simp only [Act.put, List.setIfInBounds_toArray, List.set_cons_zero, List.set_cons_succ]
  refine wpAnyH_take (i := 8) (v := ?v8) (by simp only [List.getElem?_toArray, List.getElem?_cons_succ, List.getElem?_cons_zero]; rfl) (by kernel_rfl) (by kernel_rfl) (by kernel_rfl) (fun _ _ _ h => h) (Or.inl ⟨by rfl, ?h8⟩) (by assumption) ?_
  case h8 => (intro wS hSw; (try dsimp only at hSw); go_simp; try with_reducible rfl)
  try simp only [Act.put, List.setIfInBounds_toArray, List.set_cons_zero, List.set_cons_succ]
  refine wpAnyH_take (i := 9) (v := ?v9) (by simp only [List.getElem?_toArray, List.getElem?_cons_succ, List.getElem?_cons_zero]; rfl) (by kernel_rfl) (by kernel_rfl) (by kernel_rfl) (fun _ _ _ h => h) (Or.inl ⟨by rfl, ?h9⟩) (by assumption) ?_
  case h9 => (intro wS hSw; (try dsimp only at hSw); go_simp; try with_reducible rfl)
  try simp only [Act.put, List.setIfInBounds_toArray, List.set_cons_zero, List.set_cons_succ]
  refine wpAnyH_take (i := 10) (v := ?v10) (by simp only [List.getElem?_toArray, List.getElem?_cons_succ, List.getElem?_cons_zero]; rfl) (by kernel_rfl) (by kernel_rfl) (by kernel_rfl) (fun _ _ _ h => h) (Or.inl ⟨by rfl, ?h10⟩) (by assumption) ?_
  case h10 => (intro wS hSw; (try dsimp only at hSw); go_simp; try with_reducible rfl)
  try simp only [Act.put, List.setIfInBounds_toArray, List.set_cons_zero, List.set_cons_succ]
  refine wpAnyH_take (i := 11) (v := ?v11) (by simp only [List.getElem?_toArray, List.getElem?_cons_succ, List.getElem?_cons_zero]; rfl) (by kernel_rfl) (by kernel_rfl) (by kernel_rfl) (fun _ _ _ h => h) (Or.inl ⟨by rfl, ?h11⟩) (by assumption) ?_
  case h11 => (intro wS hSw; (try dsimp only at hSw); go_simp; try with_reducible rfl)
  try simp only [Act.put, List.setIfInBounds_toArray, List.set_cons_zero, List.set_cons_succ]
  refine wpAnyH_take (i := 12) (v := ?v12) (by simp only [List.getElem?_toArray, List.getElem?_cons_succ, List.getElem?_cons_zero]; rfl) (by kernel_rfl) (by kernel_rfl) (by kernel_rfl) (fun _ _ _ h => h) (Or.inl ⟨by rfl, ?h12⟩) (by assumption) ?_
  case h12 => (intro wS hSw; (try dsimp only at hSw); go_simp; try with_reducible rfl)
  try simp only [Act.put, List.setIfInBounds_toArray, List.set_cons_zero, List.set_cons_succ]
  refine wpAnyH_done (by kernel_rfl) ?_ _
  refine NoPanic.normal ?_
  go_wp2_with fail
  go_ret
  exact ⟨rfl, HZ.out⟩
end Go.Proofs.YtdinikcfhpfojaaDoor.H
