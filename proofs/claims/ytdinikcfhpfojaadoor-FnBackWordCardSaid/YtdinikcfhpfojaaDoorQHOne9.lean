/- Whether a step on a line does what the reference does (laws.one9): the walk, for steps without a text whose line the reference tells; for texts of at most 1000000 bytes. -/
import Derived.Test.YtdinikcfhpfojaaDoorQHEditor
import Derived.Test.YtdinikcfhpfojaaDoorQHOnce
namespace Go.Proofs.YtdinikcfhpfojaaDoor.H
open Go.RowKit Go.Proofs.YtdinikcfhpfojaaDoorW.PrintWords Go.Proofs.YtdinikcfhpfojaaDoorW.PrintLast Go.Proofs.YtdinikcfhpfojaaDoor.R Go.Proofs.YtdinikcfhpfojaaDoor.PDo
set_option linter.unusedVariables false
set_option linter.unusedSimpArgs false
def kcells (op : Int) : List Value := [.int .i64 op, .string ⟨#[]⟩, .int .i64 0, .bool false, .bool false]
set_option maxRecDepth 100000 in
set_option maxHeartbeats 4000000 in
theorem one9_off (k : Nat) (t : ByteArray) (a op : Int) (w : World) (hl : laws_line9.f k t a = some false) :
    Calls Tryd.prog 19 #[.agg #[.string t, .int .i64 a], .agg #[.int .i64 op, .string ⟨#[]⟩, .int .i64 0, .bool false, .bool false]] w fun e w' => e = .returned (.bool true) ∧ Below w.heap.size w w' := by
  have b1 := Below.alloc (Below.refl w.heap.size w) (Nat.le_refl _) (.cells #[.string t, .int .i64 a] 23)
  have b2 := Below.alloc b1 (by simp) (.cells #[.int .i64 op, .string ⟨#[]⟩, .int .i64 0, .bool false, .bool false] 29)
  have HC := Lib.hid (laws_line9.calls k t a false ((w.alloc (.cells #[.string t, .int .i64 a] 23)).alloc (.cells #[.int .i64 op, .string ⟨#[]⟩, .int .i64 0, .bool false, .bool false] 29)) hl)
  have HB := Lib.hid b2
  clear b1 b2 hl
  go_enter Tryd.func19, Tryd.ntmps19
  go_wp2_with fail
  refine HC.out.mono ?_
  rintro e w1 ⟨rfl, hb1⟩
  have HB1 := Lib.hid (HB.out.trans (hb1.mono HB.out.size))
  clear hb1
  go_wp2_with fail
  go_ret
  exact ⟨rfl, HB1.out⟩
theorem s91_later {w0 w w1 : World} {g : Nat} {f0 f2 : List Int} {f1 : Int} {f3 f4 : Bool} (h : IsS91 w0 w g f0 f1 f2 f3 f4) (hb : Below w.heap.size w w1) : IsS91 w0 w1 g f0 f1 f2 f3 f4 := by
  obtain ⟨A0, c0, A2, c2, hk, hg, h0, h2⟩ := h
  exact ⟨A0, c0, A2, c2, (hb.block g (lt_of_block hk)).trans hk, hg, h0, h2⟩
/-- The two boxes of the arguments. -/
def Bx (w : World) (n : Nat) (t : ByteArray) (a op : Int) : Prop := Rec w n [.string t, .int .i64 a] 23 ∧ Rec w (n + 1) (kcells op) 29
theorem Bx.stays {w w1 : World} {n : Nat} {t : ByteArray} {a op : Int} (h : Bx w n t a op) (hb : Below w.heap.size w w1) : Bx w1 n t a op := ⟨h.1.stays hb, h.2.stays hb⟩
theorem Bx.below {w w1 : World} {n B : Nat} {t : ByteArray} {a op : Int} (h : Bx w n t a op) (hb : Below B w w1) (hB : n + 1 < B) : Bx w1 n t a op := ⟨h.1.below hb (by omega), h.2.below hb hB⟩
set_option maxRecDepth 100000 in
set_option maxHeartbeats 8000000 in
theorem one9_on (k : Nat) (t : ByteArray) (a op want at1 : Int) (o : Bool) (w : World) (hs : t.size ≤ 1000000) (h0 : 0 ≤ a) (h1 : a ≤ (runesOf t).length) (hl : laws_line9.f k t a = some true) (hk : laws_key9.f k op ⟨#[]⟩ 0 false false = some true)
    (hD : spec_Editor_Do.f k (runesOf t) a [] false false op ⟨#[]⟩ 0 false false = some (want, at1, false, o)) (hO : o = false → impl_KeyedOnce.f t a op ⟨#[]⟩ 0 false false = some (runesBytes (runesOf t), at1, want, true)) :
    Calls Tryd.prog 19 #[.agg #[.string t, .int .i64 a], .agg #[.int .i64 op, .string ⟨#[]⟩, .int .i64 0, .bool false, .bool false]] w fun e w' => e = .returned (.bool true) ∧ Below w.heap.size w w' := by
  have b1 := Below.alloc (Below.refl w.heap.size w) (Nat.le_refl _) (.cells #[.string t, .int .i64 a] 23)
  have b2 := Below.alloc b1 (by simp) (.cells #[.int .i64 op, .string ⟨#[]⟩, .int .i64 0, .bool false, .bool false] 29)
  have x0 : Bx ((w.alloc (.cells #[.string t, .int .i64 a] 23)).alloc (.cells #[.int .i64 op, .string ⟨#[]⟩, .int .i64 0, .bool false, .bool false] 29)) w.heap.size t a op := ⟨(Rec.new w [.string t, .int .i64 a] 23).alloc _, Rec.at_ _ (kcells op) 29 (by simp)⟩
  have HC := Lib.hid (laws_line9.calls k t a true ((w.alloc (.cells #[.string t, .int .i64 a] 23)).alloc (.cells #[.int .i64 op, .string ⟨#[]⟩, .int .i64 0, .bool false, .bool false] 29)) hl)
  have HB := Lib.hid (And.intro b2 x0)
  have HH := Lib.hid (And.intro hk (And.intro hD hO))
  clear b1 b2 hl x0 hk hD hO
  go_enter Tryd.func19, Tryd.ntmps19
  go_wp2_with fail
  refine HC.out.mono ?_
  rintro e w1 ⟨rfl, hb1⟩
  have H1 := Lib.hid (And.intro (HB.out.1.trans (hb1.mono HB.out.1.size)) (HB.out.2.stays hb1))
  clear hb1
  have k0 := H1.out.2.2.cell 0 rfl
  have k1 := H1.out.2.2.cell 1 rfl
  have k2 := H1.out.2.2.cell 2 rfl
  have k3 := H1.out.2.2.cell 3 rfl
  have k4 := H1.out.2.2.cell 4 rfl
  go_wp2_with fail
  refine (laws_key9.calls k op ⟨#[]⟩ 0 false false true _ HH.out.1).mono ?_
  rintro e w2 ⟨rfl, hb2⟩
  have H2 := Lib.hid (And.intro (H1.out.1.trans (hb2.mono H1.out.1.size)) (H1.out.2.stays hb2))
  clear hb2 k0 k1 k2 k3 k4
  have l0 := H2.out.2.1.cell 0 rfl
  have l1 := H2.out.2.1.cell 1 rfl
  go_wp2_with fail
  refine (NewEditor_calls t a w2 hs h0 h1).mono ?_
  rintro e w3 ⟨wr, g, rfl, hI, hbr, hb3⟩
  have H3 := Lib.hid (And.intro (H2.out.1.trans (hbr.mono H2.out.1.size)) (And.intro (H2.out.2.stays hbr) (And.intro hI hb3)))
  clear hI hbr hb3 l0 l1
  have x3 := H3.out.2.1.stays H3.out.2.2.2
  have hxl := H3.out.2.1.2.lt
  have k0 := x3.2.cell 0 rfl
  have k1 := x3.2.cell 1 rfl
  have k2 := x3.2.cell 2 rfl
  have k3 := x3.2.cell 3 rfl
  have k4 := x3.2.cell 4 rfl
  go_wp2_with fail
  refine (spec_Editor_Do.calls k g (runesOf t) a [] false false op ⟨#[]⟩ 0 false false want at1 false o wr w3 H3.out.2.2.1 H3.out.2.2.2 HH.out.2.1).mono ?_
  rintro e w4 ⟨rfl, hI4, hb4, _⟩
  have H4 := Lib.hid (And.intro hI4 (And.intro hb4 (H3.out.2.1.below hb4 hxl)))
  clear hI4 hb4 x3 k0 k1 k2 k3 k4
  go_wp2_with fail
  refine (spec_Editor_Open.calls g (runesOf t) at1 [] false o o at1 false o wr w4 H4.out.1 H4.out.2.1 rfl).mono ?_
  rintro e w5 ⟨rfl, hI5, hb5, _⟩
  have H5 := Lib.hid (And.intro hI5 (And.intro hb5 (H3.out.2.1.below hb5 hxl)))
  clear hI5 hb5
  cases o with
  | true =>
    go_wp2_with fail
    go_ret
    exact ⟨rfl, H3.out.1.trans (H5.out.2.1.mono H3.out.1.size)⟩
  | false =>
    have HO := Lib.hid (HH.out.2.2 rfl)
    have l0 := H5.out.2.2.1.cell 0 rfl
    have l1 := H5.out.2.2.1.cell 1 rfl
    have k0 := H5.out.2.2.2.cell 0 rfl
    have k1 := H5.out.2.2.2.cell 1 rfl
    have k2 := H5.out.2.2.2.cell 2 rfl
    have k3 := H5.out.2.2.2.cell 3 rfl
    have k4 := H5.out.2.2.2.cell 4 rfl
    go_wp2_with fail
    refine (impl_KeyedOnce.calls t a op ⟨#[]⟩ 0 false false _ _ _ _ w5 HO.out).mono ?_
    rintro e w6 ⟨rfl, hb6⟩
    have H6 := Lib.hid (And.intro (s91_later H5.out.1 hb6) (H5.out.2.1.trans (hb6.mono H5.out.2.1.size)))
    clear hb6 l0 l1 k0 k1 k2 k3 k4
    go_wp2_with fail
    have hI7 := s91_later H6.out.1 ((Below.refl w6.heap.size w6).alloc (Nat.le_refl _) (.cells #[.string (runesBytes (runesOf t)), .int .i64 at1] 23))
    have hb7 := H6.out.2.alloc (Nat.le_trans H6.out.2.size (Nat.le_refl _)) (.cells #[.string (runesBytes (runesOf t)), .int .i64 at1] 23)
    have r7 := Rec.new w6 [.string (runesBytes (runesOf t)), .int .i64 at1] 23
    have hg6 : g < w6.heap.size := by obtain ⟨_, _, _, _, hh, _⟩ := H6.out.1; exact lt_of_block hh
    refine (spec_Editor_Bad.calls g (runesOf t) at1 [] false false false at1 false false wr _ hI7 hb7 rfl).mono ?_
    rintro e w8 ⟨rfl, hI8, hb8, hk8⟩
    have r8 : Rec w8 w6.heap.size [.string (runesBytes (runesOf t)), .int .i64 at1] 23 := (hk8.2 _ (by simp) (by omega) (by simp)).trans r7
    have H8 := Lib.hid (And.intro hI8 (And.intro hb8 r8))
    have c0 := r8.cell 0 rfl
    have c1 := r8.cell 1 rfl
    clear hI7 hb7 r7 hI8 hb8 hk8 r8
    go_wp2_with fail
    refine wp_region_noPanic ?_
    refine wp_region_held_drew (S := fun w' => w'.cell? ⟨w6.heap.size, 0, none⟩ = some (.string (runesBytes (runesOf t))) ∧ w'.cell? ⟨w6.heap.size, 1, none⟩ = some (.int .i64 at1)) (by kernel_rfl) (⟨c0, c1⟩) (fun hHeld => ?_)
    refine wpAnyH_take (i := 0) (v := ?v0) (by simp only [List.getElem?_toArray, List.getElem?_cons_succ, List.getElem?_cons_zero]; rfl) (by kernel_rfl) (by kernel_rfl) (by kernel_rfl) (fun _ _ _ h => h) (Or.inl ⟨by rfl, ?h0⟩) (by assumption) ?_
    case h0 => (intro wS hSw; (try dsimp only at hSw); go_simp; try with_reducible rfl)
    try simp only [Act.put, List.setIfInBounds_toArray, List.set_cons_zero, List.set_cons_succ]
    refine wpAnyH_take (i := 1) (v := ?v1) (by simp only [List.getElem?_toArray, List.getElem?_cons_succ, List.getElem?_cons_zero]; rfl) (by kernel_rfl) (by kernel_rfl) (by kernel_rfl) (fun _ _ _ h => h) (Or.inl ⟨by rfl, ?h1⟩) (by assumption) ?_
    case h1 => (intro wS hSw; (try dsimp only at hSw); go_simp; try with_reducible rfl)
    try simp only [Act.put, List.setIfInBounds_toArray, List.set_cons_zero, List.set_cons_succ]
    refine wpAnyH_take (i := 2) (v := ?v2) (by simp only [List.getElem?_toArray, List.getElem?_cons_succ, List.getElem?_cons_zero]; rfl) (by kernel_rfl) (by kernel_rfl) (by kernel_rfl) (fun _ _ _ h => h) (Or.inl ⟨by rfl, ?h2⟩) (by assumption) ?_
    case h2 => (intro wS hSw; (try dsimp only at hSw); have hs0_ := hSw.1; have hs1_ := hSw.2; go_simp; try with_reducible rfl)
    try simp only [Act.put, List.setIfInBounds_toArray, List.set_cons_zero, List.set_cons_succ]
    refine wpAnyH_take (i := 3) (v := ?v3) (by simp only [List.getElem?_toArray, List.getElem?_cons_succ, List.getElem?_cons_zero]; rfl) (by kernel_rfl) (by kernel_rfl) (by kernel_rfl) (fun _ _ _ h => h) (Or.inl ⟨by rfl, ?h3⟩) (by assumption) ?_
    case h3 => (intro wS hSw; (try dsimp only at hSw); go_simp; try with_reducible rfl)
    try simp only [Act.put, List.setIfInBounds_toArray, List.set_cons_zero, List.set_cons_succ]
    refine wpAnyH_ready (rs := [4]) (by kernel_rfl) (by simp) ?_
    refine AllReadyH.cons (o := _) rfl (fun K hK => ?_) AllReadyH.nil
    go_simp
    refine (Line_calls wr _ g (runesOf t) [] at1 false false (s91_later H8.out.1 ((Below.refl _ _).drew)) H8.out.2.1.drew).mono ?_
    rintro e w9 ⟨rfl, hb9⟩
    have hbb : Below w8.heap.size w8 w9 := ((Below.refl w8.heap.size w8).drew).trans hb9
    have r9 := H8.out.2.2.stays hbb
    have HZ := Lib.hid (H8.out.2.1.trans (hbb.mono H8.out.2.1.size))
    have d0 := r9.cell 0 rfl
    have d1 := r9.cell 1 rfl
    clear hb9 hbb r9
    refine hK.out _ _ (⟨d0, d1⟩) (fun hHeld4 => ?_)
    clear hK K
    try simp only [Act.put, List.setIfInBounds_toArray, List.set_cons_zero, List.set_cons_succ]
    refine wpAnyH_take (i := 5) (v := ?v5) (by simp only [List.getElem?_toArray, List.getElem?_cons_succ, List.getElem?_cons_zero]; rfl) (by kernel_rfl) (by kernel_rfl) (by kernel_rfl) (fun _ _ _ h => h) (Or.inl ⟨by rfl, ?h5⟩) (by assumption) ?_
    case h5 => (intro wS hSw; (try dsimp only at hSw); go_simp; try with_reducible rfl)
    try simp only [Act.put, List.setIfInBounds_toArray, List.set_cons_zero, List.set_cons_succ]
    refine wpAnyH_take (i := 6) (v := ?v6) (by simp only [List.getElem?_toArray, List.getElem?_cons_succ, List.getElem?_cons_zero]; rfl) (by kernel_rfl) (by kernel_rfl) (by kernel_rfl) (fun _ _ _ h => h) (Or.inl ⟨by rfl, ?h6⟩) (by assumption) ?_
    case h6 => (intro wS hSw; (try dsimp only at hSw); go_simp; try with_reducible rfl)
    try simp only [Act.put, List.setIfInBounds_toArray, List.set_cons_zero, List.set_cons_succ]
    refine wpAnyH_take (i := 7) (v := ?v7) (by simp only [List.getElem?_toArray, List.getElem?_cons_succ, List.getElem?_cons_zero]; rfl) (by kernel_rfl) (by kernel_rfl) (by kernel_rfl) (fun _ _ _ h => h) (Or.inl ⟨by rfl, ?h7⟩) (by assumption) ?_
    case h7 => (intro wS hSw; (try dsimp only at hSw); go_simp; try with_reducible rfl)
    try simp only [Act.put, List.setIfInBounds_toArray, List.set_cons_zero, List.set_cons_succ]
    refine wpAnyH_take (i := 8) (v := ?v8) (by simp only [List.getElem?_toArray, List.getElem?_cons_succ, List.getElem?_cons_zero]; rfl) (by kernel_rfl) (by kernel_rfl) (by kernel_rfl) (fun _ _ _ h => h) (Or.inl ⟨by rfl, ?h8⟩) (by assumption) ?_
    case h8 => (intro wS hSw; (try dsimp only at hSw); go_simp; try with_reducible rfl)
    try simp only [Act.put, List.setIfInBounds_toArray, List.set_cons_zero, List.set_cons_succ]
    refine wpAnyH_take (i := 9) (v := ?v9) (by simp only [List.getElem?_toArray, List.getElem?_cons_succ, List.getElem?_cons_zero]; rfl) (by kernel_rfl) (by kernel_rfl) (by kernel_rfl) (fun _ _ _ h => h) (Or.inl ⟨by rfl, ?h9⟩) (by assumption) ?_
    case h9 => (intro wS hSw; (try dsimp only at hSw); go_simp; try with_reducible rfl)
    try simp only [Act.put, List.setIfInBounds_toArray, List.set_cons_zero, List.set_cons_succ]
    refine wpAnyH_take (i := 10) (v := ?v10) (by simp only [List.getElem?_toArray, List.getElem?_cons_succ, List.getElem?_cons_zero]; rfl) (by kernel_rfl) (by kernel_rfl) (by kernel_rfl) (fun _ _ _ h => h) (Or.inl ⟨by rfl, ?h10⟩) (by assumption) ?_
    case h10 => (intro wS hSw; (try dsimp only at hSw); go_simp; try with_reducible rfl)
    try simp only [Act.put, List.setIfInBounds_toArray, List.set_cons_zero, List.set_cons_succ]
    refine wpAnyH_take (i := 11) (v := ?v11) (by simp only [List.getElem?_toArray, List.getElem?_cons_succ, List.getElem?_cons_zero]; rfl) (by kernel_rfl) (by kernel_rfl) (by kernel_rfl) (fun _ _ _ h => h) (Or.inl ⟨by rfl, ?h11⟩) (by assumption) ?_
    case h11 => (intro wS hSw; (try dsimp only at hSw); go_simp; try with_reducible rfl)
    try simp only [Act.put, List.setIfInBounds_toArray, List.set_cons_zero, List.set_cons_succ]
    refine wpAnyH_take (i := 12) (v := ?v12) (by simp only [List.getElem?_toArray, List.getElem?_cons_succ, List.getElem?_cons_zero]; rfl) (by kernel_rfl) (by kernel_rfl) (by kernel_rfl) (fun _ _ _ h => h) (Or.inl ⟨by rfl, ?h12⟩) (by assumption) ?_
    case h12 => (intro wS hSw; (try dsimp only at hSw); go_simp; try with_reducible rfl)
    try simp only [Act.put, List.setIfInBounds_toArray, List.set_cons_zero, List.set_cons_succ]
    refine wpAnyH_done (by kernel_rfl) ?_ _
    refine NoPanic.normal ?_
    go_wp2_with fail
    go_ret
    exact ⟨rfl, H3.out.1.trans (HZ.out.mono H3.out.1.size)⟩
end Go.Proofs.YtdinikcfhpfojaaDoor.H
