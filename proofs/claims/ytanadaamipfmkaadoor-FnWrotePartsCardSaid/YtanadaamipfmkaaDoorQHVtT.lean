/- A writer of sequences (goprompt.VT100Writer.SetTitle): a title without two bytes; for titles of at most 1000 bytes, writers of at most 800000. -/
import Derived.Test.YtanadaamipfmkaaDoorQHVtX
namespace Go.Proofs.YtanadaamipfmkaaDoor.H
open Go.RowKit Go.Proofs.YtanadaamipfmkaaDoorW.PrintWords Go.Proofs.YtanadaamipfmkaaDoorW.PrintLast Go.Proofs.YtanadaamipfmkaaDoor.R Go.Proofs.YtanadaamipfmkaaDoor.X
set_option linter.unusedVariables false
set_option linter.unusedSimpArgs false
/-- A row of bytes at block g. -/
def RowAt (w : World) (g : Nat) (s : ByteArray) : Prop := ∀ j u, ((ints s).map (Value.int .u8))[j]? = some u → w.cell? ((⟨g, 0, none⟩ : Addr).add j) = some u
theorem str_of_row {w : World} {g : Nat} {s : ByteArray} (h : RowAt w g s) (c : Nat) : (convert 47 9 (.slice (some ⟨g, 0, none⟩) s.size c)).run Tryd.prog w = .ok (.string s) w := by
  have hst : strOfNums (ints s) = s := str_ext (by rw [strOfNums_data, ints, List.map_map]; simp [Function.comp_def])
  have hcv := run_convert_bytes_arg (P := Tryd.prog) w 47 5 Tryd.underlying47 Tryd.underlying5 g 0 s.size c (ints s) (ints_length s) (fun i hi => by
    have e : (⟨g, 0, none⟩ : Addr).add i = ⟨g, i, none⟩ := by
      cases i with
      | zero => rfl
      | succ j => simp [Addr.add]
    rw [Nat.zero_add, ← e, List.getD_eq_getElem?_getD, List.getElem?_eq_getElem (by rw [ints_length]; exact hi)]
    exact h i _ (by rw [List.getElem?_map, List.getElem?_eq_getElem (by rw [ints_length]; exact hi)]; rfl)) 9 Tryd.underlying9
  rwa [hst] at hcv
theorem RowAt.below {w w' : World} {g : Nat} {s : ByteArray} {B : Nat} (h : RowAt w g s) (hb : Below B w w') (hg : g < B) : RowAt w' g s := fun j u hj => by
  refine (hb.cell (p := (⟨g, 0, none⟩ : Addr).add j) ?_).trans (h j u hj)
  have e : ((⟨g, 0, none⟩ : Addr).add j).block = g := by
    cases j with
    | zero => rfl
    | succ j => simp [Addr.add]
  rw [e]; exact hg
/-- Where a title stands behind i of its two steps. -/
structure TS (w0 wr : World) (g0 : Nat) (s r1 r2 : ByteArray) (i : Int) (g : Nat) (cur : ByteArray) : Prop where
  below : Below g0 w0 wr
  size : g0 = w0.heap.size ∧ g0 + 5 < wr.heap.size ∧ g < wr.heap.size ∧ g0 ≤ g
  now : (i = 0 ∧ cur = s) ∨ (i = 1 ∧ cur = r1) ∨ (i = 2 ∧ cur = r2)
  row : RowAt wr g cur
  p1 : RowAt wr (g0 + 1) ⟨#[19]⟩
  p2 : RowAt wr (g0 + 1 + 1 + 1) ⟨#[7]⟩
  tab : Rec wr (g0 + 1 + 1 + 1 + 1 + 1) [.slice (some ⟨g0 + 1, 0, none⟩) 1 1, .slice (some ⟨g0 + 1 + 1, 0, none⟩) 0 0, .slice (some ⟨g0 + 1 + 1 + 1, 0, none⟩) 1 1, .slice (some ⟨g0 + 1 + 1 + 1 + 1, 0, none⟩) 0 0] 112
theorem RowAt.same {w w' : World} {g : Nat} {s : ByteArray} (h : RowAt w g s) (e : w'.heap[g]? = w.heap[g]?) : RowAt w' g s := fun j u hj => by
  have h1 := h j u hj
  have e1 : (⟨g, 0, none⟩ : Addr).add j = ⟨g, j, none⟩ := by
    cases j with
    | zero => rfl
    | succ j => simp [Addr.add]
  rw [e1] at h1 ⊢
  unfold World.cell? at h1 ⊢
  rwa [show w'.heap[(⟨g, j, none⟩ : Addr).block]? = w.heap[(⟨g, j, none⟩ : Addr).block]? from e]
theorem row_none (w : World) (g : Nat) : RowAt w g ⟨#[]⟩ := fun j u hj => by simp [ints] at hj
set_option maxRecDepth 100000 in
set_option maxHeartbeats 16000000 in
theorem SetTitle_calls {N m c k : Nat} {T : Option Addr} {w : World} {bs : List Int} (h : VS w N m T c bs) (s r1 r2 : ByteArray) (hs : s.size ≤ 1000) (hb : bs.length ≤ 800000) (h1 : PzzReplaceAll.goprompt_zzReplaceAll.f k s ⟨#[19]⟩ ⟨#[]⟩ = some r1) (h2 : PzzReplaceAll.goprompt_zzReplaceAll.f k r1 ⟨#[7]⟩ ⟨#[]⟩ = some r2) (z1 : r1.size ≤ 1000) (z2 : r2.size ≤ 1000) :
    Calls Tryd.prog 67 #[Wp m, .string s] w fun e w' => e = .returned (.tuple #[]) ∧ ∃ T' c', VT N m T bs.length c w T' c' (bs ++ [27, 93, 50, 59] ++ ints r2 ++ [7]) w' := by
  obtain ⟨cc, W1, hcv, hcell, hb1, hz⟩ := str_bytes w s
  have HX := Lib.hid (And.intro h (And.intro h1 (And.intro h2 (And.intro hcell (And.intro hb1 (And.intro hz hb))))))
  have HZ := Lib.hid (And.intro hs (And.intro z1 z2))
  clear h h1 h2 hcell hb1 hs z1 z2 hb
  go_enter Tryd.func67, Tryd.ntmps67
  go_wp2_with fail
  generalize hg0 : w.heap.size = g0 at *
  have HG := Lib.hid hg0
  clear hg0 hz hcv
  go_loopw [4, 18] (fun v4 v18 wr => ∃ (i : Int) (g ci : Nat) (cur : ByteArray), v18 = .int .i64 i ∧ v4 = .slice (some ⟨g, 0, none⟩) cur.size ci ∧ TS w wr g0 s r1 r2 i g cur) (fun _ v18 _ => 2 - (intOf v18).toNat)
  case atStart =>
    have hz := HX.out.2.2.2.2.2.1
    have HB := HX.out.2.2.2.2.1
    have s1 : (W1.alloc (.cells #[.int .u8 19] 5)).heap.size = g0 + 1 + 1 := by simp [hz]
    have s2 : ((W1.alloc (.cells #[.int .u8 19] 5)).alloc (.cells #[] 5)).heap.size = g0 + 1 + 1 + 1 := by simp [hz]
    have s3 : (((W1.alloc (.cells #[.int .u8 19] 5)).alloc (.cells #[] 5)).alloc (.cells #[.int .u8 7] 5)).heap.size = g0 + 1 + 1 + 1 + 1 := by simp [hz]
    have s4 : ((((W1.alloc (.cells #[.int .u8 19] 5)).alloc (.cells #[] 5)).alloc (.cells #[.int .u8 7] 5)).alloc (.cells #[] 5)).heap.size = g0 + 1 + 1 + 1 + 1 + 1 := by simp [hz]
    have hb5 := ((((HB.alloc (by omega) (.cells #[.int .u8 19] 5)).alloc (by omega) (.cells #[] 5)).alloc (by omega) (.cells #[.int .u8 7] 5)).alloc (by omega) (.cells #[] 5)).alloc (by omega) (.cells #[.slice (some ⟨g0 + 1, 0, none⟩) 1 1, .slice (some ⟨g0 + 1 + 1, 0, none⟩) 0 0, .slice (some ⟨g0 + 1 + 1 + 1, 0, none⟩) 1 1, .slice (some ⟨g0 + 1 + 1 + 1 + 1, 0, none⟩) 0 0] 112)
    have c5 := (((((Below.refl W1.heap.size W1).alloc (by omega) (.cells #[.int .u8 19] 5)).alloc (by omega) (.cells #[] 5)).alloc (by omega) (.cells #[.int .u8 7] 5)).alloc (by omega) (.cells #[] 5)).alloc (by omega) (.cells #[.slice (some ⟨g0 + 1, 0, none⟩) 1 1, .slice (some ⟨g0 + 1 + 1, 0, none⟩) 0 0, .slice (some ⟨g0 + 1 + 1 + 1, 0, none⟩) 1 1, .slice (some ⟨g0 + 1 + 1 + 1 + 1, 0, none⟩) 0 0] 112)
    have q1 := ((((Rec.at_ W1 [.int .u8 19] 5 (b := g0 + 1) hz.symm).alloc (.cells #[] 5)).alloc (.cells #[.int .u8 7] 5)).alloc (.cells #[] 5)).alloc (.cells #[.slice (some ⟨g0 + 1, 0, none⟩) 1 1, .slice (some ⟨g0 + 1 + 1, 0, none⟩) 0 0, .slice (some ⟨g0 + 1 + 1 + 1, 0, none⟩) 1 1, .slice (some ⟨g0 + 1 + 1 + 1 + 1, 0, none⟩) 0 0] 112)
    have q2 := ((Rec.at_ _ [.int .u8 7] 5 (b := g0 + 1 + 1 + 1) s2.symm).alloc (.cells #[] 5)).alloc (.cells #[.slice (some ⟨g0 + 1, 0, none⟩) 1 1, .slice (some ⟨g0 + 1 + 1, 0, none⟩) 0 0, .slice (some ⟨g0 + 1 + 1 + 1, 0, none⟩) 1 1, .slice (some ⟨g0 + 1 + 1 + 1 + 1, 0, none⟩) 0 0] 112)
    have q3 := Rec.at_ _ [.slice (some ⟨g0 + 1, 0, none⟩) 1 1, .slice (some ⟨g0 + 1 + 1, 0, none⟩) 0 0, .slice (some ⟨g0 + 1 + 1 + 1, 0, none⟩) 1 1, .slice (some ⟨g0 + 1 + 1 + 1 + 1, 0, none⟩) 0 0] 112 (b := g0 + 1 + 1 + 1 + 1 + 1) s4.symm
    exact ⟨0, g0, cc, s, rfl, rfl, ⟨hb5, ⟨HG.out.symm, by simp [hz], by simp [hz]; omega, Nat.le_refl _⟩, .inl ⟨rfl, rfl⟩, RowAt.below HX.out.2.2.2.1 c5 (by omega), row_last q1, row_last q2, q3⟩⟩
  case round =>
    obtain ⟨i, g, ci, cur, rfl, rfl, hS⟩ := hrel
    have HS := Lib.hid hS
    have hc := hS.now
    have t0 := hS.tab.cell 0 rfl
    have t1 := hS.tab.cell 1 rfl
    have t2 := hS.tab.cell 2 rfl
    have t3 := hS.tab.cell 3 rfl
    have row := hS.row
    have p1 := hS.p1
    have p2 := hS.p2
    clear hS
    rcases hc with ⟨rfl, rfl⟩ | ⟨rfl, rfl⟩ | ⟨rfl, rfl⟩
    · have HP := Lib.hid (fun wX => PzzReplaceAll.goprompt_zzReplaceAll.calls k cur ⟨#[19]⟩ ⟨#[]⟩ r1 wX HX.out.2.1)
      go_wp2_with fail
      refine wp_region_noPanic ?_
      refine wp_region_held_drew (S := fun w' => (RowAt w' g cur ∧ RowAt w' (g0 + 1) ⟨#[19]⟩) ∧ w'.cell? ⟨g0 + 1 + 1 + 1 + 1 + 1, 0, none⟩ = some (.slice (some ⟨g0 + 1, 0, none⟩) 1 1) ∧ w'.cell? ⟨g0 + 1 + 1 + 1 + 1 + 1, 1, none⟩ = some (.slice (some ⟨g0 + 1 + 1, 0, none⟩) 0 0)) (by kernel_rfl) (⟨⟨row, p1⟩, t0, t1⟩) (fun hHeld => ?_)
      refine wpAnyH_take (i := 0) (v := ?v0) (by simp only [List.getElem?_toArray, List.getElem?_cons_succ, List.getElem?_cons_zero]; rfl) (by kernel_rfl) (by kernel_rfl) (by kernel_rfl) (fun _ _ _ h => h) (Or.inl ⟨by rfl, ?h0⟩) (by assumption) ?_
      case h0 => (intro wS hSw; (try dsimp only at hSw); go_simp; try with_reducible rfl)
      try simp only [Act.put, List.setIfInBounds_toArray, List.set_cons_zero, List.set_cons_succ]
      refine wpAnyH_take (i := 1) (v := ?v1) (by simp only [List.getElem?_toArray, List.getElem?_cons_succ, List.getElem?_cons_zero]; rfl) (by kernel_rfl) (by kernel_rfl) (by kernel_rfl) (fun _ _ _ h => h) (Or.inl ⟨by rfl, ?h1⟩) (by assumption) ?_
      case h1 => (intro wS hSw; (try dsimp only at hSw); have hc_ := str_of_row hSw.1.1 ci; go_simp; try with_reducible rfl)
      try simp only [Act.put, List.setIfInBounds_toArray, List.set_cons_zero, List.set_cons_succ]
      refine wpAnyH_take (i := 2) (v := ?v2) (by simp only [List.getElem?_toArray, List.getElem?_cons_succ, List.getElem?_cons_zero]; rfl) (by kernel_rfl) (by kernel_rfl) (by kernel_rfl) (fun _ _ _ h => h) (Or.inl ⟨by rfl, ?h2⟩) (by assumption) ?_
      case h2 => (intro wS hSw; (try dsimp only at hSw); go_simp; try with_reducible rfl)
      try simp only [Act.put, List.setIfInBounds_toArray, List.set_cons_zero, List.set_cons_succ]
      refine wpAnyH_take (i := 3) (v := ?v3) (by simp only [List.getElem?_toArray, List.getElem?_cons_succ, List.getElem?_cons_zero]; rfl) (by kernel_rfl) (by kernel_rfl) (by kernel_rfl) (fun _ _ _ h => h) (Or.inl ⟨by rfl, ?h3⟩) (by assumption) ?_
      case h3 => (intro wS hSw; (try dsimp only at hSw); go_simp; try with_reducible rfl)
      try simp only [Act.put, List.setIfInBounds_toArray, List.set_cons_zero, List.set_cons_succ]
      refine wpAnyH_take (i := 4) (v := ?v4) (by simp only [List.getElem?_toArray, List.getElem?_cons_succ, List.getElem?_cons_zero]; rfl) (by kernel_rfl) (by kernel_rfl) (by kernel_rfl) (fun _ _ _ h => h) (Or.inl ⟨by rfl, ?h4⟩) (by assumption) ?_
      case h4 => (intro wS hSw; (try dsimp only at hSw); go_simp; try with_reducible rfl)
      try simp only [Act.put, List.setIfInBounds_toArray, List.set_cons_zero, List.set_cons_succ]
      refine wpAnyH_take (i := 5) (v := ?v5) (by simp only [List.getElem?_toArray, List.getElem?_cons_succ, List.getElem?_cons_zero]; rfl) (by kernel_rfl) (by kernel_rfl) (by kernel_rfl) (fun _ _ _ h => h) (Or.inl ⟨by rfl, ?h5⟩) (by assumption) ?_
      case h5 => (intro wS hSw; (try dsimp only at hSw); go_simp; try with_reducible rfl)
      try simp only [Act.put, List.setIfInBounds_toArray, List.set_cons_zero, List.set_cons_succ]
      refine wpAnyH_take (i := 6) (v := ?v6) (by simp only [List.getElem?_toArray, List.getElem?_cons_succ, List.getElem?_cons_zero]; rfl) (by kernel_rfl) (by kernel_rfl) (by kernel_rfl) (fun _ _ _ h => h) (Or.inl ⟨by rfl, ?h6⟩) (by assumption) ?_
      case h6 => (intro wS hSw; (try dsimp only at hSw); have hc_ := hSw.2.1; go_simp; try with_reducible rfl)
      try simp only [Act.put, List.setIfInBounds_toArray, List.set_cons_zero, List.set_cons_succ]
      refine wpAnyH_take (i := 7) (v := ?v7) (by simp only [List.getElem?_toArray, List.getElem?_cons_succ, List.getElem?_cons_zero]; rfl) (by kernel_rfl) (by kernel_rfl) (by kernel_rfl) (fun _ _ _ h => h) (Or.inl ⟨by rfl, ?h7⟩) (by assumption) ?_
      case h7 => (intro wS hSw; (try dsimp only at hSw); have hc_ := (show (convert 47 9 (.slice (some ⟨g0 + 1, 0, none⟩) 1 1)).run Tryd.prog wS = .ok (.string ⟨#[19]⟩) wS from str_of_row hSw.1.2 1); go_simp; try with_reducible rfl)
      try simp only [Act.put, List.setIfInBounds_toArray, List.set_cons_zero, List.set_cons_succ]
      refine wpAnyH_take (i := 8) (v := ?v8) (by simp only [List.getElem?_toArray, List.getElem?_cons_succ, List.getElem?_cons_zero]; rfl) (by kernel_rfl) (by kernel_rfl) (by kernel_rfl) (fun _ _ _ h => h) (Or.inl ⟨by rfl, ?h8⟩) (by assumption) ?_
      case h8 => (intro wS hSw; (try dsimp only at hSw); go_simp; try with_reducible rfl)
      try simp only [Act.put, List.setIfInBounds_toArray, List.set_cons_zero, List.set_cons_succ]
      refine wpAnyH_take (i := 9) (v := ?v9) (by simp only [List.getElem?_toArray, List.getElem?_cons_succ, List.getElem?_cons_zero]; rfl) (by kernel_rfl) (by kernel_rfl) (by kernel_rfl) (fun _ _ _ h => h) (Or.inl ⟨by rfl, ?h9⟩) (by assumption) ?_
      case h9 => (intro wS hSw; (try dsimp only at hSw); go_simp; try with_reducible rfl)
      try simp only [Act.put, List.setIfInBounds_toArray, List.set_cons_zero, List.set_cons_succ]
      refine wpAnyH_take (i := 10) (v := ?v10) (by simp only [List.getElem?_toArray, List.getElem?_cons_succ, List.getElem?_cons_zero]; rfl) (by kernel_rfl) (by kernel_rfl) (by kernel_rfl) (fun _ _ _ h => h) (Or.inl ⟨by rfl, ?h10⟩) (by assumption) ?_
      case h10 => (intro wS hSw; (try dsimp only at hSw); go_simp; try with_reducible rfl)
      try simp only [Act.put, List.setIfInBounds_toArray, List.set_cons_zero, List.set_cons_succ]
      refine wpAnyH_take (i := 11) (v := ?v11) (by simp only [List.getElem?_toArray, List.getElem?_cons_succ, List.getElem?_cons_zero]; rfl) (by kernel_rfl) (by kernel_rfl) (by kernel_rfl) (fun _ _ _ h => h) (Or.inl ⟨by rfl, ?h11⟩) (by assumption) ?_
      case h11 => (intro wS hSw; (try dsimp only at hSw); go_simp; try with_reducible rfl)
      try simp only [Act.put, List.setIfInBounds_toArray, List.set_cons_zero, List.set_cons_succ]
      refine wpAnyH_take (i := 12) (v := ?v12) (by simp only [List.getElem?_toArray, List.getElem?_cons_succ, List.getElem?_cons_zero]; rfl) (by kernel_rfl) (by kernel_rfl) (by kernel_rfl) (fun _ _ _ h => h) (Or.inl ⟨by rfl, ?h12⟩) (by assumption) ?_
      case h12 => (intro wS hSw; (try dsimp only at hSw); have hc_ := hSw.2.2; go_simp; try with_reducible rfl)
      try simp only [Act.put, List.setIfInBounds_toArray, List.set_cons_zero, List.set_cons_succ]
      refine wpAnyH_take (i := 13) (v := ?v13) (by simp only [List.getElem?_toArray, List.getElem?_cons_succ, List.getElem?_cons_zero]; rfl) (by kernel_rfl) (by kernel_rfl) (by kernel_rfl) (fun _ _ _ h => h) (Or.inl ⟨by rfl, ?h13⟩) (by assumption) ?_
      case h13 => (intro wS hSw; (try dsimp only at hSw); have hc_ := (show (convert 47 9 (.slice (some ⟨g0 + 1 + 1, 0, none⟩) 0 0)).run Tryd.prog wS = .ok (.string ⟨#[]⟩) wS from str_of_row (row_none wS (g0 + 1 + 1)) 0); go_simp; try with_reducible rfl)
      try simp only [Act.put, List.setIfInBounds_toArray, List.set_cons_zero, List.set_cons_succ]
      refine wpAnyH_ready (rs := [14]) (by kernel_rfl) (by simp) ?_
      refine AllReadyH.cons (o := _) rfl (fun K hK => ?_) AllReadyH.nil
      go_simp
      refine (HP.out _).mono ?_
      rintro e w1 ⟨rfl, hb1⟩
      have hb1 : Below wr.heap.size wr w1 := ((Below.refl wr.heap.size wr).drew).trans hb1
      have hz1 := hb1.size
      refine hK.out _ _ (⟨⟨HS.out.row.below hb1 HS.out.size.2.2.1, HS.out.p1.below hb1 (by have := HS.out.size.2.1; omega)⟩, (hb1.cell (p := ⟨g0 + 1 + 1 + 1 + 1 + 1, 0, none⟩) (by have := HS.out.size.2.1; show _ + _ < _; omega)).trans (HS.out.tab.cell 0 rfl), (hb1.cell (p := ⟨g0 + 1 + 1 + 1 + 1 + 1, 1, none⟩) (by have := HS.out.size.2.1; show _ + _ < _; omega)).trans (HS.out.tab.cell 1 rfl)⟩) (fun hHeld14 => ?_)
      clear hK K
      try simp only [Act.put, List.setIfInBounds_toArray, List.set_cons_zero, List.set_cons_succ]
      obtain ⟨c2, W2, hcv2, hcell2, hb2, hz2⟩ := str_bytes w1 r1
      have hb3 : Below wr.heap.size wr W2 := hb1.trans (hb2.mono hz1)
      have HY := Lib.hid (And.intro hb3 (And.intro hcell2 (And.intro hz2 hz1)))
      clear hb1 hb2 hz2 hz1 hcell2
      refine wpAnyH_ready (rs := [15]) (by kernel_rfl) (by simp) ?_
      refine AllReadyH.cons (o := _) rfl (fun K hK => ?_) AllReadyH.nil
      go_simp
      refine hK.out _ _ (⟨⟨HS.out.row.below HY.out.1 HS.out.size.2.2.1, HS.out.p1.below HY.out.1 (by have := HS.out.size.2.1; omega)⟩, (HY.out.1.cell (p := ⟨g0 + 1 + 1 + 1 + 1 + 1, 0, none⟩) (by have := HS.out.size.2.1; show _ + _ < _; omega)).trans (HS.out.tab.cell 0 rfl), (HY.out.1.cell (p := ⟨g0 + 1 + 1 + 1 + 1 + 1, 1, none⟩) (by have := HS.out.size.2.1; show _ + _ < _; omega)).trans (HS.out.tab.cell 1 rfl)⟩) (fun hHeld15 => ?_)
      clear hK K
      try simp only [Act.put, List.setIfInBounds_toArray, List.set_cons_zero, List.set_cons_succ]
      refine wpAnyH_take (i := 16) (v := ?v16) (by simp only [List.getElem?_toArray, List.getElem?_cons_succ, List.getElem?_cons_zero]; rfl) (by kernel_rfl) (by kernel_rfl) (by kernel_rfl) (fun _ _ _ h => h) (Or.inl ⟨by rfl, ?h16⟩) (by assumption) ?_
      case h16 => (intro wS hSw; (try dsimp only at hSw); go_simp; try with_reducible rfl)
      try simp only [Act.put, List.setIfInBounds_toArray, List.set_cons_zero, List.set_cons_succ]
      refine wpAnyH_done (by kernel_rfl) ?_ _
      refine NoPanic.normal ?_
      go_wp2_with fail
      go_roundw
      case rel => exact ⟨1, w1.heap.size, c2, r1, rfl, rfl, ⟨(HS.out.below).trans (HY.out.1.mono (by have := HS.out.size; omega)), ⟨HS.out.size.1, by have := HS.out.size; have := HY.out.1.size; omega, by have := HY.out.2.2.1; omega, by have := HS.out.size; have := HY.out.2.2.2; omega⟩, (.inr (.inl ⟨rfl, rfl⟩)), HY.out.2.1, HS.out.p1.below HY.out.1 (by have := HS.out.size.2.1; omega), HS.out.p2.below HY.out.1 (by have := HS.out.size.2.1; omega), HS.out.tab.below HY.out.1 (by have := HS.out.size.2.1; omega)⟩⟩
      case measure => simp only [intOf]; omega
    · have HP := Lib.hid (fun wX => PzzReplaceAll.goprompt_zzReplaceAll.calls k cur ⟨#[7]⟩ ⟨#[]⟩ r2 wX HX.out.2.2.1)
      go_wp2_with fail
      refine wp_region_noPanic ?_
      refine wp_region_held_drew (S := fun w' => (RowAt w' g cur ∧ RowAt w' (g0 + 1 + 1 + 1) ⟨#[7]⟩) ∧ w'.cell? ⟨g0 + 1 + 1 + 1 + 1 + 1, 2, none⟩ = some (.slice (some ⟨g0 + 1 + 1 + 1, 0, none⟩) 1 1) ∧ w'.cell? ⟨g0 + 1 + 1 + 1 + 1 + 1, 3, none⟩ = some (.slice (some ⟨g0 + 1 + 1 + 1 + 1, 0, none⟩) 0 0)) (by kernel_rfl) (⟨⟨row, p2⟩, t2, t3⟩) (fun hHeld => ?_)
      refine wpAnyH_take (i := 0) (v := ?v0b) (by simp only [List.getElem?_toArray, List.getElem?_cons_succ, List.getElem?_cons_zero]; rfl) (by kernel_rfl) (by kernel_rfl) (by kernel_rfl) (fun _ _ _ h => h) (Or.inl ⟨by rfl, ?h0b⟩) (by assumption) ?_
      case h0b => (intro wS hSw; (try dsimp only at hSw); go_simp; try with_reducible rfl)
      try simp only [Act.put, List.setIfInBounds_toArray, List.set_cons_zero, List.set_cons_succ]
      refine wpAnyH_take (i := 1) (v := ?v1b) (by simp only [List.getElem?_toArray, List.getElem?_cons_succ, List.getElem?_cons_zero]; rfl) (by kernel_rfl) (by kernel_rfl) (by kernel_rfl) (fun _ _ _ h => h) (Or.inl ⟨by rfl, ?h1b⟩) (by assumption) ?_
      case h1b => (intro wS hSw; (try dsimp only at hSw); have hc_ := str_of_row hSw.1.1 ci; go_simp; try with_reducible rfl)
      try simp only [Act.put, List.setIfInBounds_toArray, List.set_cons_zero, List.set_cons_succ]
      refine wpAnyH_take (i := 2) (v := ?v2b) (by simp only [List.getElem?_toArray, List.getElem?_cons_succ, List.getElem?_cons_zero]; rfl) (by kernel_rfl) (by kernel_rfl) (by kernel_rfl) (fun _ _ _ h => h) (Or.inl ⟨by rfl, ?h2b⟩) (by assumption) ?_
      case h2b => (intro wS hSw; (try dsimp only at hSw); go_simp; try with_reducible rfl)
      try simp only [Act.put, List.setIfInBounds_toArray, List.set_cons_zero, List.set_cons_succ]
      refine wpAnyH_take (i := 3) (v := ?v3b) (by simp only [List.getElem?_toArray, List.getElem?_cons_succ, List.getElem?_cons_zero]; rfl) (by kernel_rfl) (by kernel_rfl) (by kernel_rfl) (fun _ _ _ h => h) (Or.inl ⟨by rfl, ?h3b⟩) (by assumption) ?_
      case h3b => (intro wS hSw; (try dsimp only at hSw); go_simp; try with_reducible rfl)
      try simp only [Act.put, List.setIfInBounds_toArray, List.set_cons_zero, List.set_cons_succ]
      refine wpAnyH_take (i := 4) (v := ?v4b) (by simp only [List.getElem?_toArray, List.getElem?_cons_succ, List.getElem?_cons_zero]; rfl) (by kernel_rfl) (by kernel_rfl) (by kernel_rfl) (fun _ _ _ h => h) (Or.inl ⟨by rfl, ?h4b⟩) (by assumption) ?_
      case h4b => (intro wS hSw; (try dsimp only at hSw); go_simp; try with_reducible rfl)
      try simp only [Act.put, List.setIfInBounds_toArray, List.set_cons_zero, List.set_cons_succ]
      refine wpAnyH_take (i := 5) (v := ?v5b) (by simp only [List.getElem?_toArray, List.getElem?_cons_succ, List.getElem?_cons_zero]; rfl) (by kernel_rfl) (by kernel_rfl) (by kernel_rfl) (fun _ _ _ h => h) (Or.inl ⟨by rfl, ?h5b⟩) (by assumption) ?_
      case h5b => (intro wS hSw; (try dsimp only at hSw); go_simp; try with_reducible rfl)
      try simp only [Act.put, List.setIfInBounds_toArray, List.set_cons_zero, List.set_cons_succ]
      refine wpAnyH_take (i := 6) (v := ?v6b) (by simp only [List.getElem?_toArray, List.getElem?_cons_succ, List.getElem?_cons_zero]; rfl) (by kernel_rfl) (by kernel_rfl) (by kernel_rfl) (fun _ _ _ h => h) (Or.inl ⟨by rfl, ?h6b⟩) (by assumption) ?_
      case h6b => (intro wS hSw; (try dsimp only at hSw); have hc_ := hSw.2.1; go_simp; try with_reducible rfl)
      try simp only [Act.put, List.setIfInBounds_toArray, List.set_cons_zero, List.set_cons_succ]
      refine wpAnyH_take (i := 7) (v := ?v7b) (by simp only [List.getElem?_toArray, List.getElem?_cons_succ, List.getElem?_cons_zero]; rfl) (by kernel_rfl) (by kernel_rfl) (by kernel_rfl) (fun _ _ _ h => h) (Or.inl ⟨by rfl, ?h7b⟩) (by assumption) ?_
      case h7b => (intro wS hSw; (try dsimp only at hSw); have hc_ := (show (convert 47 9 (.slice (some ⟨g0 + 1 + 1 + 1, 0, none⟩) 1 1)).run Tryd.prog wS = .ok (.string ⟨#[7]⟩) wS from str_of_row hSw.1.2 1); go_simp; try with_reducible rfl)
      try simp only [Act.put, List.setIfInBounds_toArray, List.set_cons_zero, List.set_cons_succ]
      refine wpAnyH_take (i := 8) (v := ?v8b) (by simp only [List.getElem?_toArray, List.getElem?_cons_succ, List.getElem?_cons_zero]; rfl) (by kernel_rfl) (by kernel_rfl) (by kernel_rfl) (fun _ _ _ h => h) (Or.inl ⟨by rfl, ?h8b⟩) (by assumption) ?_
      case h8b => (intro wS hSw; (try dsimp only at hSw); go_simp; try with_reducible rfl)
      try simp only [Act.put, List.setIfInBounds_toArray, List.set_cons_zero, List.set_cons_succ]
      refine wpAnyH_take (i := 9) (v := ?v9b) (by simp only [List.getElem?_toArray, List.getElem?_cons_succ, List.getElem?_cons_zero]; rfl) (by kernel_rfl) (by kernel_rfl) (by kernel_rfl) (fun _ _ _ h => h) (Or.inl ⟨by rfl, ?h9b⟩) (by assumption) ?_
      case h9b => (intro wS hSw; (try dsimp only at hSw); go_simp; try with_reducible rfl)
      try simp only [Act.put, List.setIfInBounds_toArray, List.set_cons_zero, List.set_cons_succ]
      refine wpAnyH_take (i := 10) (v := ?v10b) (by simp only [List.getElem?_toArray, List.getElem?_cons_succ, List.getElem?_cons_zero]; rfl) (by kernel_rfl) (by kernel_rfl) (by kernel_rfl) (fun _ _ _ h => h) (Or.inl ⟨by rfl, ?h10b⟩) (by assumption) ?_
      case h10b => (intro wS hSw; (try dsimp only at hSw); go_simp; try with_reducible rfl)
      try simp only [Act.put, List.setIfInBounds_toArray, List.set_cons_zero, List.set_cons_succ]
      refine wpAnyH_take (i := 11) (v := ?v11b) (by simp only [List.getElem?_toArray, List.getElem?_cons_succ, List.getElem?_cons_zero]; rfl) (by kernel_rfl) (by kernel_rfl) (by kernel_rfl) (fun _ _ _ h => h) (Or.inl ⟨by rfl, ?h11b⟩) (by assumption) ?_
      case h11b => (intro wS hSw; (try dsimp only at hSw); go_simp; try with_reducible rfl)
      try simp only [Act.put, List.setIfInBounds_toArray, List.set_cons_zero, List.set_cons_succ]
      refine wpAnyH_take (i := 12) (v := ?v12b) (by simp only [List.getElem?_toArray, List.getElem?_cons_succ, List.getElem?_cons_zero]; rfl) (by kernel_rfl) (by kernel_rfl) (by kernel_rfl) (fun _ _ _ h => h) (Or.inl ⟨by rfl, ?h12b⟩) (by assumption) ?_
      case h12b => (intro wS hSw; (try dsimp only at hSw); have hc_ := hSw.2.2; go_simp; try with_reducible rfl)
      try simp only [Act.put, List.setIfInBounds_toArray, List.set_cons_zero, List.set_cons_succ]
      refine wpAnyH_take (i := 13) (v := ?v13b) (by simp only [List.getElem?_toArray, List.getElem?_cons_succ, List.getElem?_cons_zero]; rfl) (by kernel_rfl) (by kernel_rfl) (by kernel_rfl) (fun _ _ _ h => h) (Or.inl ⟨by rfl, ?h13b⟩) (by assumption) ?_
      case h13b => (intro wS hSw; (try dsimp only at hSw); have hc_ := (show (convert 47 9 (.slice (some ⟨g0 + 1 + 1 + 1 + 1, 0, none⟩) 0 0)).run Tryd.prog wS = .ok (.string ⟨#[]⟩) wS from str_of_row (row_none wS (g0 + 1 + 1 + 1 + 1)) 0); go_simp; try with_reducible rfl)
      try simp only [Act.put, List.setIfInBounds_toArray, List.set_cons_zero, List.set_cons_succ]
      refine wpAnyH_ready (rs := [14]) (by kernel_rfl) (by simp) ?_
      refine AllReadyH.cons (o := _) rfl (fun K hK => ?_) AllReadyH.nil
      go_simp
      refine (HP.out _).mono ?_
      rintro e w1 ⟨rfl, hb1⟩
      have hb1 : Below wr.heap.size wr w1 := ((Below.refl wr.heap.size wr).drew).trans hb1
      have hz1 := hb1.size
      refine hK.out _ _ (⟨⟨HS.out.row.below hb1 HS.out.size.2.2.1, HS.out.p2.below hb1 (by have := HS.out.size.2.1; omega)⟩, (hb1.cell (p := ⟨g0 + 1 + 1 + 1 + 1 + 1, 2, none⟩) (by have := HS.out.size.2.1; show _ + _ < _; omega)).trans (HS.out.tab.cell 2 rfl), (hb1.cell (p := ⟨g0 + 1 + 1 + 1 + 1 + 1, 3, none⟩) (by have := HS.out.size.2.1; show _ + _ < _; omega)).trans (HS.out.tab.cell 3 rfl)⟩) (fun hHeld14 => ?_)
      clear hK K
      try simp only [Act.put, List.setIfInBounds_toArray, List.set_cons_zero, List.set_cons_succ]
      obtain ⟨c2, W2, hcv2, hcell2, hb2, hz2⟩ := str_bytes w1 r2
      have hb3 : Below wr.heap.size wr W2 := hb1.trans (hb2.mono hz1)
      have HY := Lib.hid (And.intro hb3 (And.intro hcell2 (And.intro hz2 hz1)))
      clear hb1 hb2 hz2 hz1 hcell2
      refine wpAnyH_ready (rs := [15]) (by kernel_rfl) (by simp) ?_
      refine AllReadyH.cons (o := _) rfl (fun K hK => ?_) AllReadyH.nil
      go_simp
      refine hK.out _ _ (⟨⟨HS.out.row.below HY.out.1 HS.out.size.2.2.1, HS.out.p2.below HY.out.1 (by have := HS.out.size.2.1; omega)⟩, (HY.out.1.cell (p := ⟨g0 + 1 + 1 + 1 + 1 + 1, 2, none⟩) (by have := HS.out.size.2.1; show _ + _ < _; omega)).trans (HS.out.tab.cell 2 rfl), (HY.out.1.cell (p := ⟨g0 + 1 + 1 + 1 + 1 + 1, 3, none⟩) (by have := HS.out.size.2.1; show _ + _ < _; omega)).trans (HS.out.tab.cell 3 rfl)⟩) (fun hHeld15 => ?_)
      clear hK K
      try simp only [Act.put, List.setIfInBounds_toArray, List.set_cons_zero, List.set_cons_succ]
      refine wpAnyH_take (i := 16) (v := ?v16b) (by simp only [List.getElem?_toArray, List.getElem?_cons_succ, List.getElem?_cons_zero]; rfl) (by kernel_rfl) (by kernel_rfl) (by kernel_rfl) (fun _ _ _ h => h) (Or.inl ⟨by rfl, ?h16b⟩) (by assumption) ?_
      case h16b => (intro wS hSw; (try dsimp only at hSw); go_simp; try with_reducible rfl)
      try simp only [Act.put, List.setIfInBounds_toArray, List.set_cons_zero, List.set_cons_succ]
      refine wpAnyH_done (by kernel_rfl) ?_ _
      refine NoPanic.normal ?_
      go_wp2_with fail
      go_roundw
      case rel => exact ⟨2, w1.heap.size, c2, r2, rfl, rfl, ⟨(HS.out.below).trans (HY.out.1.mono (by have := HS.out.size; omega)), ⟨HS.out.size.1, by have := HS.out.size; have := HY.out.1.size; omega, by have := HY.out.2.2.1; omega, by have := HS.out.size; have := HY.out.2.2.2; omega⟩, (.inr (.inr ⟨rfl, rfl⟩)), HY.out.2.1, HS.out.p1.below HY.out.1 (by have := HS.out.size.2.1; omega), HS.out.p2.below HY.out.1 (by have := HS.out.size.2.1; omega), HS.out.tab.below HY.out.1 (by have := HS.out.size.2.1; omega)⟩⟩
      case measure => simp only [intOf]; omega
    · have HVr := Lib.hid ((VT.refl HX.out.1).stays (w2 := wr) (by rw [HG.out]; exact HS.out.below) (by have := HX.out.1.ge; have := HX.out.1.blk.lt; omega))
      have a1 := Below.alloc (Below.refl wr.heap.size wr) (Nat.le_refl _) (.cells #[.int .u8 27, .int .u8 93, .int .u8 50, .int .u8 59] 5)
      have hbs := HX.out.2.2.2.2.2.2
      have HC1 := Lib.hid (WriteRaw_calls (cd := 4) (nw := [27, 93, 50, 59]) (HVr.out.state.stays a1) (by show _ + 4 ≤ _; omega) (row_new wr [.int .u8 27, .int .u8 93, .int .u8 50, .int .u8 59] 5))
      have HR1 := Lib.hid (And.intro (HVr.out.stays a1 (by have := HX.out.1.ge; have := HX.out.1.blk.lt; have := HVr.out.below.size; omega)) (HS.out.row.below a1 HS.out.size.2.2.1))
      clear a1 hbs row p1 p2 t0 t1 t2 t3
      go_wp2_with fail
      refine HC1.out.mono ?_
      rintro e w2 ⟨rfl, T2, c2, hT2⟩
      have hro : RowAt w2 g cur := HR1.out.2.same (hT2.keep g (by have := HS.out.size; simp; omega) (by have := HX.out.1.blk.lt; have := HS.out.size; have := HG.out; omega) (by intro e; have := (World.ownsRow.lt HX.out.1.row g e).2; have := HS.out.size; have := HG.out; omega))
      have HT2 := Lib.hid (And.intro (HR1.out.1.trans hT2) hro)
      clear hT2 hro
      have hl := ints_length cur
      have hz2 := HZ.out.2.2
      have hbs := HX.out.2.2.2.2.2.2
      have HC2 := WriteRaw_calls (cd := ci) (nw := ints cur) HT2.out.1.state (by simp only [List.length_append, List.length_cons, List.length_nil]; omega) HT2.out.2
      rw [hl] at HC2
      have HC2 := Lib.hid HC2
      clear hl hz2 hbs
      go_wp2_with fail
      refine HC2.out.mono ?_
      rintro e w3 ⟨rfl, T3, c3, hT3⟩
      have HT3 := Lib.hid (HT2.out.1.trans hT3)
      clear hT3
      have a3 := Below.alloc (Below.refl w3.heap.size w3) (Nat.le_refl _) (.cells #[.int .u8 7] 5)
      have hl := ints_length cur
      have hz2 := HZ.out.2.2
      have hbs := HX.out.2.2.2.2.2.2
      have HC3 := Lib.hid (WriteRaw_calls (cd := 1) (nw := [7]) (HT3.out.state.stays a3) (by simp only [List.length_append, List.length_cons, List.length_nil]; omega) (row_new w3 [.int .u8 7] 5))
      have HR3 := Lib.hid (HT3.out.stays a3 (by have := HX.out.1.ge; have := HX.out.1.blk.lt; have := HT3.out.below.size; omega))
      clear a3 hl hz2 hbs
      go_wp2_with fail
      refine HC3.out.mono ?_
      rintro e w4 ⟨rfl, T4, c4, hT4⟩
      have HT4 := Lib.hid (HR3.out.trans hT4)
      clear hT4
      go_wp2_with fail
      go_end0
      exact ⟨rfl, T4, c4, HT4.out⟩
set_option maxHeartbeats 4000000 in
theorem wrote_title {N m c k : Nat} {T : Option Addr} {w : World} {bs : List Int} (h : VS w N m T c bs) (n1 n2 : Int) (s r1 r2 : ByteArray) (hs : s.size ≤ 1000) (hb : bs.length ≤ 800000) (h1 : PzzReplaceAll.goprompt_zzReplaceAll.f k s ⟨#[19]⟩ ⟨#[]⟩ = some r1) (h2 : PzzReplaceAll.goprompt_zzReplaceAll.f k r1 ⟨#[7]⟩ ⟨#[]⟩ = some r2) (z1 : r1.size ≤ 1000) (z2 : r2.size ≤ 1000) : Calls Tryd.prog 43 #[Wp m, .agg #[.int .i64 21, .int .i64 n1, .int .i64 n2, .string s]] w fun e w' => e = .returned (.bool true) ∧ ∃ T' c', VT N m T bs.length c w T' c' (bs ++ [27, 93, 50, 59] ++ ints r2 ++ [7]) w' := by
  have hN := h.ge
  have hlt := h.blk.lt
  have b1 := Below.alloc (Below.refl w.heap.size w) (Nat.le_refl _) (.cells #[.int .i64 21, .int .i64 n1, .int .i64 n2, .string s] 38)
  have nb := Rec.new w [.int .i64 21, .int .i64 n1, .int .i64 n2, .string s] 38
  have k0 := nb.cell 0 rfl
  have k3 := nb.cell 3 rfl
  have HC := Lib.hid (SetTitle_calls (h.stays b1) s r1 r2 hs hb h1 h2 z1 z2)
  have HR := Lib.hid ((VT.refl h).stays b1 (by omega))
  clear h nb b1 h1 h2
  go_enter Tryd.func43, Tryd.ntmps43
  go_wp2_with fail
  refine HC.out.mono ?_
  rintro e w2 ⟨rfl, T', c', hT⟩
  have HT := Lib.hid (HR.out.trans hT)
  clear hT
  go_wp2_with fail
  go_ret
  exact ⟨rfl, T', c', HT.out⟩
end Go.Proofs.YtanadaamipfmkaaDoor.H
