/- Lines that are edited by steps (impl.Keyed, impl.KeyedOnce, laws.after9): the contracts by which the laws take them; of steps that fail, and of those that put in, or take out by words, nothing is said. -/
import Derived.Test.YtdinikcfhpfojaaDoorQHLoop
namespace Go.Proofs.YtdinikcfhpfojaaDoor.H
open Go.RowKit Go.Proofs.YtdinikcfhpfojaaDoorW.PrintWords Go.Proofs.YtdinikcfhpfojaaDoorW.PrintLast Go.Proofs.YtdinikcfhpfojaaDoor.R
set_option linter.unusedVariables false
set_option linter.unusedSimpArgs false
attribute [local go_sem ↓] Go.wp_at_zero Go.wp_at_succ
theorem make_full (n : Nat) (hn : n ≤ 2000000000) (w : World) : (Instr.makeSlice 66 (.int .i64 (n : Int)) (.int .i64 (n : Int))).run Tryd.prog w = .ok (.slice (some ⟨w.heap.size, 0, none⟩) n n) (w.alloc (.cells (madeCells #[.int .i32 0] n).toList.toArray 21)) := by
  obtain ⟨i0, hi, hz0, hz1, hz2⟩ := info_parts info21
  have := run_make (P := Tryd.prog) w 66 21 i0 (.int .i32 0) Tryd.underlying66 hi hz0 .i64 .i64 (n : Int) (n : Int) (by omega) (by omega) (by rw [hz2]; omega) (by omega)
  simp only [Int.toNat_natCast, hz1, Nat.mul_one] at this
  rw [Array.toArray_toList]
  exact this
theorem Nums.below {w w1 : World} {B : Nat} {v : Value} {xs : List Int} (h : Nums w B v xs) (hb : Below w.heap.size w w1) : Nums w1 B v xs := h.move fun k hk => hb.block k (h.lt k hk)
theorem Nums.setrec {w : World} {B : Nat} {v : Value} {xs : List Int} (h : Nums w B v xs) {b : Nat} {l : List Value} {t : TypeId} (hr : Rec w b l t) (ht : t ≠ 3) (i : Nat) (u : Value) : Nums (w.setCell ⟨b, i, none⟩ u) B v xs :=
  h.move fun k hk => Below.heap_setCell w ⟨b, i, none⟩ u k (num_ne_rec (h.num k hk).1 hr ht)
theorem RB.drew {w : World} {B m : Nat} {q : Rest} {s : KS} (h : RB w B m q s) : RB w.drew B m q s := by
  obtain ⟨bv, kv, hm, hb, hk, hd, hB, hi⟩ := h
  exact ⟨bv, kv, hm.drew, hb.drew, hk.drew, hd, hB, hi⟩
theorem splice_all (L cs : List Value) (h : L.length = cs.length) : splice L 0 cs = cs := by unfold splice; simp [h]
set_option maxRecDepth 10000 in
set_option maxHeartbeats 2000000 in
theorem Runes_calls (m B : Nat) (s : KS) (r : Rest) (w : World) (h : RB w B m r s) (hl : s.buf.length ≤ 1000000000) :
    Calls Tryd.prog 43 #[Pt m] w fun e w' => e = .returned (.slice (some ⟨w.heap.size, 0, none⟩) s.buf.length s.buf.length) ∧ Rec w' w.heap.size (s.buf.map (Value.int .i32)) 21 ∧ Below w.heap.size w w' := by
  obtain ⟨bv, kv, hm, hb, hk, hd, hB, hi⟩ := h
  obtain ⟨buf, idx, kill⟩ := s
  dsimp only at *
  obtain ⟨A, c, rfl, hlc, hcm, hA⟩ := hb.form
  have k0 := hm.cell 0 rfl
  have hmk := make_full buf.length (by omega)
  have hcl : (madeCells #[.int .i32 0] buf.length).toList.length = buf.length := by rw [Array.length_toList, size_madeCells]
  generalize (madeCells #[.int .i32 0] buf.length).toList = L at *
  have k1 := (hm.alloc (.cells L.toArray 21)).cell 0 rfl
  have hb1 := (Below.refl w.heap.size w).alloc (Nat.le_refl _) (.cells L.toArray 21)
  have HP := Lib.hid (show 0 < (buf.map (Value.int .i32)).length → (some ⟨w.heap.size, 0, none⟩ : Option Addr) = some ⟨w.heap.size, 0, none⟩ ∧ ∃ ad, A = some ad ∧ ∀ j v, (buf.map (Value.int .i32))[j]? = some v → (w.alloc (.cells L.toArray 21)).cell? (ad.add j) = some v from fun h0 => by
    rcases hA with ⟨rfl, rfl, rfl⟩ | ⟨g, rfl, hg, hBg, hc⟩
    · simp at h0
    · refine ⟨rfl, _, rfl, fun j v hj => ?_⟩
      rw [List.getElem?_map] at hj
      obtain ⟨x, hx, rfl⟩ := Option.map_eq_some_iff.1 hj
      obtain ⟨hjl, rfl⟩ := List.getElem?_eq_some_iff.1 hx
      have h1 := pw_cell_below hb1 (hc j hjl)
      rw [show ((⟨g, 0, none⟩ : Addr).add j) = ⟨g, j, none⟩ by unfold Addr.add; split <;> simp_all, h1]
      simp [List.getD, List.getElem?_eq_getElem hjl])
  have HL := Lib.hid hcl
  have hsz : (Tryd.prog.info? 21).map (·.size) = some 1 := by kernel_rfl
  have HSZ := Lib.hid hsz
  have hnew : (w.alloc (.cells L.toArray 21)).heap[w.heap.size]? = some (.cells L.toArray 21 (0, 0)) := Go.heap_alloc_new w _
  have HNEW := Lib.hid hnew
  clear hA hcl hsz hnew
  go_enter Tryd.func43, Tryd.ntmps43
  go_wp2_with ((with_reducible refine gate_dst (N := 15) rfl ?_); refine wpList_copy_splice rfl (.tmp 10) (.tmp 14) 66 66 rfl 21 Tryd.underlying66 HSZ.out (some ⟨w.heap.size, 0, none⟩) A buf.length buf.length buf.length c rfl rfl w.heap.size 0 L 21 HNEW.out (buf.map (Value.int .i32)) (by simp) HP.out (by rw [HL.out]; simp) (by intro v hv; obtain ⟨x, _, rfl⟩ := List.mem_map.1 hv; rfl) w.heap.size w hb1 (Nat.le_refl _) ?_; intro w1 hg1 hbl1)
  go_ret
  refine ⟨rfl, ?_, hbl1⟩
  have := hg1.out
  rw [splice_all _ _ (by rw [HL.out]; simp)] at this
  exact this
theorem Pos_calls (m B : Nat) (s : KS) (r : Rest) (w : World) (h : RB w B m r s) : Calls Tryd.prog 44 #[Pt m] w fun e w' => e = .returned (.int .i64 s.idx) ∧ w' = w := by
  obtain ⟨bv, kv, hm, hb, hk, hd, hB, hi⟩ := h
  have k1 := hm.cell 1 rfl
  go_enter Tryd.func44, Tryd.ntmps44
  go_wp2
  go_ret
  exact ⟨rfl, rfl⟩
theorem Fr3.rec {B : Nat} {X : Nat → Prop} {w w1 : World} {b : Nat} {l : List Value} {t : TypeId} (h : Fr3 B X w w1) (ho : Rec w b l t) (ht : t ≠ 21) (h3 : t ≠ 3) (hx : ¬ X b) : Rec w1 b l t :=
  (h.2 b ho.lt hx (fun ⟨cs, e⟩ => by rw [show w.heap[b]? = _ from ho] at e; injection e with e; injection e with _ e; exact ht e) (fun ⟨cs, e⟩ => by rw [show w.heap[b]? = _ from ho] at e; injection e with e; injection e with _ e; exact h3 e)).trans ho
def rest0 : Rest := ⟨.slice none 0 0, .int .i64 0, .bool false, .bool false, .int .i32 0, .int .i64 0, .pointer none, .string ⟨#[]⟩⟩
/-- The world in which the steps are run. -/
def W6 (w : World) (A : Option Addr) (n c : Nat) : World := (((((w.alloc (.cells #[.slice A n c] 26)).alloc (.cells #[.string ⟨#[]⟩, .int .i64 0] 23)).alloc (.cells #[.slice none 0 0] 27)).alloc (.cells (rbc (.slice none 0 0) 0 rest0 (.slice none 0 0)).toArray 89)).alloc (.cells #[Pt (w.heap.size + 3)] 68)).alloc (.cells #[.bool true] 4)
theorem W6_size (w : World) (A : Option Addr) (n c : Nat) : (W6 w A n c).heap.size = w.heap.size + 6 := by simp [W6]
theorem W6_below (w : World) (A : Option Addr) (n c : Nat) : Below w.heap.size w (W6 w A n c) := (((((((Below.refl _ _).alloc (Nat.le_refl _) _).alloc (by simp) _).alloc (by simp; omega) _).alloc (by simp; omega) _).alloc (by simp; omega) _).alloc (by simp; omega) _)
theorem W6_facts (w : World) (A : Option Addr) (n c : Nat) : One (W6 w A n c) w.heap.size (.slice A n c) 26 ∧ Rec (W6 w A n c) (w.heap.size + 1) [.string ⟨#[]⟩, .int .i64 0] 23 ∧ One (W6 w A n c) (w.heap.size + 2) (.slice none 0 0) 27 ∧ RB (W6 w A n c) w.heap.size (w.heap.size + 3) rest0 ⟨[], 0, []⟩ ∧ One (W6 w A n c) (w.heap.size + 4) (Pt (w.heap.size + 3)) 68 ∧ One (W6 w A n c) (w.heap.size + 5) (.bool true) 4 := by
  have h0 := One.new w (.slice A n c) 26
  have h1 := Rec.at_ (b := w.heap.size + 1) (w.alloc (.cells #[.slice A n c] 26)) [.string ⟨#[]⟩, .int .i64 0] 23 (by simp)
  have h2 := One.at_ (b := w.heap.size + 2) ((w.alloc (.cells #[.slice A n c] 26)).alloc (.cells #[.string ⟨#[]⟩, .int .i64 0] 23)) (.slice none 0 0) 27 (by simp)
  have h3 := Rec.at_ (b := w.heap.size + 3) (((w.alloc (.cells #[.slice A n c] 26)).alloc (.cells #[.string ⟨#[]⟩, .int .i64 0] 23)).alloc (.cells #[.slice none 0 0] 27)) (rbc (.slice none 0 0) 0 rest0 (.slice none 0 0)) 89 (by simp)
  have h4 := One.at_ (b := w.heap.size + 4) ((((w.alloc (.cells #[.slice A n c] 26)).alloc (.cells #[.string ⟨#[]⟩, .int .i64 0] 23)).alloc (.cells #[.slice none 0 0] 27)).alloc (.cells (rbc (.slice none 0 0) 0 rest0 (.slice none 0 0)).toArray 89)) (Pt (w.heap.size + 3)) 68 (by simp)
  have h5 := One.at_ (b := w.heap.size + 5) (((((w.alloc (.cells #[.slice A n c] 26)).alloc (.cells #[.string ⟨#[]⟩, .int .i64 0] 23)).alloc (.cells #[.slice none 0 0] 27)).alloc (.cells (rbc (.slice none 0 0) 0 rest0 (.slice none 0 0)).toArray 89)).alloc (.cells #[Pt (w.heap.size + 3)] 68)) (.bool true) 4 (by simp)
  exact ⟨((((h0.alloc _).alloc _).alloc _).alloc _).alloc _, (((h1.alloc _).alloc _).alloc _).alloc _, ((h2.alloc _).alloc _).alloc _,
    ⟨_, _, (h3.alloc _).alloc _, Own.nil _ _, Own.nil _ _, fun k e => by simp [Value.ownBlock] at e, by omega, Nat.le_refl _⟩, h4.alloc _, h5⟩
/-- What the steps leave. -/
def K6 (w w' : World) (s1 : KS) (v : Value) (ts : List Int) : Prop := Rec w' (w.heap.size + 1) [.string ⟨#[]⟩, .int .i64 0] 23 ∧ One w' (w.heap.size + 2) v 27 ∧ RB w' w.heap.size (w.heap.size + 3) rest0 s1 ∧ One w' (w.heap.size + 4) (Pt (w.heap.size + 3)) 68 ∧ One w' (w.heap.size + 5) (.bool true) 4 ∧ Nums w' w.heap.size v ts ∧ Below w.heap.size w w'
theorem caught_steps (A : Option Addr) (c : Nat) (l : List Key5) (w : World) (s1 : KS) (ts : List Int) (hl : l.length ≤ 1000000) (hlc : l.length ≤ c) (hK : KR w w.heap.size A l) (hrun : krun ⟨[], 0, []⟩ l = some (s1, ts)) :
    Calls Tryd.prog 39 #[.func (.func 51) #[] #[Pt w.heap.size, Pt (w.heap.size + 4), Pt (w.heap.size + 5), Pt (w.heap.size + 2)]] (W6 w A l.length c) fun e w' => e = .returned (.bool true) ∧ ∃ T ct, K6 w w' s1 (.slice T ts.length ct) ts := by
  obtain ⟨h0, h1, h2, h3, h4, h5⟩ := W6_facts w A l.length c
  have hz := W6_size w A l.length c
  have hb := W6_below w A l.length c
  generalize W6 w A l.length c = W at *
  refine (caught_calls 51 _ W (fun w' => ∃ T ct, LS (W.alloc (.cells #[.bool false] 4)) w' w.heap.size w.heap.size (w.heap.size + 4) (w.heap.size + 5) (w.heap.size + 2) (w.heap.size + 3) rest0 A l.length c s1 (.slice T ts.length ct) ts) enter51 ?_).mono ?_
  · refine (loop_closure w.heap.size (w.heap.size + 4) (w.heap.size + 5) (w.heap.size + 2) (w.heap.size + 3) w.heap.size c A l rest0 ⟨[], 0, []⟩ s1 ts _ hl hlc (h0.alloc _) (h4.alloc _) (h5.alloc _) (h2.alloc _) (by omega) (by omega) (by omega) (by omega) (by omega) (by omega) (by omega) (by omega) (by omega) (by omega) (by omega) (h3.alloc _) (hK.below (hb.alloc (by omega) _)) hrun).mono ?_
    rintro e w' ⟨rfl, T, ct, hL⟩
    exact ⟨rfl, hL.2.2.2.2.2.2.one (One.new W (.bool false) 4) (by decide) (by decide) (by omega), T, ct, hL⟩
  · rintro e w' ⟨rfl, w1, ⟨T, ct, g1, g2, g3, g4, g5, g6, g7⟩, ho, rfl⟩
    refine ⟨rfl, T, ct, (g7.rec (h1.alloc _) (by decide) (by decide) (by omega)).other (by show _ ≠ W.heap.size; omega) _, g4.other (by show _ ≠ W.heap.size; omega) _, g5.one ho (by decide) (by omega), g2.other (by show _ ≠ W.heap.size; omega) _, g3.other (by show _ ≠ W.heap.size; omega) _, g6.move fun k hk => Below.heap_setCell w1 _ _ k (num_ne_one (g6.num k hk).1 ho (by decide)), ?_⟩
    exact ((hb.alloc (by omega) _).trans g7.1).setCell (by show _ ≤ W.heap.size; omega) _
set_option maxRecDepth 100000 in
set_option maxHeartbeats 8000000 in
theorem Keyed_calls (A : Option Addr) (c : Nat) (l : List Key5) (w : World) (s1 : KS) (ts : List Int) (hl : l.length ≤ 1000000) (hlc : l.length ≤ c) (hK : KR w w.heap.size A l) (hrun : krun ⟨[], 0, []⟩ l = some (s1, ts)) (hs1 : s1.buf.length ≤ 1000000000) :
    Calls Tryd.prog 28 #[.slice A l.length c] w fun e w' => (∃ T ct, e = .returned (.tuple #[.agg #[.string (runesBytes s1.buf), .int .i64 s1.idx], .slice T ts.length ct, .bool true]) ∧ Nums w' w.heap.size (.slice T ts.length ct) ts) ∧ Below w.heap.size w w' := by
  have hmf := made_f
  have HC := Lib.hid (caught_steps A c l w s1 ts hl hlc hK hrun)
  clear hK hrun
  go_enter Tryd.func28, Tryd.ntmps28
  go_wp2_with fail
  refine HC.out.mono ?_
  rintro e w1 ⟨rfl, T, ct, g1, g2, g3, g4, g5, g6, g7⟩
  have HG := Lib.hid (And.intro g1 (And.intro g2 (And.intro g3 (And.intro g4 (And.intro g5 (And.intro g6 g7))))))
  have c4 := g4.cell
  have c5 := g5.cell
  have c2 := g2.cell
  have z2 := g2.free
  have c1 := g1.cell 0 rfl
  have c1b := g1.cell 1 rfl
  have z1 := g1.free 0
  have z1b := g1.free 1
  have hl1 := g1.lt
  have hl2 := g2.lt
  have hl4 := g4.lt
  have HRB := Lib.hid g3
  clear g1 g2 g3 g4 g5 g6 g7
  go_wp2
  refine wp_region_noPanic ?_
  refine wp_region_held_drew (S := fun w' => w'.cell? ⟨w.heap.size + 4, 0, none⟩ = some (Pt (w.heap.size + 3)) ∧ w'.cell? ⟨w.heap.size + 2, 0, none⟩ = some (.slice T ts.length ct)) (by kernel_rfl) ⟨c4, c2⟩ (fun hHeld => ?_)
  refine wpAnyH_take (i := 0) (v := ?v0) (by simp only [List.getElem?_toArray, List.getElem?_cons_succ, List.getElem?_cons_zero]; rfl) (by kernel_rfl) (by kernel_rfl) (by kernel_rfl) (fun _ _ _ h => h) (Or.inl ⟨by rfl, ?h0⟩) (by assumption) ?_
  case h0 => (intro w hSw; (try dsimp only at hSw); go_simp; try with_reducible rfl)
  try simp only [Act.put, List.setIfInBounds_toArray, List.set_cons_zero, List.set_cons_succ]
  refine wpAnyH_take (i := 3) (v := ?v3) (by simp only [List.getElem?_toArray, List.getElem?_cons_succ, List.getElem?_cons_zero]; rfl) (by kernel_rfl) (by kernel_rfl) (by kernel_rfl) (fun _ _ _ h => h) (Or.inl ⟨by rfl, ?h3⟩) (by assumption) ?_
  case h3 => (intro w hSw; (try dsimp only at hSw); go_simp; try with_reducible rfl)
  try simp only [Act.put, List.setIfInBounds_toArray, List.set_cons_zero, List.set_cons_succ]
  refine wpAnyH_take (i := 6) (v := ?v6) (by simp only [List.getElem?_toArray, List.getElem?_cons_succ, List.getElem?_cons_zero]; rfl) (by kernel_rfl) (by kernel_rfl) (by kernel_rfl) (fun _ _ _ h => h) (Or.inl ⟨by rfl, ?h6⟩) (by assumption) ?_
  case h6 => (intro w hSw; (try dsimp only at hSw); go_simp; try with_reducible rfl)
  try simp only [Act.put, List.setIfInBounds_toArray, List.set_cons_zero, List.set_cons_succ]
  refine wpAnyH_ready (rs := [1]) (by kernel_rfl) (by simp) ?_
  refine AllReadyH.cons (o := _) rfl (fun K hK => ?_) AllReadyH.nil
  go_simp
  refine (Runes_calls (w.heap.size + 3) w.heap.size s1 rest0 _ HRB.out.drew hs1).mono ?_
  rintro e w2 ⟨rfl, hr2, hb2⟩
  have hcv : (convert 66 9 (.slice (some ⟨w1.heap.size, 0, none⟩) s1.buf.length s1.buf.length)).run Tryd.prog w2 = .ok (.string (runesBytes s1.buf)) w2 := runes_str (P := Tryd.prog) w2 66 9 21 _ 0 s1.buf.length s1.buf s1.buf.length rfl (by kernel_rfl) (by kernel_rfl) (by kernel_rfl) (fun j hj => by rw [Nat.zero_add]; exact hr2.cell j (by simp [List.getD, List.getElem?_eq_getElem hj]))
  have r1 := HG.out.1.drew.stays hb2
  have r2 := HG.out.2.1.drew.stays hb2
  have r4 := HG.out.2.2.2.1.drew.stays hb2
  have hSS := And.intro r4.cell r2.cell
  have l1 := r1.cell 0 rfl
  have l2 := r1.cell 1 rfl
  have l3 := r1.free 0
  have l4 := r1.free 1
  have l5 := r2.cell
  have l6 := r2.free
  refine hK.out _ _ hSS (fun hHeld2 => ?_)
  clear hK K hHeld
  try simp only [Act.put, List.setIfInBounds_toArray, List.set_cons_zero, List.set_cons_succ]
  refine wpAnyH_ready (rs := [2, 4]) (by kernel_rfl) (by simp) ?_
  refine AllReadyH.cons (o := _) rfl (fun K hK => ?_) (AllReadyH.cons (o := _) rfl (fun K hK => ?_) AllReadyH.nil)
  · go_simp
    refine hK.out _ _ hSS (fun hHeldC => ?_)
    clear hK K
    try simp only [Act.put, List.setIfInBounds_toArray, List.set_cons_zero, List.set_cons_succ]
    refine wpAnyH_ready (rs := [4]) (by kernel_rfl) (by simp) ?_
    refine AllReadyH.cons (o := _) rfl (fun K hK => ?_) AllReadyH.nil
    go_simp
    refine (Pos_calls (w.heap.size + 3) w.heap.size s1 rest0 _ (HRB.out.drew.below hb2)).mono ?_
    rintro e w3 ⟨rfl, rfl⟩
    refine hK.out _ _ hSS (fun hHeldP => ?_)
    clear hK K
    try simp only [Act.put, List.setIfInBounds_toArray, List.set_cons_zero, List.set_cons_succ]
    refine wpAnyH_take (i := 5) (v := ?v5) (by simp only [List.getElem?_toArray, List.getElem?_cons_succ, List.getElem?_cons_zero]; rfl) (by kernel_rfl) (by kernel_rfl) (by kernel_rfl) (fun _ _ _ h => h) (Or.inl ⟨by rfl, ?h5⟩) (by assumption) ?_
    case h5 => (intro w hSw; (try dsimp only at hSw); go_simp; try with_reducible rfl)
    try simp only [Act.put, List.setIfInBounds_toArray, List.set_cons_zero, List.set_cons_succ]
    have w3r := ((r1.set 0 (.string (runesBytes s1.buf))).set 1 (.int .i64 s1.idx))
    have s7q := (r4.other (a := ⟨w.heap.size + 1, 0, none⟩) (by show w.heap.size + 4 ≠ w.heap.size + 1; omega) (.string (runesBytes s1.buf))).other (a := ⟨w.heap.size + 1, 1, none⟩) (by show w.heap.size + 4 ≠ w.heap.size + 1; omega) (.int .i64 s1.idx)
    have s7t := (r2.other (a := ⟨w.heap.size + 1, 0, none⟩) (by show w.heap.size + 2 ≠ w.heap.size + 1; omega) (.string (runesBytes s1.buf))).other (a := ⟨w.heap.size + 1, 1, none⟩) (by show w.heap.size + 2 ≠ w.heap.size + 1; omega) (.int .i64 s1.idx)
    have t7c := s7t.cell
    have t7f := s7t.free
    have s8t := s7t.set (.slice T ts.length ct)
    have s8q := s7q.other (a := ⟨w.heap.size + 2, 0, none⟩) (by show w.heap.size + 4 ≠ w.heap.size + 2; omega) (.slice T ts.length ct)
    have s8r : Rec _ _ _ _ := w3r.other (a := ⟨w.heap.size + 2, 0, none⟩) (by show w.heap.size + 1 ≠ w.heap.size + 2; omega) (.slice T ts.length ct)
    refine wpAnyH_ready (rs := [7]) (by kernel_rfl) (by simp) ?_
    refine AllReadyH.cons (o := _) rfl (fun K hK => ?_) AllReadyH.nil
    go_simp
    refine hK.out _ _ ⟨s7q.cell, s7t.cell⟩ (fun hHeld7 => ?_)
    clear hK K
    try simp only [Act.put, List.setIfInBounds_toArray, List.set_cons_zero, List.set_cons_succ]
    refine wpAnyH_ready (rs := [8]) (by kernel_rfl) (by simp) ?_
    refine AllReadyH.cons (o := _) rfl (fun K hK => ?_) AllReadyH.nil
    go_simp
    refine hK.out _ _ ⟨s8q.cell, s8t.cell⟩ (fun hHeld8 => ?_)
    clear hK K
    try simp only [Act.put, List.setIfInBounds_toArray, List.set_cons_zero, List.set_cons_succ]
    refine wpAnyH_take (i := 9) (v := ?v9) (by simp only [List.getElem?_toArray, List.getElem?_cons_succ, List.getElem?_cons_zero]; rfl) (by kernel_rfl) (by kernel_rfl) (by kernel_rfl) (fun _ _ _ h => h) (Or.inl ⟨by rfl, ?h9⟩) (by assumption) ?_
    case h9 => (intro w hSw; (try dsimp only at hSw); go_simp; try with_reducible rfl)
    try simp only [Act.put, List.setIfInBounds_toArray, List.set_cons_zero, List.set_cons_succ]
    refine wpAnyH_done (by kernel_rfl) ?_ _
    refine NoPanic.normal ?_
    have e0 := s8r.cell 0 rfl
    have e1 := s8r.cell 1 rfl
    have e2 := s8t.cell
    have n8 : Nums _ w.heap.size (.slice T ts.length ct) ts := ((HG.out.2.2.2.2.2.1.move (w1 := w1.drew) (fun k hk => rfl)).below hb2 |>.setrec r1 (by decide) 0 (.string (runesBytes s1.buf)) |>.setrec (r1.set 0 (.string (runesBytes s1.buf))) (by decide) 1 (.int .i64 s1.idx) |>.setrec s7t.rec (by decide) 0 (.slice T ts.length ct))
    have b8 := (((HG.out.2.2.2.2.2.2.drew.trans (hb2.mono (by have := HG.out.2.2.2.2.2.2.size; exact this))).setCell (p := ⟨w.heap.size + 1, 0, none⟩) (by show w.heap.size ≤ w.heap.size + 1; omega) (.string (runesBytes s1.buf))).setCell (p := ⟨w.heap.size + 1, 1, none⟩) (by show w.heap.size ≤ w.heap.size + 1; omega) (.int .i64 s1.idx)).setCell (p := ⟨w.heap.size + 2, 0, none⟩) (by show w.heap.size ≤ w.heap.size + 2; omega) (.slice T ts.length ct)
    go_wp2
    exact bodyPost_ret (v := .tuple #[.agg #[.string (runesBytes s1.buf), .int .i64 s1.idx], .slice T ts.length ct, .bool true]) (by simp [results, Tryd.results28, go_sem, e0, e1, e2]) rfl ⟨⟨T, ct, rfl, n8⟩, b8⟩
  · go_simp
    refine (Pos_calls (w.heap.size + 3) w.heap.size s1 rest0 _ (HRB.out.drew.below hb2)).mono ?_
    rintro e w3 ⟨rfl, rfl⟩
    refine hK.out _ _ hSS (fun hHeldP => ?_)
    clear hK K
    try simp only [Act.put, List.setIfInBounds_toArray, List.set_cons_zero, List.set_cons_succ]
    refine wpAnyH_ready (rs := [2]) (by kernel_rfl) (by simp) ?_
    refine AllReadyH.cons (o := _) rfl (fun K hK => ?_) AllReadyH.nil
    go_simp
    refine hK.out _ _ hSS (fun hHeldC => ?_)
    clear hK K
    try simp only [Act.put, List.setIfInBounds_toArray, List.set_cons_zero, List.set_cons_succ]
    refine wpAnyH_take (i := 5) (v := ?v5) (by simp only [List.getElem?_toArray, List.getElem?_cons_succ, List.getElem?_cons_zero]; rfl) (by kernel_rfl) (by kernel_rfl) (by kernel_rfl) (fun _ _ _ h => h) (Or.inl ⟨by rfl, ?h5⟩) (by assumption) ?_
    case h5 => (intro w hSw; (try dsimp only at hSw); go_simp; try with_reducible rfl)
    try simp only [Act.put, List.setIfInBounds_toArray, List.set_cons_zero, List.set_cons_succ]
    have w3r := ((r1.set 0 (.string (runesBytes s1.buf))).set 1 (.int .i64 s1.idx))
    have s7q := (r4.other (a := ⟨w.heap.size + 1, 0, none⟩) (by show w.heap.size + 4 ≠ w.heap.size + 1; omega) (.string (runesBytes s1.buf))).other (a := ⟨w.heap.size + 1, 1, none⟩) (by show w.heap.size + 4 ≠ w.heap.size + 1; omega) (.int .i64 s1.idx)
    have s7t := (r2.other (a := ⟨w.heap.size + 1, 0, none⟩) (by show w.heap.size + 2 ≠ w.heap.size + 1; omega) (.string (runesBytes s1.buf))).other (a := ⟨w.heap.size + 1, 1, none⟩) (by show w.heap.size + 2 ≠ w.heap.size + 1; omega) (.int .i64 s1.idx)
    have t7c := s7t.cell
    have t7f := s7t.free
    have s8t := s7t.set (.slice T ts.length ct)
    have s8q := s7q.other (a := ⟨w.heap.size + 2, 0, none⟩) (by show w.heap.size + 4 ≠ w.heap.size + 2; omega) (.slice T ts.length ct)
    have s8r : Rec _ _ _ _ := w3r.other (a := ⟨w.heap.size + 2, 0, none⟩) (by show w.heap.size + 1 ≠ w.heap.size + 2; omega) (.slice T ts.length ct)
    refine wpAnyH_ready (rs := [7]) (by kernel_rfl) (by simp) ?_
    refine AllReadyH.cons (o := _) rfl (fun K hK => ?_) AllReadyH.nil
    go_simp
    refine hK.out _ _ ⟨s7q.cell, s7t.cell⟩ (fun hHeld7 => ?_)
    clear hK K
    try simp only [Act.put, List.setIfInBounds_toArray, List.set_cons_zero, List.set_cons_succ]
    refine wpAnyH_ready (rs := [8]) (by kernel_rfl) (by simp) ?_
    refine AllReadyH.cons (o := _) rfl (fun K hK => ?_) AllReadyH.nil
    go_simp
    refine hK.out _ _ ⟨s8q.cell, s8t.cell⟩ (fun hHeld8 => ?_)
    clear hK K
    try simp only [Act.put, List.setIfInBounds_toArray, List.set_cons_zero, List.set_cons_succ]
    refine wpAnyH_take (i := 9) (v := ?v9) (by simp only [List.getElem?_toArray, List.getElem?_cons_succ, List.getElem?_cons_zero]; rfl) (by kernel_rfl) (by kernel_rfl) (by kernel_rfl) (fun _ _ _ h => h) (Or.inl ⟨by rfl, ?h9⟩) (by assumption) ?_
    case h9 => (intro w hSw; (try dsimp only at hSw); go_simp; try with_reducible rfl)
    try simp only [Act.put, List.setIfInBounds_toArray, List.set_cons_zero, List.set_cons_succ]
    refine wpAnyH_done (by kernel_rfl) ?_ _
    refine NoPanic.normal ?_
    have e0 := s8r.cell 0 rfl
    have e1 := s8r.cell 1 rfl
    have e2 := s8t.cell
    have n8 : Nums _ w.heap.size (.slice T ts.length ct) ts := ((HG.out.2.2.2.2.2.1.move (w1 := w1.drew) (fun k hk => rfl)).below hb2 |>.setrec r1 (by decide) 0 (.string (runesBytes s1.buf)) |>.setrec (r1.set 0 (.string (runesBytes s1.buf))) (by decide) 1 (.int .i64 s1.idx) |>.setrec s7t.rec (by decide) 0 (.slice T ts.length ct))
    have b8 := (((HG.out.2.2.2.2.2.2.drew.trans (hb2.mono (by have := HG.out.2.2.2.2.2.2.size; exact this))).setCell (p := ⟨w.heap.size + 1, 0, none⟩) (by show w.heap.size ≤ w.heap.size + 1; omega) (.string (runesBytes s1.buf))).setCell (p := ⟨w.heap.size + 1, 1, none⟩) (by show w.heap.size ≤ w.heap.size + 1; omega) (.int .i64 s1.idx)).setCell (p := ⟨w.heap.size + 2, 0, none⟩) (by show w.heap.size ≤ w.heap.size + 2; omega) (.slice T ts.length ct)
    go_wp2
    exact bodyPost_ret (v := .tuple #[.agg #[.string (runesBytes s1.buf), .int .i64 s1.idx], .slice T ts.length ct, .bool true]) (by simp [results, Tryd.results28, go_sem, e0, e1, e2]) rfl ⟨⟨T, ct, rfl, n8⟩, b8⟩
end Go.Proofs.YtdinikcfhpfojaaDoor.H
