/- A line with a mask, as it is shown (impl.ShownLine), its second half: the buffer, what is written, and what is told; for prompts and lines of printable ASCII of at most 1000000 signs, the cursor at the line's end, widths that are more than the prompt's. -/
import Derived.Test.YtdinikcfhpfojaaDoorQHSm
import Derived.Test.YtdinikcfhpfojaaDoorQShelf
import Derived.Lib.BufferKept
import Derived.Laws.OwnMore
import Derived.Deep.AppendLies
import Derived.Maps.AppendAt
import Derived.IntWalk
namespace Go.Proofs.YtdinikcfhpfojaaDoor.H
open Go.RowKit Go.Proofs.YtdinikcfhpfojaaDoorW.PrintWords Go.Proofs.YtdinikcfhpfojaaDoorW.PrintLast Go.Proofs.YtdinikcfhpfojaaDoor.R Go.Proofs.YtdinikcfhpfojaaDoor.X
set_option linter.unusedVariables false
set_option linter.unusedSimpArgs false
attribute [local go_sem ↓] Go.wp_at_zero Go.wp_at_succ
theorem cell_same {w w1 : World} {b : Nat} (h : w1.heap[b]? = w.heap[b]?) (j : Nat) : w1.cell? ⟨b, j, none⟩ = w.cell? ⟨b, j, none⟩ := by
  unfold World.cell?
  simp only [h]
theorem cell_lt {w : World} {b j : Nat} {v : Value} (h : w.cell? ⟨b, j, none⟩ = some v) : b < w.heap.size := by
  rcases Nat.lt_or_ge b w.heap.size with h2 | h2
  · exact h2
  · unfold World.cell? at h
    rw [Array.getElem?_eq_none h2] at h
    simp at h
theorem Kp.cell {m b j : Nat} {w w1 : World} {v : Value} (h : Kp m w w1) (hv : w.cell? ⟨b, j, none⟩ = some v) (hb : b ≠ m) : w1.cell? ⟨b, j, none⟩ = some v := (cell_same (h.2 b (cell_lt hv) hb) j).trans hv
/-- The cells of a row of code points. -/
def CR (w : World) (b : Nat) (l : List Int) : Prop := ∀ j, j < l.length → w.cell? ⟨b, j, none⟩ = some (.int .i32 (l.getD j 0))
theorem CR.C {w : World} {b : Nat} {l : List Int} (h : CR w b l) (hl : l.length ≤ 1000000) : Kd.C (Kd.int .i32) w (some ⟨b, 0, none⟩) l.length l := C_row w b l (by omega) h
theorem CR.kept {w w1 : World} {b : Nat} {l : List Int} (h : CR w b l) (hk : b < w.heap.size → w1.heap[b]? = w.heap[b]?) : CR w1 b l := fun j hj => (cell_same (hk (cell_lt (h j hj))) j).trans (h j hj)
theorem CR.below {w w1 : World} {b : Nat} {l : List Int} (h : CR w b l) (hb : Below w.heap.size w w1) : CR w1 b l := h.kept fun hlt => hb.block b hlt
theorem CR.row {w : World} (l : List Int) (cap : Nat) {b : Nat} (h : Rec w b (runeCells l cap) 21) : CR w b l := fun j hj => h.cell j (runeCells_at l cap j hj)
theorem Pln.asc {s : ByteArray} (h : Pln (ints s)) : Asc s := by
  intro b hb
  have := h (b.toNat : Int) (List.mem_map.2 ⟨b, hb, rfl⟩)
  omega
theorem C_of {w : World} {b : Nat} {l : List Int} {n : Nat} (h : Kd.C (Kd.int .i32) w (some ⟨b, 0, none⟩) n l) (hn : n = l.length) : CR w b l := by
  subst hn
  intro j hj
  obtain ⟨ad, hA, q0⟩ := Kd.at_int h (j : Int) (by omega) (by omega)
  rw [rd_nat _ j hj] at q0
  rw [List.getD_eq_getElem?_getD, List.getElem?_eq_getElem hj]
  obtain rfl := Option.some.inj hA
  have e : (⟨b, 0, none⟩ : Addr).add ((j : Int).toNat) = ⟨b, j, none⟩ := by
    cases j with
    | zero => rfl
    | succ j => simp [Addr.add]
  rw [e] at q0
  exact q0
set_option maxRecDepth 100000 in
set_option maxHeartbeats 8000000 in
theorem buffer_calls (p t : ByteArray) (mask width : Int) (w : World) (hp : Pln (ints p)) (ht : Pln (ints t)) (hps : p.size ≤ 1000000) (hts : t.size ≤ 1000000) (hw : (p.size : Int) < width) (hw1 : width ≤ 1000000) (hm0 : 33 ≤ mask) (hm1 : mask ≤ 126) :
    Calls Tryd.prog 46 #[.string p, .agg #[.string t, .int .i64 t.size], .int .i64 width, .int .i64 mask] w fun e w' => ∃ m b c b1 c1, e = .returned (PtS m) ∧ Rec w' m (rbl (.slice (some ⟨b1, 0, none⟩) t.size c1) t.size (.slice (some ⟨b, 0, none⟩) p.size c) mask width) 89 ∧ CR w' b (ints p) ∧ CR w' b1 (ints t) ∧ p.size ≤ c ∧ t.size ≤ c1 ∧ Below w.heap.size w w' := by
  have hcv := fun W : World => runes_run (P := Tryd.prog) W 9 66 21 t (by kernel_rfl) (by kernel_rfl) (by kernel_rfl) (by omega)
  rw [runesOf_asc ht.asc] at hcv
  have hlp := ints_length p
  have hlt := ints_length t
  rw [hlt] at hcv
  have hw32 : IntKind.i32.wrap mask = mask := IntWalk.i32_in _ (by omega)
  have HP := Lib.hid (And.intro hp (And.intro hp.asc hps))
  have hmz : (mask != 0) = true := by simp; omega
  clear hp ht
  go_enter Tryd.func46, Tryd.ntmps46
  go_wp2_with fail
  have hrow0 := CR.row (ints t) _ (Rec.at_ (b := w.heap.size + 1) (w.alloc (.cells #[.string t, .int .i64 t.size] 23)) (runeCells (ints t) (grownCap (w.alloc (.cells #[.string t, .int .i64 t.size] 23)) t.size 0 21)) 21 (by simp))
  have hg0 := grownCap_ge (w.alloc (.cells #[.string t, .int .i64 t.size] 23)) t.size 0 21
  obtain ⟨c1, hc1⟩ : ∃ c1, c1 = grownCap (w.alloc (.cells #[.string t, .int .i64 t.size] 23)) t.size 0 21 := ⟨_, rfl⟩
  rw [← hc1] at hrow0 hg0 ⊢
  have hrec0 : Rec ((w.alloc (.cells #[.string t, .int .i64 t.size] 23)).alloc (.cells (runeCells (ints t) c1).toArray 21)).drew w.heap.size [.string t, .int .i64 t.size] 23 := ((Rec.new w [.string t, .int .i64 t.size] 23).alloc _).drew
  have hb0 : Below w.heap.size w ((w.alloc (.cells #[.string t, .int .i64 t.size] 23)).alloc (.cells (runeCells (ints t) c1).toArray 21)).drew := (((Below.refl _ _).alloc (Nat.le_refl _) _).alloc (by simp) _).drew
  have hrow1 : CR ((w.alloc (.cells #[.string t, .int .i64 t.size] 23)).alloc (.cells (runeCells (ints t) c1).toArray 21)).drew (w.heap.size + 1) (ints t) := hrow0
  obtain ⟨w0, hw0⟩ : ∃ w0, w0 = ((w.alloc (.cells #[.string t, .int .i64 t.size] 23)).alloc (.cells (runeCells (ints t) c1).toArray 21)).drew := ⟨_, rfl⟩
  have hz0 : w0.heap.size = w.heap.size + 2 := by rw [hw0]; simp
  rw [← hw0] at hrec0 hb0 hrow1 ⊢
  clear hw0 hrow0
  refine (NewB_calls p mask width w0 HP.out.1 HP.out.2.1 HP.out.2.2).mono ?_
  rintro e w1 ⟨m, b, c, rfl, hm, hC, hc, hgm, hgb, hbm, hb1⟩
  rw [hlp] at hm hC hc
  have H1 := Lib.hid (And.intro hm (And.intro (C_of hC hlp.symm) (And.intro (hrec0.stays hb1) (And.intro (hrow1.below hb1) (below_step hb0 hb1)))))
  have hz1 := hb1.size
  clear hm hC hrec0 hrow1 hb0 hb1
  have x0 := (H1.out.2.2.1.alloc (.cells #[PtS m] 68)).cell 0 rfl
  have x1 := (H1.out.2.2.1.alloc (.cells #[PtS m] 68)).cell 1 rfl
  go_wp2_with fail
  have hQ2 : One (w1.alloc (.cells #[PtS m] 68)) w1.heap.size (PtS m) 68 := One.new w1 (PtS m) 68
  have hb2 : Below w1.heap.size w1 (w1.alloc (.cells #[PtS m] 68)) := (Below.refl _ _).alloc (Nat.le_refl _) _
  have H2 := Lib.hid (And.intro (H1.out.1.stays hb2) (And.intro (H1.out.2.1.below hb2) (And.intro (H1.out.2.2.1.stays hb2) (And.intro (H1.out.2.2.2.1.below hb2) (And.intro (below_step H1.out.2.2.2.2 hb2) hQ2)))))
  have hz2 := hb2.size
  clear hb2 hQ2
  refine (caughtPl_calls w1.heap.size m (.slice none 0 0) 0 mask width (some ⟨b, 0, none⟩) c (ints p) _ H2.out.2.2.2.2.2 (by rw [hlp]; exact H2.out.1) (H2.out.2.1.C (by omega)) (by omega) (by omega) HP.out.1).mono ?_
  rintro e w3 ⟨rfl, hb3⟩
  have H3 := Lib.hid (And.intro (H2.out.1.stays hb3) (And.intro (H2.out.2.1.below hb3) (And.intro (H2.out.2.2.1.stays hb3) (And.intro (H2.out.2.2.2.1.below hb3) (And.intro (below_step H2.out.2.2.2.2.1 hb3) (H2.out.2.2.2.2.2.stays hb3))))))
  have c3 := H3.out.2.2.2.2.2.cell
  have hz3 := hb3.size
  clear hb3
  go_wp2_with fail
  refine (PromptLen_calls m (.slice none 0 0) 0 mask width (some ⟨b, 0, none⟩) c (ints p) _ (by rw [hlp]; exact H3.out.1) (H3.out.2.1.C (by omega)) (by omega) (by omega) HP.out.1).mono ?_
  rintro e w4 ⟨rfl, hb4⟩
  have H4 := Lib.hid (And.intro (H3.out.1.stays hb4) (And.intro (H3.out.2.1.below hb4) (And.intro (H3.out.2.2.1.stays hb4) (And.intro (H3.out.2.2.2.1.below hb4) (And.intro (below_step H3.out.2.2.2.2.1 hb4) (H3.out.2.2.2.2.2.stays hb4))))))
  have c4 := H4.out.2.2.2.2.2.cell
  have hz4 := hb4.size
  clear hb4
  rw [hlp]
  have y1 := H4.out.2.2.1.cell 1 rfl
  have hml : m < w1.heap.size := H1.out.1.lt
  by_cases h0 : p.size = 0
  · go_wp2_with fail
    refine (SetWithIdx_calls m (.slice none 0 0) _ 0 t.size mask width _ t.size _ _ H4.out.1).mono ?_
    rintro e w5 ⟨rfl, hm5, hk5⟩
    have c5 := hk5.cell c4 (by omega)
    have hb5 := H4.out.2.2.2.2.1
    have hB5 : Below w.heap.size w w5 := hb5.trans (hk5.1.mono (by omega))
    have r5 : CR w5 b (ints p) := H4.out.2.1.kept fun h => hk5.2 b h hbm
    have s5 : CR w5 (w.heap.size + 1) (ints t) := H4.out.2.2.2.1.kept fun h => hk5.2 _ h (by omega)
    have H5 := Lib.hid (And.intro hm5 (And.intro r5 (And.intro s5 hB5)))
    clear hm5 hk5 hb5 hB5 r5 s5
    go_wp2_with fail
    go_ret
    exact ⟨m, b, c, w.heap.size + 1, _, rfl, H5.out.1, H5.out.2.1, H5.out.2.2.1, hc, by rw [← hc1]; exact hg0, H5.out.2.2.2⟩
  · have hrm : ((p.size : Int) % width == 0) = false := by rw [Int.emod_eq_of_lt (by omega) hw]; exact beq_eq_false_iff_ne.2 (by omega)
    have hpg : decide ((0 : Int) < (p.size : Int)) = true := decide_eq_true (by omega)
    go_wp2_with fail
    refine (PromptLen_calls m (.slice none 0 0) 0 mask width (some ⟨b, 0, none⟩) c (ints p) _ (by rw [hlp]; exact H4.out.1) (H4.out.2.1.C (by omega)) (by omega) (by omega) HP.out.1).mono ?_
    rintro e w6 ⟨rfl, hb6⟩
    have H6 := Lib.hid (And.intro (H4.out.1.stays hb6) (And.intro (H4.out.2.1.below hb6) (And.intro (H4.out.2.2.1.stays hb6) (And.intro (H4.out.2.2.2.1.below hb6) (And.intro (below_step H4.out.2.2.2.2.1 hb6) (H4.out.2.2.2.2.2.stays hb6))))))
    have c6 := H6.out.2.2.2.2.2.cell
    have y6 := H6.out.2.2.1.cell 1 rfl
    have hz6 := hb6.size
    clear hb6
    rw [hlp]
    go_wp2_with fail
    refine (SetWithIdx_calls m (.slice none 0 0) _ 0 t.size mask width _ t.size _ _ H6.out.1).mono ?_
    rintro e w5 ⟨rfl, hm5, hk5⟩
    have c5 := hk5.cell c6 (by omega)
    have hb5 := H6.out.2.2.2.2.1
    have hB5 : Below w.heap.size w w5 := hb5.trans (hk5.1.mono (by omega))
    have r5 : CR w5 b (ints p) := H6.out.2.1.kept fun h => hk5.2 b h hbm
    have s5 : CR w5 (w.heap.size + 1) (ints t) := H6.out.2.2.2.1.kept fun h => hk5.2 _ h (by omega)
    have H5 := Lib.hid (And.intro hm5 (And.intro r5 (And.intro s5 hB5)))
    clear hm5 hk5 hb5 hB5 r5 s5
    go_wp2_with fail
    go_ret
    exact ⟨m, b, c, w.heap.size + 1, _, rfl, H5.out.1, H5.out.2.1, H5.out.2.2.1, hc, by rw [← hc1]; exact hg0, H5.out.2.2.2⟩
end Go.Proofs.YtdinikcfhpfojaaDoor.H
