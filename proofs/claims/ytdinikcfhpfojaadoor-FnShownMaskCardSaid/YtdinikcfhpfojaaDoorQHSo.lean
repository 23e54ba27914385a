/- A line with a mask, as it is shown (readline's output): what is written; for prompts and lines of printable ASCII of at most 1000000 signs, the cursor at the line's end. -/
import Derived.Test.YtdinikcfhpfojaaDoorQHSn
namespace Go.Proofs.YtdinikcfhpfojaaDoor.H
open Go.RowKit Go.Proofs.YtdinikcfhpfojaaDoorW.PrintWords Go.Proofs.YtdinikcfhpfojaaDoorW.PrintLast Go.Proofs.YtdinikcfhpfojaaDoor.R Go.Proofs.YtdinikcfhpfojaaDoor.X
set_option linter.unusedVariables false
set_option linter.unusedSimpArgs false
attribute [local go_sem ↓] Go.wp_at_zero Go.wp_at_succ
theorem below_of_drew {B : Nat} {w w1 : World} (h : Below B w.drew w1) : Below B w w1 := ⟨h.os, h.tape, h.output, h.size, h.block⟩
theorem NewBuf_calls (w : World) : Calls Tryd.prog 119 #[.slice none 0 0] w fun e w' => e = .returned (PtS w.heap.size) ∧ w' = w.alloc (.cells #[.slice none 0 0, .int .i64 0, .int .i8 0] 137) := by
  go_enter Tryd.func119, Tryd.ntmps119
  go_wp2
  go_ret
  exact ⟨rfl, rfl⟩
def Bf (N b : Nat) (l : List UInt8) (w : World) : Prop := Lib.IsBuffer 137 5 N b (Lib.byteCells l) w
theorem own_typed {w : World} {N n : Nat} {e : TypeId} {v : Value} {xs : List Value} (h : w.ownsRow N e 1 v n xs) : ∀ k, v.ownBlock = some k → ∃ cs, w.heap[k]? = some (.cells cs e (0, 0)) := by
  intro k hk
  rcases h.2 with ⟨e, h0⟩ | ⟨g, cap, cur, e, hg, hh, _⟩
  · subst e; cases hk
  · subst e
    obtain rfl : g = k := by simpa [Value.ownBlock] using hk
    exact ⟨_, hh⟩
theorem Bf.move {N b : Nat} {l : List UInt8} {w w1 : World} (h : Bf N b l w) (hm : ∀ k, k < w.heap.size → w1.heap[k]? = w.heap[k]?) : Bf N b l w1 := by
  obtain ⟨hB, v, lr, hb, ho, hn⟩ := h
  exact ⟨hB, v, lr, (hm b (lt_of_block hb)).trans hb, own_move ho (fun k hk => hm k (World.ownsRow.lt ho k hk).2), hn⟩
theorem Bf.stays {N b : Nat} {l : List UInt8} {w w1 : World} (h : Bf N b l w) (hb : Below w.heap.size w w1) : Bf N b l w1 := h.move fun k hk => hb.block k hk
theorem bytes_one (l : List UInt8) : ∀ v ∈ Lib.byteCells l, v.oneCell' = true := by
  intro v hv
  obtain ⟨x, _, rfl⟩ := List.mem_map.1 hv
  rfl
/-- A text turned into bytes: where they lie. -/
theorem bytes_cell (w : World) (s : ByteArray) (C : Nat) (j : Nat) (v : Value) (h : (Lib.byteCells s.data.toList)[j]? = some v) : (w.drew.alloc (.cells (bytesRow s C) 5 ((bytesRow s C).size, (bytesRow s C).size + 1))).cell? ((⟨w.heap.size, 0, none⟩ : Addr).add j) = some v := by
  have hz : (w.drew.alloc (.cells (bytesRow s C) 5 ((bytesRow s C).size, (bytesRow s C).size + 1))).heap[w.heap.size]? = some (.cells (bytesRow s C) 5 ((bytesRow s C).size, (bytesRow s C).size + 1)) := Go.heap_alloc_new w.drew _
  have e : (⟨w.heap.size, 0, none⟩ : Addr).add j = ⟨w.heap.size, j, none⟩ := by
    cases j with
    | zero => rfl
    | succ j => simp [Addr.add]
  rw [e]
  unfold World.cell?
  simp only [hz]
  have hj : j < s.data.toList.length := by
    have := (List.getElem?_eq_some_iff.1 h).1
    simpa [Lib.byteCells] using this
  rw [Lib.byteCells, List.getElem?_map, List.getElem?_eq_getElem hj] at h
  simp only [Option.map_some, Option.some.injEq] at h
  subst h
  unfold bytesRow
  rw [Array.getElem?_append_left (by simpa using hj)]
  simp only [Array.length_toList] at hj
  simp [Array.getElem?_eq_getElem hj]
theorem bytes_run (w : World) (s : ByteArray) : ∃ w' c, (convert 9 24 (.string s)).run Tryd.prog w = .ok (.slice (some ⟨w.heap.size, 0, none⟩) s.size c) w' ∧ (∀ j v, (Lib.byteCells s.data.toList)[j]? = some v → w'.cell? ((⟨w.heap.size, 0, none⟩ : Addr).add j) = some v) ∧ Below w.heap.size w w' :=
  ⟨_, _, run_bytes_of_string (P := Tryd.prog) w 9 24 5 s (by kernel_rfl) (by kernel_rfl) (by kernel_rfl), fun j v h => bytes_cell w s _ j v h, ((Below.refl _ _).drew).alloc (Nat.le_refl _) _⟩
/-- A sign of the mask as a text. -/
def mk1 (mask : Int) : ByteArray := ⟨#[UInt8.ofNat mask.toNat]⟩
theorem rune_str (w : World) (mask : Int) (h0 : 33 ≤ mask) (h1 : mask ≤ 126) : (convert 21 9 (.int .i32 mask)).run Tryd.prog w = .ok (.string (mk1 mask)) w := by
  have := encode_ascii mask (by omega) (by omega)
  simp [convert, run_underlying Tryd.underlying21, run_underlying Tryd.underlying9, Conv.intToString, this, mk1]
theorem rep_eq (x : UInt8) : ∀ n, Lib.repeatL [x] n = List.replicate n x
  | 0 => rfl
  | n + 1 => by rw [show Lib.repeatL [x] (n + 1) = [x] ++ Lib.repeatL [x] n from rfl, rep_eq x n]; rfl
set_option maxRecDepth 100000 in
set_option maxHeartbeats 8000000 in
theorem output_calls (m b c b1 c1 : Nat) (p t : ByteArray) (mask width : Int) (w : World) (hm : Rec w m (rbl (.slice (some ⟨b1, 0, none⟩) t.size c1) t.size (.slice (some ⟨b, 0, none⟩) p.size c) mask width) 89) (hr : CR w b (ints p)) (hr1 : CR w b1 (ints t)) (pp : Pln (ints p)) (pt : Pln (ints t)) (hps : p.size ≤ 1000000) (hts : t.size ≤ 1000000) (ht0 : 0 < t.size) (hc1 : t.size ≤ c1) (hm0 : 33 ≤ mask) (hm1 : mask ≤ 126) :
    Calls Tryd.prog 79 #[PtS m] w fun e w' => ∃ v, e = .returned v ∧ w'.ownsRow w.heap.size 5 1 v (p.size + t.size) (Lib.byteCells (p.data.toList ++ List.replicate t.size (UInt8.ofNat mask.toNat))) ∧ Below w.heap.size w w' := by
  have hml := hm.lt
  have hlp := ints_length p
  have hlt := ints_length t
  have hrs := rune_str (mask := mask) (h0 := hm0) (h1 := hm1)
  have hb0 : Below w.heap.size w (w.alloc (.cells #[.slice none 0 0, .int .i64 0, .int .i8 0] 137)) := (Below.refl _ _).alloc (Nat.le_refl _) _
  have hcs : ∀ W : World, CR W b (ints p) → (convert 66 9 (.slice (some ⟨b, 0, none⟩) p.size c)).run Tryd.prog W = .ok (.string p) W := fun W hW => by
    have := runes_str (P := Tryd.prog) W 66 9 21 b 0 c (ints p) p.size hlp.symm (by kernel_rfl) (by kernel_rfl) (by kernel_rfl) (fun j hj => by rw [Nat.zero_add]; exact hW j hj)
    rw [runesBytes_ints pp.asc] at this
    exact this
  have k1 := hcs _ (hr.below hb0)
  have x2 := (hm.stays hb0).cell 2 rfl
  have HC := Lib.hid (show ∀ W, Below w.heap.size w W → W.cell? ⟨m, 0, none⟩ = some (.slice (some ⟨b1, 0, none⟩) t.size c1) ∧ W.cell? ⟨m, 6, none⟩ = some (.int .i32 mask) from fun W hW => ⟨(hm.below hW hml).cell 0 rfl, (hm.below hW hml).cell 6 rfl⟩)
  have HE := Lib.hid (show ∀ W, Below w.heap.size w W → W.cell? ⟨m, 5, none⟩ = some (.bool true) ∧ W.cell? ⟨m, 1, none⟩ = some (.int .i64 t.size) from fun W hW => ⟨(hm.below hW hml).cell 5 rfl, (hm.below hW hml).cell 1 rfl⟩)
  have HT := Lib.hid (show ∀ W, Below w.heap.size w W → CR W b1 (ints t) from fun W hW => hr1.kept fun h => hW.block b1 h)
  have hB1 : Bf w.heap.size w.heap.size [] _ := Lib.fresh_isBuffer 137 5 w
  have hpos : decide ((0 : Int) < (t.size : Int)) = true := decide_eq_true (by omega)
  have hpos2 : decide (0 < t.size) = true := decide_eq_true ht0
  clear hm hr hr1 hcs
  have HB0 := Lib.hid hb0
  clear hb0
  go_enter Tryd.func79, Tryd.ntmps79
  go_wp2_with fail
  refine (NewBuf_calls w).mono ?_
  rintro e w1 ⟨rfl, rfl⟩
  go_wp2_with fail
  refine (Go.Proofs.Tryd.Buffer_WriteString_k w.heap.size w.heap.size (Lib.byteCells []) p _ hB1 HB0.out.size (bytes_one []) (by simp [Lib.byteCells]; omega)).mono ?_
  rintro e w2 ⟨rfl, hI, hb2, hk2⟩
  have HB2 := Lib.hid (HB0.out.trans hb2)
  have HF2 := Lib.hid (show Bf w.heap.size w.heap.size p.data.toList w2 by unfold Bf; rw [show Lib.byteCells p.data.toList = Lib.byteCells [] ++ Lib.byteCells p.data.toList from rfl]; exact hI)
  clear hI hb2 hk2 k1 x2 hB1
  obtain ⟨z0, z6⟩ := HC.out w2 HB2.out
  obtain ⟨z5, z1⟩ := HE.out w2 HB2.out
  go_wp2_with fail
  refine wp_region_noPanic ?_
  refine wp_region_held_drew (S := fun w' => w'.cell? ⟨m, 0, none⟩ = some (.slice (some ⟨b1, 0, none⟩) t.size c1) ∧ w'.cell? ⟨m, 6, none⟩ = some (.int .i32 mask)) (by kernel_rfl) (HC.out w2 HB2.out) (fun hHeld => ?_)
  refine wpAnyH_take (i := 0) (v := ?v0) (by simp only [List.getElem?_toArray, List.getElem?_cons_succ, List.getElem?_cons_zero]; rfl) (by kernel_rfl) (by kernel_rfl) (by kernel_rfl) (fun _ _ _ h => h) (Or.inl ⟨by rfl, ?h0⟩) (by assumption) ?_
  case h0 => (intro w hSw; obtain ⟨s0, s6⟩ := hSw; (try dsimp only at s0 s6); go_simp; (try simp only [hrs]); try with_reducible rfl)
  try simp only [Act.put, List.setIfInBounds_toArray, List.set_cons_zero, List.set_cons_succ]
  refine wpAnyH_take (i := 1) (v := ?v1) (by simp only [List.getElem?_toArray, List.getElem?_cons_succ, List.getElem?_cons_zero]; rfl) (by kernel_rfl) (by kernel_rfl) (by kernel_rfl) (fun _ _ _ h => h) (Or.inl ⟨by rfl, ?h1⟩) (by assumption) ?_
  case h1 => (intro w hSw; obtain ⟨s0, s6⟩ := hSw; (try dsimp only at s0 s6); go_simp; (try simp only [hrs]); try with_reducible rfl)
  try simp only [Act.put, List.setIfInBounds_toArray, List.set_cons_zero, List.set_cons_succ]
  refine wpAnyH_take (i := 2) (v := ?v2) (by simp only [List.getElem?_toArray, List.getElem?_cons_succ, List.getElem?_cons_zero]; rfl) (by kernel_rfl) (by kernel_rfl) (by kernel_rfl) (fun _ _ _ h => h) (Or.inl ⟨by rfl, ?h2⟩) (by assumption) ?_
  case h2 => (intro w hSw; obtain ⟨s0, s6⟩ := hSw; (try dsimp only at s0 s6); go_simp; (try simp only [hrs]); try with_reducible rfl)
  try simp only [Act.put, List.setIfInBounds_toArray, List.set_cons_zero, List.set_cons_succ]
  refine wpAnyH_take (i := 3) (v := ?v3) (by simp only [List.getElem?_toArray, List.getElem?_cons_succ, List.getElem?_cons_zero]; rfl) (by kernel_rfl) (by kernel_rfl) (by kernel_rfl) (fun _ _ _ h => h) (Or.inl ⟨by rfl, ?h3⟩) (by assumption) ?_
  case h3 => (intro w hSw; obtain ⟨s0, s6⟩ := hSw; (try dsimp only at s0 s6); go_simp; (try simp only [hrs]); try with_reducible rfl)
  try simp only [Act.put, List.setIfInBounds_toArray, List.set_cons_zero, List.set_cons_succ]
  refine wpAnyH_take (i := 4) (v := ?v4) (by simp only [List.getElem?_toArray, List.getElem?_cons_succ, List.getElem?_cons_zero]; rfl) (by kernel_rfl) (by kernel_rfl) (by kernel_rfl) (fun _ _ _ h => h) (Or.inl ⟨by rfl, ?h4⟩) (by assumption) ?_
  case h4 => (intro w hSw; obtain ⟨s0, s6⟩ := hSw; (try dsimp only at s0 s6); go_simp; (try simp only [hrs]); try with_reducible rfl)
  try simp only [Act.put, List.setIfInBounds_toArray, List.set_cons_zero, List.set_cons_succ]
  refine wpAnyH_take (i := 5) (v := ?v5) (by simp only [List.getElem?_toArray, List.getElem?_cons_succ, List.getElem?_cons_zero]; rfl) (by kernel_rfl) (by kernel_rfl) (by kernel_rfl) (fun _ _ _ h => h) (Or.inl ⟨by rfl, ?h5⟩) (by assumption) ?_
  case h5 => (intro w hSw; obtain ⟨s0, s6⟩ := hSw; (try dsimp only at s0 s6); go_simp; (try simp only [hrs]); try with_reducible rfl)
  try simp only [Act.put, List.setIfInBounds_toArray, List.set_cons_zero, List.set_cons_succ]
  refine wpAnyH_take (i := 6) (v := ?v6) (by simp only [List.getElem?_toArray, List.getElem?_cons_succ, List.getElem?_cons_zero]; rfl) (by kernel_rfl) (by kernel_rfl) (by kernel_rfl) (fun _ _ _ h => h) (Or.inl ⟨by rfl, ?h6⟩) (by assumption) ?_
  case h6 => (intro w hSw; obtain ⟨s0, s6⟩ := hSw; (try dsimp only at s0 s6); go_simp; (try simp only [hrs]); try with_reducible rfl)
  try simp only [Act.put, List.setIfInBounds_toArray, List.set_cons_zero, List.set_cons_succ]
  refine wpAnyH_take (i := 7) (v := ?v7) (by simp only [List.getElem?_toArray, List.getElem?_cons_succ, List.getElem?_cons_zero]; rfl) (by kernel_rfl) (by kernel_rfl) (by kernel_rfl) (fun _ _ _ h => h) (Or.inl ⟨by rfl, ?h7⟩) (by assumption) ?_
  case h7 => (intro w hSw; obtain ⟨s0, s6⟩ := hSw; (try dsimp only at s0 s6); go_simp; (try simp only [hrs]); try with_reducible rfl)
  try simp only [Act.put, List.setIfInBounds_toArray, List.set_cons_zero, List.set_cons_succ]
  refine wpAnyH_take (i := 8) (v := ?v8) (by simp only [List.getElem?_toArray, List.getElem?_cons_succ, List.getElem?_cons_zero]; rfl) (by kernel_rfl) (by kernel_rfl) (by kernel_rfl) (fun _ _ _ h => h) (Or.inl ⟨by rfl, ?h8⟩) (by assumption) ?_
  case h8 => (intro w hSw; obtain ⟨s0, s6⟩ := hSw; (try dsimp only at s0 s6); go_simp; (try simp only [hrs]); try with_reducible rfl)
  try simp only [Act.put, List.setIfInBounds_toArray, List.set_cons_zero, List.set_cons_succ]
  refine wpAnyH_take (i := 9) (v := ?v9) (by simp only [List.getElem?_toArray, List.getElem?_cons_succ, List.getElem?_cons_zero]; rfl) (by kernel_rfl) (by kernel_rfl) (by kernel_rfl) (fun _ _ _ h => h) (Or.inl ⟨by rfl, ?h9⟩) (by assumption) ?_
  case h9 => (intro w hSw; obtain ⟨s0, s6⟩ := hSw; (try dsimp only at s0 s6); go_simp; (try simp only [hrs]); try with_reducible rfl)
  try simp only [Act.put, List.setIfInBounds_toArray, List.set_cons_zero, List.set_cons_succ]
  refine wpAnyH_take (i := 10) (v := ?v10) (by simp only [List.getElem?_toArray, List.getElem?_cons_succ, List.getElem?_cons_zero]; rfl) (by kernel_rfl) (by kernel_rfl) (by kernel_rfl) (fun _ _ _ h => h) (Or.inl ⟨by rfl, ?h10⟩) (by assumption) ?_
  case h10 => (intro w hSw; obtain ⟨s0, s6⟩ := hSw; (try dsimp only at s0 s6); go_simp; (try simp only [hrs]); try with_reducible rfl)
  try simp only [Act.put, List.setIfInBounds_toArray, List.set_cons_zero, List.set_cons_succ]
  refine wpAnyH_take (i := 11) (v := ?v11) (by simp only [List.getElem?_toArray, List.getElem?_cons_succ, List.getElem?_cons_zero]; rfl) (by kernel_rfl) (by kernel_rfl) (by kernel_rfl) (fun _ _ _ h => h) (Or.inl ⟨by rfl, ?h11⟩) (by assumption) ?_
  case h11 => (intro w hSw; obtain ⟨s0, s6⟩ := hSw; (try dsimp only at s0 s6); go_simp; (try simp only [hrs]); try with_reducible rfl)
  try simp only [Act.put, List.setIfInBounds_toArray, List.set_cons_zero, List.set_cons_succ]
  refine wpAnyH_take (i := 12) (v := ?v12) (by simp only [List.getElem?_toArray, List.getElem?_cons_succ, List.getElem?_cons_zero]; rfl) (by kernel_rfl) (by kernel_rfl) (by kernel_rfl) (fun _ _ _ h => h) (Or.inl ⟨by rfl, ?h12⟩) (by assumption) ?_
  case h12 => (intro w hSw; obtain ⟨s0, s6⟩ := hSw; (try dsimp only at s0 s6); go_simp; (try simp only [hrs]); try with_reducible rfl)
  try simp only [Act.put, List.setIfInBounds_toArray, List.set_cons_zero, List.set_cons_succ]
  refine wpAnyH_ready (rs := [13]) (by kernel_rfl) (by simp) ?_
  refine AllReadyH.cons (o := _) rfl (fun K hK => ?_) AllReadyH.nil
  go_simp
  have hnn : IntKind.i64.wrap ((t.size : Int) - 1) = ((t.size - 1 : Nat) : Int) := by rw [IntWalk.i64_in _ (by omega)]; omega
  rw [hnn]
  refine (Go.Proofs.Tryd.strings_Repeat (mk1 mask) (t.size - 1) w2.drew (by omega) (by rw [show (mk1 mask).size = 1 from rfl]; omega)).mono ?_
  rintro e w3 ⟨rfl, hb3⟩
  have HB3 := Lib.hid (HB2.out.trans (below_of_drew (hb3.mono (by show w.heap.size ≤ w2.heap.size; exact HB2.out.size))))
  have HF3 := Lib.hid (HF2.out.stays (below_of_drew hb3))
  clear hb3
  have hxs : (mk1 mask).data.toList = [UInt8.ofNat mask.toNat] := rfl
  rw [hxs, rep_eq]
  obtain ⟨R, hR⟩ : ∃ R : ByteArray, R = ⟨(List.replicate (t.size - 1) (UInt8.ofNat mask.toNat)).toArray⟩ := ⟨_, rfl⟩
  rw [← hR]
  have hRl : R.data.toList = List.replicate (t.size - 1) (UInt8.ofNat mask.toNat) := by rw [hR]
  have hRz : R.size = t.size - 1 := by rw [← dlen, hRl, List.length_replicate]
  clear hR
  refine hK.out _ _ (HC.out w3 HB3.out) (fun hHeld2 => ?_)
  clear hK K hHeld
  try simp only [Act.put, List.setIfInBounds_toArray, List.set_cons_zero, List.set_cons_succ]
  refine wpAnyH_ready (rs := [14]) (by kernel_rfl) (by simp) ?_
  refine AllReadyH.cons (o := _) rfl (fun K hK => ?_) AllReadyH.nil
  obtain ⟨w4, c4, hcv4, hcell4, hb4⟩ := bytes_run w3 R
  go_simp
  have HB4 := Lib.hid (HB3.out.trans (hb4.mono HB3.out.size))
  have HF4 := Lib.hid (HF3.out.stays hb4)
  have hbz : w.heap.size < w3.heap.size := (HF3.out).lt
  clear hb4 hcv4
  refine hK.out _ _ (HC.out w4 HB4.out) (fun hHeld3 => ?_)
  clear hK K hHeld2
  try simp only [Act.put, List.setIfInBounds_toArray, List.set_cons_zero, List.set_cons_succ]
  refine wpAnyH_ready (rs := [15]) (by kernel_rfl) (by simp) ?_
  refine AllReadyH.cons (o := _) rfl (fun K hK => ?_) AllReadyH.nil
  go_simp
  have HW := Go.Proofs.Tryd.Buffer_Write_any w.heap.size w.heap.size (Lib.byteCells p.data.toList) (Lib.byteCells R.data.toList) ⟨w3.heap.size, 0, none⟩ (t.size - 1) c4 w4 HF4.out HB4.out.size (bytes_one _) (by rw [Lib.byteCells_length, dlen, hRz]) (by show w3.heap.size ≠ w.heap.size; omega) hcell4 (bytes_one _) (by rw [Lib.byteCells_length, dlen]; omega)
  refine HW.mono ?_
  clear HW
  rintro e w5 ⟨rfl, hI5, hb5, hk5⟩
  have HB5 := Lib.hid (HB4.out.trans hb5)
  have HF5 := Lib.hid (show Bf w.heap.size w.heap.size (p.data.toList ++ R.data.toList) w5 by unfold Bf; rw [Lib.byteCells, List.map_append]; exact hI5)
  clear hI5 hb5 hk5 hcell4
  refine hK.out _ _ (HC.out w5 HB5.out) (fun hHeld4 => ?_)
  clear hK K hHeld3 hHeld4
  try simp only [Act.put, List.setIfInBounds_toArray, List.set_cons_zero, List.set_cons_succ]
  refine wpAnyH_done (by kernel_rfl) ?_ _
  refine NoPanic.normal ?_
  have hx0 : 0 < (ints t).length := by omega
  obtain ⟨x, j0, hxp⟩ : ∃ x, w5.cell? ⟨b1, t.size - 1, none⟩ = some (.int .i32 x) ∧ 32 ≤ x ∧ x ≤ 126 :=
    ⟨_, (HT.out w5 HB5.out) (t.size - 1) (by omega), pt ((ints t).getD (t.size - 1) 0) (by rw [List.getD_eq_getElem?_getD, List.getElem?_eq_getElem (by omega)]; exact List.getElem_mem _)⟩
  have hx10 : (x == 10) = false := beq_eq_false_iff_ne.2 (by omega)
  obtain ⟨l0, l6⟩ := HC.out w5 HB5.out
  have hi0 : (0 : Int) ≤ ((t.size - 1 : Nat) : Int) := by omega
  have hi1 : (((t.size - 1 : Nat) : Int)) < (t.size : Int) := by omega
  have hi2 : (((t.size - 1 : Nat) : Int)).toNat = t.size - 1 := by omega
  go_wp2_with fail
  go_quiet (fail)
  have HB5' := Lib.hid (show Below w.heap.size w (w5.drewN nq) from pw_below_drewN HB5.out nq)
  have HF5' := Lib.hid (show Bf w.heap.size w.heap.size (p.data.toList ++ R.data.toList) (w5.drewN nq) from HF5.out.stays (pw_below_drewN (Below.refl _ _) nq))
  have h6c := HC.out _ HB5'.out
  obtain ⟨m0, m6⟩ := h6c
  obtain ⟨w6, c6, hcv6, hcell6, hb6⟩ := bytes_run (w5.drewN nq) (mk1 mask)
  have hsz : (w5.drewN nq).heap.size = w5.heap.size := rfl
  rw [show (mk1 mask).size = 1 from rfl] at hcv6
  go_wp2_with fail
  have HB6 := Lib.hid (HB5'.out.trans (hb6.mono HB5'.out.size))
  have HF6 := Lib.hid (HF5'.out.stays hb6)
  have hbz5 : w.heap.size < w5.heap.size := (HF5.out).lt
  clear hb6 hcv6
  have HW := Go.Proofs.Tryd.Buffer_Write_any w.heap.size w.heap.size (Lib.byteCells (p.data.toList ++ R.data.toList)) (Lib.byteCells (mk1 mask).data.toList) ⟨w5.heap.size, 0, none⟩ 1 c6 w6 HF6.out HB6.out.size (bytes_one _) (by rw [Lib.byteCells_length]; rfl) (by show w5.heap.size ≠ w.heap.size; omega) hcell6 (bytes_one _) (by rw [Lib.byteCells_length, List.length_append, dlen, dlen]; omega)
  refine HW.mono ?_
  clear HW
  rintro e w7 ⟨rfl, hI7, hb7, hk7⟩
  have HB7 := Lib.hid (HB6.out.trans hb7)
  have HF7 := Lib.hid (show Bf w.heap.size w.heap.size (p.data.toList ++ List.replicate t.size (UInt8.ofNat mask.toNat)) w7 by
    unfold Bf
    have e1 : List.replicate t.size (UInt8.ofNat mask.toNat) = R.data.toList ++ (mk1 mask).data.toList := by
      rw [hRl, show (mk1 mask).data.toList = [UInt8.ofNat mask.toNat] from rfl, show [UInt8.ofNat mask.toNat] = List.replicate 1 (UInt8.ofNat mask.toNat) from rfl, List.replicate_append_replicate, show t.size - 1 + 1 = t.size by omega]
    rw [e1, ← List.append_assoc, Lib.byteCells, List.map_append]
    exact hI7)
  clear hI7 hb7 hk7 hcell6
  obtain ⟨n0, n6⟩ := HC.out w7 HB7.out
  obtain ⟨n5, n1⟩ := HE.out w7 HB7.out
  go_wp2_with fail
  go_quiet (fail)
  go_wp2_with fail
  go_quiet (fail)
  go_wp2_with fail
  refine (Go.Proofs.Tryd.Buffer_Bytes w.heap.size w.heap.size _ _ (HF7.out.stays (pw_below_drewN (Below.refl _ _) _))).mono ?_
  rintro e w9 ⟨v, rfl, ho, n9, rfl⟩
  have HO := Lib.hid ho
  clear ho
  go_wp2_with fail
  go_ret
  refine ⟨v, rfl, ?_, by first | exact pw_below_drewN HB7.out _ | exact pw_below_drewN (pw_below_drewN HB7.out _) _⟩
  have h := HO.out
  rw [Lib.byteCells_length, List.length_append, dlen, List.length_replicate] at h
  exact h
end Go.Proofs.YtdinikcfhpfojaaDoor.H
