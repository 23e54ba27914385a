/- Texts that a writer of sequences for a terminal writes (goprompt.VT100Writer.WriteRawStr, Write, WriteStr); for texts of at most 100000 bytes. -/
import Derived.Test.YtanadaamipfmkaaDoorQHVtA
import Derived.Laws.IdiomStrings
import Derived.Test.YtanadaamipfmkaaDoorQPzzReplaceAllx1
namespace Go.Proofs.YtanadaamipfmkaaDoor.H
open Go.RowKit Go.Proofs.YtanadaamipfmkaaDoorW.PrintWords Go.Proofs.YtanadaamipfmkaaDoorW.PrintLast Go.Proofs.YtanadaamipfmkaaDoor.R Go.Proofs.YtanadaamipfmkaaDoor.X
set_option linter.unusedVariables false
set_option linter.unusedSimpArgs false
theorem str_bytes (w : World) (s : ByteArray) : ∃ c W1, (convert 9 47 (.string s)).run Tryd.prog w = .ok (.slice (some ⟨w.heap.size, 0, none⟩) s.size c) W1 ∧ (∀ j u, ((ints s).map (Value.int .u8))[j]? = some u → W1.cell? ((⟨w.heap.size, 0, none⟩ : Addr).add j) = some u) ∧ Below w.heap.size w W1 ∧ W1.heap.size = w.heap.size + 1 := by
  refine ⟨_, _, run_bytes_of_string (P := Tryd.prog) w 9 47 5 s Tryd.underlying9 Tryd.underlying47 Tryd.underlying5, fun j u hu => ?_, ?_, ?_⟩
  · have hnew : (w.drew.alloc (.cells (bytesRow s (grownCap w s.size 0 5)) 5 ((bytesRow s (grownCap w s.size 0 5)).size, (bytesRow s (grownCap w s.size 0 5)).size + 1))).heap[w.heap.size]? = some (.cells (bytesRow s (grownCap w s.size 0 5)) 5 ((bytesRow s (grownCap w s.size 0 5)).size, (bytesRow s (grownCap w s.size 0 5)).size + 1)) := Go.heap_alloc_new w.drew _
    rw [List.getElem?_map] at hu
    obtain ⟨x, hx, rfl⟩ := Option.map_eq_some_iff.1 hu
    obtain ⟨hj, rfl⟩ := List.getElem?_eq_some_iff.1 hx
    rw [ints_length] at hj
    rw [show (⟨w.heap.size, 0, none⟩ : Addr).add j = ⟨w.heap.size, j, none⟩ by unfold Addr.add; split <;> simp_all]
    simp only [World.cell?, hnew]
    have hj2 : j < s.data.size := hj
    have e1 : (bytesRow s (grownCap w s.size 0 5))[j]? = some (.int .u8 ((s.data[j]'hj2).toNat : Int)) := by
      unfold bytesRow
      rw [Array.getElem?_append_left (by simpa using hj2), Array.getElem?_map, Array.getElem?_eq_getElem hj2]
      rfl
    rw [if_neg (by simp)]
    refine e1.trans ?_
    simp [ints]
  · exact ((Below.refl w.heap.size w).drew).alloc (Nat.le_refl _) _
  · show (w.heap.push _).size = _
    rw [Array.size_push]
theorem WriteRawStr_calls {N m c : Nat} {T : Option Addr} {w : World} {bs : List Int} (h : VS w N m T c bs) (s : ByteArray) (hs : s.size ≤ 100000) (hb : bs.length ≤ 800000) : Calls Tryd.prog 61 #[Wp m, .string s] w fun e w' => e = .returned (.tuple #[]) ∧ ∃ T' c', VT N m T bs.length c w T' c' (bs ++ ints s) w' := by
  obtain ⟨cc, W1, hcv, hcell, hb1, hz⟩ := str_bytes w s
  have hl := ints_length s
  have hN := h.ge
  have hlt := h.blk.lt
  have HC := WriteRaw_calls (h.stays hb1) (nw := ints s) (cd := cc) (by omega) hcell
  rw [hl] at HC
  have HC := Lib.hid HC
  have HR := Lib.hid ((VT.refl h).stays hb1 (by omega))
  clear h hcell
  go_enter Tryd.func61, Tryd.ntmps61
  go_wp2_with fail
  refine HC.out.mono ?_
  rintro e w2 ⟨rfl, T', c', hT⟩
  have HT := Lib.hid (HR.out.trans hT)
  clear hT
  go_wp2_with fail
  go_end0
  exact ⟨rfl, T', c', HT.out⟩
theorem Write_calls {N m c k g cc : Nat} {T : Option Addr} {w : World} {bs : List Int} (h : VS w N m T c bs) (s r : ByteArray) (hs : s.size ≤ 100000) (hb : bs.length ≤ 800000) (hg : g < w.heap.size) (hcell : ∀ j u, ((ints s).map (Value.int .u8))[j]? = some u → w.cell? ((⟨g, 0, none⟩ : Addr).add j) = some u) (hr : PzzReplaceAll.goprompt_zzReplaceAll.f k s ⟨#[27]⟩ ⟨#[63]⟩ = some r) (hrs : r.size ≤ 100000) :
    Calls Tryd.prog 87 #[Wp m, .slice (some ⟨g, 0, none⟩) s.size cc] w fun e w' => e = .returned (.tuple #[]) ∧ ∃ T' c', VT N m T bs.length c w T' c' (bs ++ ints r) w' := by
  have hN := h.ge
  have hlt := h.blk.lt
  have hst : strOfNums (ints s) = s := str_ext (by rw [strOfNums_data, ints, List.map_map]; simp [Function.comp_def])
  have hcv := run_convert_bytes_arg (P := Tryd.prog) w 47 5 Tryd.underlying47 Tryd.underlying5 g 0 s.size cc (ints s) (ints_length s) (fun i hi => by
    have e : (⟨g, 0, none⟩ : Addr).add i = ⟨g, i, none⟩ := by
      cases i with
      | zero => rfl
      | succ j => simp [Addr.add]
    rw [Nat.zero_add, ← e, List.getD_eq_getElem?_getD, List.getElem?_eq_getElem (by rw [ints_length]; exact hi)]
    exact hcell i _ (by rw [List.getElem?_map, List.getElem?_eq_getElem (by rw [ints_length]; exact hi)]; rfl)) 9 Tryd.underlying9
  rw [hst] at hcv
  have HV := Lib.hid h
  have HP := Lib.hid (PzzReplaceAll.goprompt_zzReplaceAll.calls k s ⟨#[27]⟩ ⟨#[63]⟩ r w hr)
  clear h hcell hst hr
  go_enter Tryd.func87, Tryd.ntmps87
  go_wp2_with fail
  refine HP.out.mono ?_
  rintro e w1 ⟨rfl, hb1⟩
  obtain ⟨c2, W2, hcv2, hcell2, hb2, hz2⟩ := str_bytes w1 r
  have hl := ints_length r
  have hS1 := HV.out.stays hb1
  have hz1 := hb1.size
  have HC := WriteRaw_calls (hS1.stays hb2) (nw := ints r) (cd := c2) (by omega) hcell2
  rw [hl] at HC
  have HC := Lib.hid HC
  have HR := Lib.hid (((VT.refl HV.out).stays hb1 (by omega)).stays hb2 (by omega))
  clear hcell2 hS1
  go_wp2_with fail
  refine HC.out.mono ?_
  rintro e w2 ⟨rfl, T', c', hT⟩
  have HT := Lib.hid (HR.out.trans hT)
  clear hT
  go_wp2_with fail
  go_end0
  exact ⟨rfl, T', c', HT.out⟩
theorem WriteStr_calls {N m c k : Nat} {T : Option Addr} {w : World} {bs : List Int} (h : VS w N m T c bs) (s r : ByteArray) (hs : s.size ≤ 100000) (hb : bs.length ≤ 800000) (hr : PzzReplaceAll.goprompt_zzReplaceAll.f k s ⟨#[27]⟩ ⟨#[63]⟩ = some r) (hrs : r.size ≤ 100000) : Calls Tryd.prog 60 #[Wp m, .string s] w fun e w' => e = .returned (.tuple #[]) ∧ ∃ T' c', VT N m T bs.length c w T' c' (bs ++ ints r) w' := by
  obtain ⟨cc, W1, hcv, hcell, hb1, hz⟩ := str_bytes w s
  have hN := h.ge
  have hlt := h.blk.lt
  have HC := Lib.hid (Write_calls (cc := cc) (h.stays hb1) s r hs hb (g := w.heap.size) (by omega) hcell hr hrs)
  have HR := Lib.hid ((VT.refl h).stays hb1 (by omega))
  clear h hcell hr
  go_enter Tryd.func60, Tryd.ntmps60
  go_wp2_with fail
  refine HC.out.mono ?_
  rintro e w2 ⟨rfl, T', c', hT⟩
  have HT := Lib.hid (HR.out.trans hT)
  clear hT
  go_wp2_with fail
  go_end0
  exact ⟨rfl, T', c', HT.out⟩
end Go.Proofs.YtanadaamipfmkaaDoor.H
