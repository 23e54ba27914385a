/- The closure of impl.MessageRead, and what it hands on: contracts; no condition but bounds that its callers meet. -/
import Derived.Test.YthkblefeifdhaaaHMsgRead
namespace Go.Proofs.Ythkblefeifdhaaa.H
open Go.RowKit Go.Proofs.YthkblefeifdhaaaW.PrintWords Go.Proofs.YthkblefeifdhaaaW.PrintLast Go.Proofs.Ythkblefeifdhaaa.R Go.Proofs.Ythkblefeifdhaaa.X
set_option linter.unusedVariables false
set_option linter.unusedSimpArgs false
attribute [local go_sem ↓] Go.wp_at_zero Go.wp_at_succ

theorem str_bytes2 (w : World) (s : ByteArray) (hs : s.size ≤ 100000) : ∃ c W1, (convert 9 26 (.string s)).run Try.prog w = .ok (.slice (some ⟨w.heap.size, 0, none⟩) s.size c) W1 ∧ (∀ j, j < s.size → W1.cell? ⟨w.heap.size, j, none⟩ = some (.int .u8 ((ints s).getD j 0))) ∧ Below w.heap.size w W1 ∧ W1.heap.size = w.heap.size + 1 ∧ s.size ≤ c ∧ c ≤ maxLen := by
  refine ⟨grownCap w s.size 0 5, _, run_bytes_of_string (P := Try.prog) w 9 26 5 s Try.underlying9 Try.underlying26 Try.underlying5, fun j hj => ?_, ?_, ?_, grownCap_ge _ _ _ _, grownCap_le_maxLen _ _ _ _ (by unfold maxLen; omega)⟩
  · have hnew : (w.drew.alloc (.cells (bytesRow s (grownCap w s.size 0 5)) 5 ((bytesRow s (grownCap w s.size 0 5)).size, (bytesRow s (grownCap w s.size 0 5)).size + 1))).heap[w.heap.size]? = some (.cells (bytesRow s (grownCap w s.size 0 5)) 5 ((bytesRow s (grownCap w s.size 0 5)).size, (bytesRow s (grownCap w s.size 0 5)).size + 1)) := Go.heap_alloc_new w.drew _
    simp only [World.cell?, hnew]
    have hj' : j < s.data.toList.length := by rw [dlen]; exact hj
    have hj2 : j < s.data.size := hj
    have e1 : (bytesRow s (grownCap w s.size 0 5))[j]? = some (.int .u8 ((s.data[j]'hj2).toNat : Int)) := by
      unfold bytesRow
      rw [Array.getElem?_append_left (by simpa using hj2), Array.getElem?_map, Array.getElem?_eq_getElem hj2]
      rfl
    have e2 : (ints s).getD j 0 = ((s.data[j]'hj2).toNat : Int) := by
      unfold ints
      rw [List.getD_eq_getElem?_getD, List.getElem?_map, List.getElem?_eq_getElem hj']
      simp
    rw [e2, if_neg (by simp)]
    exact e1
  · exact ((Below.refl w.heap.size w).drew).alloc (Nat.le_refl _) _
  · show (w.heap.push _).size = _
    rw [Array.size_push]
set_option maxRecDepth 100000 in
set_option maxHeartbeats 2000000 in
theorem msg_closure (qs qm qr qe n kd : Nat) (s : ByteArray) (d rest : List Int) (w : World) (hs : One w qs (.string s) 9) (hm : One w qm (.pointer none) 69) (hr : One w qr (.slice none 0 0) 26) (he : One w qe .nilIface 77)
    (h1 : qm ≠ qr) (h2 : qm ≠ qe) (h3 : qr ≠ qe) (hz : s.size ≤ 100000) (hx : ints s = head6 n kd ++ (d ++ rest)) (hn : d.length = n) (hl : n ≤ 500) (hk : kd < 32768) :
    Calls Try.prog 48 #[.pointer (some ⟨qs, 0, none⟩), .pointer (some ⟨qm, 0, none⟩), .pointer (some ⟨qr, 0, none⟩), .pointer (some ⟨qe, 0, none⟩)] w fun e w' => e = .returned (.tuple #[]) ∧
      ∃ w1 m o c' dv, Below w.heap.size w w1 ∧ w.heap.size < m ∧ Rec w1 m [.int .i16 kd, dv] 73 ∧ BOwn w1 m dv d ∧ (∀ j, j < rest.length → w1.cell? ⟨w.heap.size, o + j, none⟩ = some (.int .u8 (rest.getD j 0))) ∧
        w' = ((w1.setCell ⟨qm, 0, none⟩ (.pointer (some ⟨m, 0, none⟩))).setCell ⟨qr, 0, none⟩ (.slice (some ⟨w.heap.size, o, none⟩) rest.length c')).setCell ⟨qe, 0, none⟩ .nilIface := by
  have hsz : s.size = 6 + n + rest.length := by rw [← ints_length, hx]; simp [head6, hn]; omega
  obtain ⟨c, W1, hcv, hcell, hb1, hz1, hc1, hc2⟩ := str_bytes2 w s hz
  have HC := Lib.hid (read_calls w.heap.size c n kd d rest W1 hn (by omega) hc2 (by omega) (fun j hj => by rw [hcell j (by omega), hx]) hl hk)
  rw [← hsz, hz1] at HC
  clear hsz hx
  have c0 := hs.cell
  have lm := hm.lt
  have lr := hr.lt
  have le := he.lt
  have HO := Lib.hid (And.intro hm (And.intro hr (And.intro he (And.intro hb1 (And.intro hz1 (And.intro h1 (And.intro h2 h3)))))))
  clear hm hr he hb1 hcell h1 h2 h3
  go_enter Try.func48, Try.ntmps48
  go_wp2_with (go_at_call 49; refine HC.out.mono ?_; rintro e w2 ⟨o, c', dv, rfl, hm2, ho2, hs2, hb2⟩; have hbb : Below w.heap.size w w2 := Below.lower HO.out.2.2.2.1 (show w.heap.size ≤ W1.heap.size by rw [HO.out.2.2.2.2.1]; omega) (by rw [HO.out.2.2.2.2.1]; exact hb2); have rm := HO.out.1.stays hbb; have rr := HO.out.2.1.stays hbb; have re := HO.out.2.2.1.stays hbb; have m1 := rm.cell; have m2 := rm.free; have r1 := rr.cell; have r2 := rr.free; have e1 := re.cell; have e2 := re.free; have r3 := (rr.other (a := ⟨qm, 0, none⟩) (Ne.symm HO.out.2.2.2.2.2.1) (.pointer (some ⟨w.heap.size + 1, 0, none⟩))); have e3 := (re.other (a := ⟨qm, 0, none⟩) (Ne.symm HO.out.2.2.2.2.2.2.1) (.pointer (some ⟨w.heap.size + 1, 0, none⟩))).other (a := ⟨qr, 0, none⟩) (Ne.symm HO.out.2.2.2.2.2.2.2) (.slice (some ⟨w.heap.size, o, none⟩) rest.length c'); have r4 := r3.cell; have r5 := r3.free; have e4 := e3.cell; have e5 := e3.free)
  go_end0
  exact ⟨rfl, w2, w.heap.size + 1, o, c', dv, hbb, by omega, hm2, ho2, hs2, rfl⟩
end Go.Proofs.Ythkblefeifdhaaa.H
