/- The reference's editor of a line (spec.NewEditor, Line) in memory; for texts of at most 1000000 bytes. -/
import Derived.Test.YtdinikcfhpfojaaDoorQPDox5
import Derived.Test.YtdinikcfhpfojaaDoorQHRec
import Derived.StillTailTactics
namespace Go.Proofs.YtdinikcfhpfojaaDoor.H
open Go.RowKit Go.Proofs.YtdinikcfhpfojaaDoorW.PrintWords Go.Proofs.YtdinikcfhpfojaaDoorW.PrintLast Go.Proofs.YtdinikcfhpfojaaDoor.R Go.Proofs.YtdinikcfhpfojaaDoor.PDo
set_option linter.unusedVariables false
set_option linter.unusedSimpArgs false
theorem str_runes (w : World) (s : ByteArray) (hs : s.size ≤ 70368744177664) : ∃ c W1, (convert 9 66 (.string s)).run Tryd.prog w = .ok (.slice (some ⟨w.heap.size, 0, none⟩) (runesOf s).length c) W1 ∧ Kd.C (Kd.int .i32) W1 (some ⟨w.heap.size, 0, none⟩) (runesOf s).length (runesOf s) ∧ (runesOf s).length ≤ c ∧ Below w.heap.size w W1 ∧ W1.heap.size = w.heap.size + 1 := by
  have hl := runesOf_length s
  refine ⟨_, _, runes_run (P := Tryd.prog) w 9 66 21 s Tryd.underlying9 Tryd.underlying66 Tryd.underlying21 hs, ?_, grownCap_ge w _ 0 21, ((Below.refl w.heap.size w).drew).alloc (Nat.le_refl _) _, ?_⟩
  · refine Kd.C_of_reads (d := 0) ⟨rfl, by omega, fun _ => ⟨_, rfl, fun j hj => ?_⟩⟩
    have h1 := (Rec.new w.drew (runeCells (runesOf s) (grownCap w (runesOf s).length 0 21)) 21).cell j (runeCells_at _ _ j hj)
    have e : (⟨w.heap.size, 0, none⟩ : Addr).add j = ⟨w.heap.size, j, none⟩ := by
      cases j with
      | zero => rfl
      | succ j => simp [Addr.add]
    rw [e]
    exact h1
  · show (w.heap.push _).size = _
    rw [Array.size_push]
theorem C_none (w : World) : Kd.C (Kd.int .i32) w none ([] : List Int).length [] := Kd.C_of_reads (d := (0 : Int)) ⟨rfl, by simp, fun h => by simp at h⟩
theorem NewEditor_calls (s : ByteArray) (a : Int) (w : World) (hs : s.size ≤ 1000000) (h0 : 0 ≤ a) (h1 : a ≤ (runesOf s).length) :
    Calls Tryd.prog 30 #[.string s, .int .i64 a] w fun e w' => ∃ wr g, e = .returned (.tuple #[.pointer (some ⟨g, 0, none⟩), .bool true]) ∧ IsS91 wr w' g (runesOf s) a [] false false ∧ Below w.heap.size w wr ∧ Below wr.heap.size wr w' := by
  obtain ⟨c, W1, hcv, hC, hc, hb, hz⟩ := str_runes w s (by omega)
  have hl := runesOf_length s
  have HX := Lib.hid (And.intro hC (And.intro hc hb))
  clear hC hc hb hz
  go_enter Tryd.func30, Tryd.ntmps30
  go_wp2
  go_ret2
  exact ⟨W1, W1.heap.size, by simp, ⟨_, _, _, _, Go.heap_alloc_new W1 _, Nat.le_refl _, HX.out.1, C_none W1⟩, HX.out.2.2, (Below.refl _ _).alloc (Nat.le_refl _) _⟩
set_option maxRecDepth 100000 in
set_option maxHeartbeats 4000000 in
theorem Line_calls (w0 w : World) (g : Nat) (l kept : List Int) (a : Int) (bad op : Bool) (hI : IsS91 w0 w g l a kept bad op) (hB : Below w0.heap.size w0 w) :
    Calls Tryd.prog 34 #[.pointer (some ⟨g, 0, none⟩)] w fun e w' => e = .returned (.agg #[.string (runesBytes l), .int .i64 a]) ∧ Below w.heap.size w w' := by
  obtain ⟨A0, c0, A2, c2, hb, hg, hr0, hr2⟩ := hI
  have hR : Rec w g [.slice A0 l.length c0, .int .i64 a, .slice A2 kept.length c2, .bool bad, .bool op] 91 := hb
  have k0 := (hR.alloc (.cells #[.string ⟨#[]⟩, .int .i64 0] 23)).cell 0 rfl
  have k1 := (hR.alloc (.cells #[.string ⟨#[]⟩, .int .i64 0] 23)).cell 1 rfl
  have hC := Kd.C_below hr0 hB
  have hcv : ∀ n, (convert 66 9 (.slice A0 l.length c0)).run Tryd.prog ((w.alloc (.cells #[.string ⟨#[]⟩, .int .i64 0] 23)).drewN n) = .ok (.string (runesBytes l)) ((w.alloc (.cells #[.string ⟨#[]⟩, .int .i64 0] 23)).drewN n) := fun n =>
    C_runes Tryd.underlying66 Tryd.underlying21 Tryd.underlying9 (Kd.C_below (Kd.C_alloc hC _) (pw_below_drewN (Below.refl _ _) n))
  have hcv1 : (convert 66 9 (.slice A0 l.length c0)).run Tryd.prog (w.alloc (.cells #[.string ⟨#[]⟩, .int .i64 0] 23)).drew = .ok (.string (runesBytes l)) (w.alloc (.cells #[.string ⟨#[]⟩, .int .i64 0] 23)).drew := hcv 1
  have hn := Rec.new w [.string ⟨#[]⟩, .int .i64 0] 23
  have n0 := hn.cell 0 rfl
  have n1 := hn.cell 1 rfl
  have f0 := hn.free 0
  have f1 := hn.free 1
  clear hb hg hr0 hr2 hC hR
  go_enter Tryd.func34, Tryd.ntmps34
  go_wp2_with fail
  have hbw := Below.alloc (Below.refl w.heap.size w) (Nat.le_refl _) (.cells #[.string ⟨#[]⟩, .int .i64 0] 23)
  have HB := Lib.hid hbw
  have HN := Lib.hid hn
  clear hbw hn hcv
  generalize w.alloc (.cells #[.string ⟨#[]⟩, .int .i64 0] 23) = W at *
  go_still_tail 10, (by kernel_rfl)
  change wpList _ _ _ _ _ W.drew
  go_wp2_with fail
  have hf := (HN.out.set 0 (.string (runesBytes l))).set 1 (.int .i64 a)
  have r0 := hf.cell 0 rfl
  have r1 := hf.cell 1 rfl
  refine bodyPost_ret (v := .agg #[.string (runesBytes l), .int .i64 a]) (by simp [results, Tryd.results34, go_sem, r0, r1]) rfl ⟨rfl, ?_⟩
  exact ((HB.out.setCell (p := ⟨w.heap.size, 0, none⟩) (Nat.le_refl _) _).setCell (p := ⟨w.heap.size, 1, none⟩) (Nat.le_refl _) _).drew
end Go.Proofs.YtdinikcfhpfojaaDoor.H
