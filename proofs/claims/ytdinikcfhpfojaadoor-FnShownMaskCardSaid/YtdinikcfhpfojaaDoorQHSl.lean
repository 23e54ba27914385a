/- A line with a mask, as it is shown (impl.ShownLine): what it tells; for prompts and lines of printable ASCII of at most 1000000 signs, the cursor at the line's end, widths that are more than the prompt's. -/
import Derived.Test.YtdinikcfhpfojaaDoorQHSo
namespace Go.Proofs.YtdinikcfhpfojaaDoor.H
open Go.RowKit Go.Proofs.YtdinikcfhpfojaaDoorW.PrintWords Go.Proofs.YtdinikcfhpfojaaDoorW.PrintLast Go.Proofs.YtdinikcfhpfojaaDoor.R Go.Proofs.YtdinikcfhpfojaaDoor.X
set_option linter.unusedVariables false
set_option linter.unusedSimpArgs false
attribute [local go_sem ↓] Go.wp_at_zero Go.wp_at_succ
theorem Output_calls (m b c b1 c1 : Nat) (p t : ByteArray) (mask width : Int) (w : World) (hm : Rec w m (rbl (.slice (some ⟨b1, 0, none⟩) t.size c1) t.size (.slice (some ⟨b, 0, none⟩) p.size c) mask width) 89) (hr : CR w b (ints p)) (hr1 : CR w b1 (ints t)) (pp : Pln (ints p)) (pt : Pln (ints t)) (hps : p.size ≤ 1000000) (hts : t.size ≤ 1000000) (ht0 : 0 < t.size) (hc1 : t.size ≤ c1) (hm0 : 33 ≤ mask) (hm1 : mask ≤ 126) :
    Calls Tryd.prog 47 #[PtS m] w fun e w' => ∃ v, e = .returned v ∧ w'.ownsRow w.heap.size 5 1 v (p.size + t.size) (Lib.byteCells (p.data.toList ++ List.replicate t.size (UInt8.ofNat mask.toNat))) ∧ Below w.heap.size w w' := by
  have H := Lib.hid (output_calls m b c b1 c1 p t mask width w hm hr hr1 pp pt hps hts ht0 hc1 hm0 hm1)
  clear hm hr hr1 pp pt
  go_enter Tryd.func47, Tryd.ntmps47
  go_wp2_with (go_at_call 79; refine H.out.mono ?_; rintro e w1 ⟨v, rfl, ho⟩; have HO := Lib.hid ho; clear ho)
  go_ret
  exact ⟨v, rfl, HO.out.1, HO.out.2⟩
/-- What is shown. -/
def shown (p t : ByteArray) (mask : Int) : ByteArray := ⟨(p.data.toList ++ List.replicate t.size (UInt8.ofNat mask.toNat)).toArray⟩
theorem bytes_back (w : World) (N n : Nat) (v : Value) (l : List UInt8) (hn : n = l.length) (h : w.ownsRow N 5 1 v n (Lib.byteCells l)) (h0 : 0 < n) : (convert 24 9 v).run Tryd.prog w = .ok (.string ⟨l.toArray⟩) w := by
  subst hn
  rcases h.2 with ⟨e, h1⟩ | ⟨g, cap, cur, e, hg, hh, hn2, hm, hs, ht⟩
  · omega
  · subst e
    have hc : ∀ j (hj : j < l.length), w.cell? ((⟨g, 0, none⟩ : Addr).add j) = some (.int .u8 (l[j].toNat : Int)) := fun j hj => by
      have e : (⟨g, 0, none⟩ : Addr).add j = ⟨g, j, none⟩ := by
        cases j with
        | zero => rfl
        | succ j => simp [Addr.add]
      rw [e]
      unfold World.cell?
      simp only [hh]
      have e1 : cur.toList[j]? = (Lib.byteCells l)[j]? := by rw [← ht, Nat.mul_one, List.getElem?_take_of_lt hj]
      rw [Lib.byteCells, List.getElem?_map, List.getElem?_eq_getElem hj] at e1
      simpa using e1
    exact run_convert_bytes_back (P := Tryd.prog) w 24 9 5 _ _ l (by kernel_rfl) (by kernel_rfl) (by kernel_rfl) hc
theorem ShownLine_calls (p t : ByteArray) (mask width : Int) (w : World) (hp : Pln (ints p)) (ht : Pln (ints t)) (hps : p.size ≤ 1000000) (hts : t.size ≤ 1000000) (ht0 : 0 < t.size) (hw : (p.size : Int) < width) (hw1 : width ≤ 1000000) (hm0 : 33 ≤ mask) (hm1 : mask ≤ 126) :
    Calls Tryd.prog 24 #[.string p, .agg #[.string t, .int .i64 t.size], .int .i64 width, .int .i64 mask] w fun e w' => e = .returned (.tuple #[.string (shown p t mask), .bool true]) ∧ Below w.heap.size w w' := by
  have HP := Lib.hid (And.intro hp ht)
  clear hp ht
  go_enter Tryd.func24, Tryd.ntmps24
  go_wp2_with fail
  refine (buffer_calls p t mask width _ HP.out.1 HP.out.2 hps hts hw hw1 hm0 hm1).mono ?_
  rintro e w1 ⟨m, b, c, b1, c1, rfl, hm, hr, hr1, hc, hc1, hb1⟩
  have HM := Lib.hid (And.intro hm (And.intro hr (And.intro hr1 (below_step ((Below.refl w.heap.size w).alloc (Nat.le_refl _) _) hb1))))
  clear hm hr hr1 hb1
  go_wp2_with fail
  refine (Output_calls m b c b1 c1 p t mask width w1 HM.out.1 HM.out.2.1 HM.out.2.2.1 HP.out.1 HP.out.2 hps hts ht0 hc1 hm0 hm1).mono ?_
  rintro e w2 ⟨v, rfl, ho, hb2⟩
  have hbk := bytes_back w2 _ _ v _ (by rw [List.length_append, dlen, List.length_replicate]) ho (by omega)
  have HB2 := Lib.hid (below_step HM.out.2.2.2 hb2)
  clear ho hb2
  go_wp2_with fail
  refine bodyPost_ret (results_tmp2 rfl _ _ _) rfl ?_
  exact ⟨rfl, HB2.out⟩
/-- For printable ASCII, the cursor at the end, columns that are more than the prompt's. -/
def impl_ShownLine.f (p t : ByteArray) (at_ width mask : Int) : Option (ByteArray × Bool) := if (∀ x ∈ ints p, 32 ≤ x ∧ x ≤ 126) ∧ (∀ x ∈ ints t, 32 ≤ x ∧ x ≤ 126) ∧ at_ = t.size ∧ p.size ≤ 1000000 ∧ t.size ≤ 1000000 ∧ 0 < t.size ∧ (p.size : Int) < width ∧ width ≤ 1000000 ∧ 33 ≤ mask ∧ mask ≤ 126 then some (shown p t mask, true) else none
theorem impl_ShownLine.calls (p t : ByteArray) (at_ width mask : Int) (r1 : ByteArray) (r2 : Bool) (w : World) (h : impl_ShownLine.f p t at_ width mask = some (r1, r2)) :
    Calls Tryd.prog 24 #[.string p, .agg #[.string t, .int .i64 at_], .int .i64 width, .int .i64 mask] w fun e w' => e = .returned (.tuple #[.string r1, .bool r2]) ∧ Below w.heap.size w w' := by
  unfold impl_ShownLine.f at h
  by_cases hg : (∀ x ∈ ints p, 32 ≤ x ∧ x ≤ 126) ∧ (∀ x ∈ ints t, 32 ≤ x ∧ x ≤ 126) ∧ at_ = t.size ∧ p.size ≤ 1000000 ∧ t.size ≤ 1000000 ∧ 0 < t.size ∧ (p.size : Int) < width ∧ width ≤ 1000000 ∧ 33 ≤ mask ∧ mask ≤ 126
  · rw [if_pos hg] at h
    obtain ⟨g0, g1, rfl, g3, g4, g5, g6, g7, g8, g9⟩ := hg
    cases h
    exact ShownLine_calls p t mask width w g0 g1 g3 g4 g5 g6 g7 g8 g9
  · rw [if_neg hg] at h; cases h
end Go.Proofs.YtdinikcfhpfojaaDoor.H
