/- The pure part of FnShownMask: prompt and masks are what the reference puts together; no condition. -/
import Derived.Test.YtdinikcfhpfojaaDoorQPFnShownMaskx1
import Derived.Test.YtdinikcfhpfojaaDoorQXPure
namespace Go.Proofs.YtdinikcfhpfojaaDoor.Pure
open Go.RowKit Go.Proofs.YtdinikcfhpfojaaDoor.PFnShownMask Go.Proofs.YtdinikcfhpfojaaDoorW.PrintWords Go.Proofs.YtdinikcfhpfojaaDoorW.PrintLast Go.Proofs.YtdinikcfhpfojaaDoor.R Go.Proofs.YtdinikcfhpfojaaDoor.X Go.Proofs.YtdinikcfhpfojaaDoor.H
set_option linter.unusedVariables false
set_option linter.unusedSimpArgs false
theorem plain_tells (s : ByteArray) (hs : s.size ≤ 300) : ∃ b, Ev (fun k => spec_IsPlain.f k s) b ∧ (b = true → ∀ x ∈ ints s, 32 ≤ x ∧ x ≤ 126) := by
  unfold spec_IsPlain.f
  suffices h : ∀ d i : Nat, i + d = s.size → ∃ b, Ev (fun k => spec_IsPlain.l0 k s (s.size : Int) (i : Int)) b ∧ (b = true → ∀ j (hj : j < s.size), i ≤ j → 32 ≤ bt s (j : Int) ∧ bt s (j : Int) ≤ 126) by
    obtain ⟨b, h1, h2⟩ := h s.size 0 (by omega)
    refine ⟨b, h1, fun hb x hx => ?_⟩
    obtain ⟨j, hj, rfl⟩ := List.getElem_of_mem hx
    rw [ints_length] at hj
    have := h2 hb j hj (by omega)
    rwa [bt_ints s j hj] at this
  intro d
  induction d with
  | zero => intro i hi; exact ⟨true, Ev.step (fun k => by rw [spec_IsPlain.l0]) (ev_ifn (by omega) (Ev.now _)), fun _ j hj hij => by omega⟩
  | succ d ih =>
    intro i hi
    obtain ⟨b, h1, h2⟩ := ih (i + 1) (by omega)
    rw [show ((i + 1 : Nat) : Int) = (i : Int) + 1 from by omega] at h1
    by_cases a : bt s (i : Int) < 32
    · exact ⟨false, Ev.step (fun k => by rw [spec_IsPlain.l0]) (ev_ifp (by omega) (ev_ifp (by omega) (ev_ifp (by omega) (ev_ifp a (Ev.now _))))), by simp⟩
    · by_cases c : bt s (i : Int) > 126
      · exact ⟨false, Ev.step (fun k => by rw [spec_IsPlain.l0]) (ev_ifp (by omega) (ev_ifp (by omega) (ev_ifp (by omega) (ev_ifn a (ev_ifp c (Ev.now _)))))), by simp⟩
      · refine ⟨b, Ev.step (fun k => by rw [spec_IsPlain.l0, w64 (x := (i : Int) + 1) (by omega) (by omega)]) (ev_ifp (by omega) (ev_ifp (by omega) (ev_ifp (by omega) (ev_ifn a (ev_ifn c h1))))), fun hb j hj hij => ?_⟩
        rcases Nat.eq_or_lt_of_le hij with rfl | hlt
        · omega
        · exact h2 hb j hj hlt
theorem cols_tells (p t : ByteArray) (w : Int) : ∃ b, Ev (fun k => laws_columns9.f k p t 0 w) b ∧ (b = true → (∀ x ∈ ints p, 32 ≤ x ∧ x ≤ 126) ∧ (∀ x ∈ ints t, 32 ≤ x ∧ x ≤ 126) ∧ p.size ≤ 100 ∧ t.size ≤ 300 ∧ 4 ≤ w ∧ w ≤ 200 ∧ (p.size : Int) < w) := by
  unfold laws_columns9.f
  by_cases h1 : (p.size : Int) ≤ 100
  case neg => exact ⟨false, ev_ifn h1 (Ev.now _), by simp⟩
  obtain ⟨b1, e1, t1⟩ := plain_tells p (by omega)
  cases b1 with
  | false => exact ⟨false, ev_ifp h1 (ev_bind e1 (ev_ifn (by simp) (Ev.now _))), by simp⟩
  | true =>
    by_cases h2 : (t.size : Int) ≤ 300
    case neg => exact ⟨false, ev_ifp h1 (ev_bind e1 (ev_ifp rfl (ev_ifn h2 (Ev.now _)))), by simp⟩
    obtain ⟨b2, e2, t2⟩ := plain_tells t (by omega)
    cases b2 with
    | false => exact ⟨false, ev_ifp h1 (ev_bind e1 (ev_ifp rfl (ev_ifp h2 (ev_bind e2 (ev_ifn (by simp) (Ev.now _)))))), by simp⟩
    | true =>
      by_cases h3 : w ≥ 4
      case neg => exact ⟨false, ev_ifp h1 (ev_bind e1 (ev_ifp rfl (ev_ifp h2 (ev_bind e2 (ev_ifp rfl (ev_ifp (by omega) (ev_ifp (by omega) (ev_ifn h3 (Ev.now _))))))))), by simp⟩
      by_cases h4 : w ≤ 200
      case neg => exact ⟨false, ev_ifp h1 (ev_bind e1 (ev_ifp rfl (ev_ifp h2 (ev_bind e2 (ev_ifp rfl (ev_ifp (by omega) (ev_ifp (by omega) (ev_ifp h3 (ev_ifn h4 (Ev.now _)))))))))), by simp⟩
      exact ⟨_, ev_ifp h1 (ev_bind e1 (ev_ifp rfl (ev_ifp h2 (ev_bind e2 (ev_ifp rfl (ev_ifp (by omega) (ev_ifp (by omega) (ev_ifp h3 (ev_ifp h4 (Ev.now _)))))))))), fun hb => ⟨t1 rfl, t2 rfl, by omega, by omega, by omega, by omega, by simpa using hb⟩⟩
/-- The prompt and so many masks. -/
def pre (p : ByteArray) (i : Nat) (m : Int) : ByteArray := ⟨(p.data.toList ++ List.replicate i (UInt8.ofNat m.toNat)).toArray⟩
theorem pre_next (p : ByteArray) (i : Nat) (m : Int) (h0 : 33 ≤ m) (h1 : m ≤ 126) : pre p i m ++ strOfNums [m] = pre p (i + 1) m := by
  refine str_ext ?_
  have e : ∀ a b : ByteArray, (a ++ b).data.toList = a.data.toList ++ b.data.toList := fun a b => by simp
  rw [e]
  unfold pre
  rw [List.replicate_succ']
  have : (strOfNums [m]).data.toList = [UInt8.ofNat m.toNat] := by simp [strOfNums]
  rw [this]
  simp
theorem pre_size (p : ByteArray) (i : Nat) (m : Int) : (pre p i m).size = p.size + i := by
  rw [← dlen]
  unfold pre
  simp [dlen]
theorem loop_tells (p t : ByteArray) (w m : Int) (hp : ∀ x ∈ ints p, 32 ≤ x ∧ x ≤ 126) (ht : ∀ x ∈ ints t, 32 ≤ x ∧ x ≤ 126) (hps : p.size ≤ 100) (hts : t.size ≤ 300) (h4 : 4 ≤ w) (h5 : w ≤ 200) (hw : (p.size : Int) < w) (h0 : 33 ≤ m) (h1 : m ≤ 126) (ht0 : 0 < t.size) : Ev (fun k => laws_FnShownMask.l0 k p t w m p (t.size : Int) 0) true := by
  suffices h : ∀ d i : Nat, i + d = t.size → Ev (fun k => laws_FnShownMask.l0 k p t w m (pre p i m) (t.size : Int) (i : Int)) true by
    have := h t.size 0 (by omega)
    rwa [show pre p 0 m = p from str_ext (by simp [pre])] at this
  intro d
  induction d with
  | zero =>
    intro i hi
    obtain rfl : i = t.size := by omega
    have hf : impl_ShownLine.f p t (t.size : Int) w (wrap64 m) = some (shown p t m, true) := by
      rw [w64 (by omega) (by omega)]
      unfold impl_ShownLine.f
      rw [if_pos ⟨hp, ht, rfl, by omega, by omega, ht0, hw, by omega, h0, h1⟩]
    refine Ev.step (fun k => by rw [laws_FnShownMask.l0, hf, Option.bind_some]) ?_
    exact ev_ifn (by omega) (ev_bind (ev_some rfl) (ev_ifp rfl (ev_some (by rw [show shown p t m = pre p t.size m from rfl]; simp))))
  | succ d ih =>
    intro i hi
    have h2 := ih (i + 1) (by omega)
    rw [← pre_next p i m h0 h1, show ((i + 1 : Nat) : Int) = (i : Int) + 1 by omega] at h2
    have hz : (strOfNums [m]).size = 1 := by rw [← dlen]; simp [strOfNums]
    refine Ev.step (fun k => by rw [laws_FnShownMask.l0, Option.bind_some, pre_size, hz, w64 (x := (i : Int) + 1) (by omega) (by omega)]) ?_
    exact ev_ifp (by omega) (ev_ifp (by omega) h2)
theorem FnShownMask : laws_FnShownMask.Pure := by
  intro p t w m h0 h1 h2 h3
  suffices h : Ev (fun k => laws_FnShownMask.f k p t w m) true from h.rounds
  unfold laws_FnShownMask.f
  have j1t : Ev (fun k => laws_FnShownMask.j1 k p t w m true) true := Ev.step (fun k => by rw [laws_FnShownMask.j1]) (ev_ifp rfl (Ev.now _))
  have j0t : Ev (fun k => laws_FnShownMask.j0 k p t w m true) true := Ev.step (fun k => by rw [laws_FnShownMask.j0]) (ev_ifp rfl (Ev.now _))
  by_cases a : (p.size : Int) > 2147483647
  · exact ev_ifp a j0t
  refine ev_ifn a ?_
  by_cases b : (t.size : Int) > 2147483647
  · rw [decide_eq_true b]; exact j0t
  rw [decide_eq_false b]
  obtain ⟨c, ec, tc⟩ := cols_tells p t w
  refine Ev.step (fun k => by rw [laws_FnShownMask.j0]) (ev_ifn Bool.false_ne_true (ev_bind ec ?_))
  cases c with
  | false => exact ev_ifn Bool.false_ne_true j1t
  | true =>
    obtain ⟨g0, g1, g2, g3, g4, g5, g6⟩ := tc rfl
    refine ev_ifp rfl ?_
    by_cases e0 : t.toList = ([] : List UInt8)
    · exact ev_ifp e0 j1t
    refine ev_ifn e0 ?_
    by_cases e1 : m ≤ 32
    · exact ev_ifp e1 j1t
    refine ev_ifn e1 ?_
    by_cases e2 : m > 126
    · rw [decide_eq_true e2]; exact j1t
    rw [decide_eq_false e2]
    have ht0 : 0 < t.size := by
      rcases Nat.eq_zero_or_pos t.size with h | h
      · exfalso; apply e0; rw [Lib.toList_data]; exact List.eq_nil_of_length_eq_zero (by rw [dlen]; exact h)
      · exact h
    exact Ev.step (fun k => by rw [laws_FnShownMask.j1]) (ev_ifn Bool.false_ne_true (loop_tells p t w m g0 g1 g2 g3 g4 g5 g6 (by omega) (by omega) ht0))
end Go.Proofs.YtdinikcfhpfojaaDoor.Pure
