/- The sequences of colours and attributes: the pure statement behind the law FnColoured; no condition. -/
import Derived.Test.YthbdaoapjnofkaaQPFnColouredx1
namespace Go.Proofs.Ythbdaoapjnofkaa.Pure
open Go.RowKit Go.Proofs.Ythbdaoapjnofkaa.R Go.Proofs.Ythbdaoapjnofkaa.X Go.Proofs.Ythbdaoapjnofkaa.PFnColoured Go.Proofs.Ythbdaoapjnofkaa.H Go.Proofs.YthbdaoapjnofkaaW.PrintWords Go.Proofs.YthbdaoapjnofkaaW.PrintLast
set_option linter.unusedVariables false
set_option maxRecDepth 100000
theorem nums_app (a b : List Int) : strOfNums (a ++ b) = strOfNums a ++ strOfNums b := str_ext (by
  rw [strOfNums_data, List.map_append, ByteArray.data_append, Array.toList_append, strOfNums_data, strOfNums_data])
theorem fg_all : ∀ i : Fin 256, spec_shade.f 8 ((i.val : Int) - 128) 30 90 39 = some (strOfNums (fgB ((i.val : Int) - 128))) := by decide +kernel
theorem bg_all : ∀ i : Fin 256, spec_shade.f 8 ((i.val : Int) - 128) 40 100 49 = some (strOfNums (bgB ((i.val : Int) - 128))) := by decide +kernel
theorem att_all : ∀ i : Fin 11, ∃ r, spec_Number.f 8 (i.val : Int) = some r ∧ r ++ ⟨#[59]⟩ = strOfNums (attB (i.val : Int)) := by
  intro i
  have h : ∀ i : Fin 11, spec_Number.f 8 (i.val : Int) = some (strOfNums (attB (i.val : Int)).dropLast) ∧ (attB (i.val : Int)) = (attB (i.val : Int)).dropLast ++ [59] := by decide +kernel
  refine ⟨_, (h i).1, ?_⟩
  have e : (⟨#[59]⟩ : ByteArray) = strOfNums [59] := rfl
  rw [e, ← nums_app, ← (h i).2]
theorem fg_tells (x : Int) (h0 : -128 ≤ x) (h1 : x ≤ 127) : Ev (fun k => spec_shade.f k x 30 90 39) (strOfNums (fgB x)) := by
  have h := fg_all ⟨(x + 128).toNat, by omega⟩
  rw [show (((x + 128).toNat : Nat) : Int) - 128 = x by omega] at h
  exact Ev.of (fun k => spec_shade.mono _ _ _ _ _) h
theorem bg_tells (x : Int) (h0 : -128 ≤ x) (h1 : x ≤ 127) : Ev (fun k => spec_shade.f k x 40 100 49) (strOfNums (bgB x)) := by
  have h := bg_all ⟨(x + 128).toNat, by omega⟩
  rw [show (((x + 128).toNat : Nat) : Int) - 128 = x by omega] at h
  exact Ev.of (fun k => spec_shade.mono _ _ _ _ _) h
theorem num_tells (x : Int) (h0 : 0 ≤ x) (h1 : x ≤ 10) : ∃ r, Ev (fun k => spec_Number.f k x) r ∧ r ++ ⟨#[59]⟩ = strOfNums (attB x) := by
  obtain ⟨r, h, e⟩ := att_all ⟨x.toNat, by omega⟩
  rw [show ((x.toNat : Nat) : Int) = x by omega] at h e
  exact ⟨r, Ev.of (fun k => spec_Number.mono _ _) h, e⟩
theorem fg_len (x : Int) : (fgB x).length ≤ 3 := by
  obtain ⟨r, b, h, h3⟩ := fg_ok x
  unfold fgB
  rw [h]
  cases b with
  | false => show ([51, 57] : List Int).length ≤ 3; decide
  | true => exact (h3 rfl).2
theorem bg_len (x : Int) : (bgB x).length ≤ 3 := by
  obtain ⟨r, b, h, h3⟩ := bg_ok x
  unfold bgB
  rw [h]
  cases b with
  | false => show ([52, 57] : List Int).length ≤ 3; decide
  | true => exact (h3 rfl).2
theorem colour_tells (x y : Int) (hx : -128 ≤ x ∧ x ≤ 127) (hy : -128 ≤ y ∧ y ≤ 127) : Ev (fun k => spec_Colour.f k x y) (strOfNums (tailB x y ++ [109])) := by
  have l1 := fg_len x
  have l2 := bg_len y
  unfold spec_Colour.f
  refine ev_bind (fg_tells x hx.1 hx.2) ?_
  refine ev_ifp (by rw [strOfNums_size]; omega) ?_
  refine ev_bind (bg_tells y hy.1 hy.2) ?_
  have e1 : (⟨#[59]⟩ : ByteArray) = strOfNums [59] := rfl
  have e2 : (⟨#[109]⟩ : ByteArray) = strOfNums [109] := rfl
  rw [e1, e2, ← nums_app, ← nums_app, ← nums_app]
  refine ev_ifp (by rw [strOfNums_size, strOfNums_size, List.length_append]; simp; omega) ?_
  exact ev_ifp (by rw [strOfNums_size, List.length_append, List.length_append]; simp; omega) (Ev.now _)
theorem col_loop (fg bg : Int) (bold : Bool) (l : List Int) (x9 : ByteArray) (hf : -128 ≤ fg ∧ fg ≤ 127) (hb : -128 ≤ bg ∧ bg ≤ 127) (hl : l.length ≤ 2147483647) (hw : ∀ x ∈ l, 0 ≤ x ∧ x ≤ 255) (h9 : x9 = strOfNums (attB (if bold then 1 else 0))) (d : Nat) : ∀ i : Nat, i + d = l.length → i ≤ 10 → (∀ x ∈ l.take i, x ≤ 10) → Ev (fun k => laws_FnColoured.l0 k fg bg bold l x9 (strOfNums ((l.take i).flatMap attB)) (l.take i) (i : Int)) true := by
  have hend : ∀ i : Nat, i ≤ 10 → Ev (fun k => laws_FnColoured.j2 k fg bg bold l x9 (strOfNums ((l.take i).flatMap attB)) (l.take i) (i : Int) false) true := by
    intro i hi
    have hT : impl_Attributed.f fg bg (l.take i) = some (strOfNums ([27, 91] ++ (l.take i).flatMap attB ++ tailB fg bg ++ [109])) := if_pos (by rw [List.length_take]; omega)
    have al := att_len (l.take i)
    have hti : (l.take i).length ≤ 10 := by rw [List.length_take]; omega
    have l1 := fg_len fg
    have l2 := bg_len bg
    have l3 : (tailB fg bg ++ [109]).length ≤ 8 := by unfold tailB; simp only [List.length_append, List.length_cons, List.length_nil]; omega
    have l4 : (attB (if bold then 1 else 0)).length ≤ 4 := by have := att_len [if bold then 1 else 0]; simpa using this
    have e0 : (⟨#[27, 91]⟩ : ByteArray) = strOfNums [27, 91] := rfl
    refine Ev.step (fun k => by rw [laws_FnColoured.j2, w64 (x := fg) (by omega) (by omega), w64 (x := bg) (by omega) (by omega)]) ?_
    refine ev_ifn Bool.false_ne_true ?_
    refine ev_bind (colour_tells fg bg hf hb) ?_
    refine ev_bind (ev_const (show impl_Coloured.f fg bg bold = some _ from rfl)) ?_
    rw [h9, e0, ← nums_app, ← nums_app]
    refine ev_ifp (by rw [strOfNums_size]; omega) ?_
    refine ev_ifp (by rw [strOfNums_size, strOfNums_size, List.length_append]; simp only [List.length_cons, List.length_nil]; omega) ?_
    refine ev_ifp (by rw [List.append_assoc]) ?_
    refine ev_bind (ev_const hT) ?_
    rw [← nums_app, ← nums_app]
    refine ev_ifp (by rw [strOfNums_size]; omega) ?_
    refine ev_ifp (by rw [strOfNums_size, strOfNums_size, List.length_append]; simp only [List.length_cons, List.length_nil]; omega) ?_
    refine ev_some ?_
    rw [List.append_assoc]
    exact beq_self_eq_true _
  induction d with
  | zero =>
    intro i hi h10 hx
    exact Ev.step (fun k => by rw [laws_FnColoured.l0]) (ev_ifn (by omega) (hend i h10))
  | succ d ih =>
    intro i hi h10 hx
    have hlt : i < l.length := by omega
    refine Ev.step (fun k => by rw [laws_FnColoured.l0]) (ev_ifp (by omega) ?_)
    by_cases hi10 : (i : Int) < 10
    · rw [decide_eq_true hi10]
      have hr : rd l (i : Int) = l[i] := rd_nat l i hlt
      have hwi := hw _ (List.getElem_mem hlt)
      refine Ev.step (fun k => by rw [laws_FnColoured.j2, hr, w64 (x := l[i]) (by omega) (by omega), w64 (x := (i : Int) + 1) (by omega) (by omega)]) (ev_ifp rfl (ev_ifp (by omega) (ev_ifp (by omega) ?_)))
      by_cases hbig : l[i] > 10
      · exact ev_ifp hbig (Ev.now _)
      · obtain ⟨r, hN, hR⟩ := num_tells l[i] hwi.1 (by omega)
        have hnx : l.take (i + 1) = l.take i ++ [l[i]] := List.take_succ_eq_append_getElem hlt
        have h := ih (i + 1) (by omega) (by omega) (fun x hx' => by
          rw [hnx] at hx'
          rcases List.mem_append.1 hx' with h1 | h1
          · exact hx x h1
          · rw [List.mem_singleton] at h1; omega)
        rw [hnx, List.flatMap_append, List.flatMap_singleton, nums_app, show ((i + 1 : Nat) : Int) = (i : Int) + 1 from by omega] at h
        have hs : r.size + 1 ≤ 5 := by
          have h1 := congrArg ByteArray.size hR
          rw [ByteArray.size_append, strOfNums_size] at h1
          have h2 := att_len [l[i]]
          simp only [List.flatMap_singleton, List.length_cons, List.length_nil] at h2
          have h3 : (⟨#[59]⟩ : ByteArray).size = 1 := rfl
          omega
        have al := att_len (l.take i)
        have hti : (l.take i).length ≤ 10 := by rw [List.length_take]; omega
        refine ev_ifn hbig (ev_ifp (by omega) (ev_bind hN (ev_ifp (by omega) ?_)))
        refine ev_ifp (by rw [strOfNums_size, ByteArray.size_append, show (⟨#[59]⟩ : ByteArray).size = 1 from rfl]; omega) ?_
        rw [hR]
        exact h
    · rw [decide_eq_false hi10]
      exact hend i h10
theorem FnColoured : laws_FnColoured.Pure := by
  intro fg bg bold l hf hb hl hl2 hw
  refine Ev.rounds (r := true) ?_
  have m1 : IntKind.i8.min = -128 := by decide
  have m2 : IntKind.i8.max = 127 := by decide
  have m3 : IntKind.u8.min = 0 := by decide
  have m4 : IntKind.u8.max = 255 := by decide
  simp only [Lit.wf, Bool.and_eq_true, decide_eq_true_eq, m1, m2] at hf hb
  have hw' : ∀ x ∈ l, 0 ≤ x ∧ x ≤ 255 := fun x hx => by
    have := hw x hx
    simp only [Lit.wf, Bool.and_eq_true, decide_eq_true_eq, m3, m4] at this
    exact this
  unfold laws_FnColoured.f
  by_cases h : (l.length : Int) > 2147483647
  · exact ev_ifp h (Ev.now _)
  · refine ev_ifn h ?_
    cases bold with
    | true =>
      refine ev_ifp rfl ?_
      refine Ev.step (fun k => by rw [laws_FnColoured.j0]) ?_
      exact col_loop fg bg true l _ hf hb (by omega) hw' rfl l.length 0 (by omega) (by omega) (fun x hx => by simp at hx)
    | false =>
      refine ev_ifn Bool.false_ne_true ?_
      refine Ev.step (fun k => by rw [laws_FnColoured.j0]) ?_
      exact col_loop fg bg false l _ hf hb (by omega) hw' rfl l.length 0 (by omega) (by omega) (fun x hx => by simp at hx)
end Go.Proofs.Ythbdaoapjnofkaa.Pure
