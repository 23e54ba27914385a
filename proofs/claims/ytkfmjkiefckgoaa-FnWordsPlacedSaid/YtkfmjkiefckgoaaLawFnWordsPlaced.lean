/- Printed by a program of this seat (xprint) out of the translation: Go functions as plain functions, and the walks that show them; no condition. -/
import Derived.Test.YtkfmjkiefckgoaaRows
import Derived.Test.YtkfmjkiefckgoaaPFnWordsPlacedx1
import Derived.Test.YtkfmjkiefckgoaaPureFnWordsPlaced
import Derived.WalkKit
import Derived.ProofKit
import Derived.OpenShut
import Derived.ShutString
import Derived.ChangeOld
import Derived.Below
import Derived.SizedLaws
import Derived.Test.YtkfmjkiefckgoaaXRow
namespace Go.Proofs.Ytkfmjkiefckgoaa.fnWordsPlaced
open Go.ChangeShapes Go.WideShapes Go.ChangeAt Go.RowKit
open Go.ChangeMaps (open_string shut_string)
open Go.Proofs.Ytkfmjkiefckgoaa.PFnWordsPlaced Go.Proofs.YtkfmjkiefckgoaaW.PrintWords
set_option linter.unusedVariables false
theorem own : ownKnob Try.prog.godebug = none := by kernel_rfl
theorem laidOut : laidOutB Try.prog = true := by kernel_rfl
set_option maxRecDepth 100000 in
theorem el23 {H : Type} {enc : TypeId × Value → H} {w : World} {base : Nat} {sp : Nat → Bool} {held : Bool} (cs : List Value) (y : DataW H × List MemPlace) (n : Nat) (h : DataW.trod enc Try.prog w base sp held n 23 cs = some y) : ∃ (v0 : ByteArray) (v1 : Int), cs = [.string v0, .int .i64 v1] ∧ v0.size ≤ maxLen ∧ (Lit.int .i64 v1).wf = true := by
  obtain ⟨ys, n', _, _, hlen, hyl, hf⟩ := DataW.trod_struct Try.underlying23 h
  rw [show Try.prog.cellsOf 23 = 2 by kernel_rfl] at hlen
  have c3_ : Try.prog.cellsOf 3 = 1 := by kernel_rfl
  have c9_ : Try.prog.cellsOf 9 = 1 := by kernel_rfl
  have hyl2 : ys.length = 2 := hyl
  match cs, hlen, ys, hyl2 with
  | [c0, c1], _, [y0, y1], _ =>
    have e0 : DataW.trod enc Try.prog w base sp held n' 9 [c0] = some y0 := by have h_ : DataW.trod enc Try.prog w base sp held n' 9 (([c0, c1].drop 0).take (Try.prog.cellsOf 9)) = [y0, y1][0]? := hf 0 _ rfl; rw [c9_] at h_; exact h_
    have e1 : DataW.trod enc Try.prog w base sp held n' 3 [c1] = some y1 := by have h_ : DataW.trod enc Try.prog w base sp held n' 3 (([c0, c1].drop 1).take (Try.prog.cellsOf 3)) = [y0, y1][1]? := hf 1 _ rfl; rw [c3_] at h_; exact h_
    obtain ⟨v0, i0, _, g0⟩ := DataW.trod_string Try.underlying9 e0
    simp only [List.cons.injEq, and_true] at i0
    subst i0
    obtain ⟨v1, i1, _, g1⟩ := DataW.trod_int Try.underlying3 e1
    simp only [List.cons.injEq, and_true] at i1
    subst i1
    exact ⟨v0, v1, rfl, g0, g1⟩
set_option maxRecDepth 100000 in
theorem lifted (os : Os) (started : os.Started) (H : Type) (enc : TypeId × Value → H) :
    ReturnsInHanded {} Try.checked os 4 .any (Rows.fnWordsPlacedSpec.pre6 enc Try.prog Try.f4 Rows.fnWordsPlacedRow.domain false) (Rows.fnWordsPlacedSpec.post enc Try.prog Try.f4 false true false false) := by
  refine returnsInHanded_of_change_sized (C := Try.checked) own started (by kernel_rfl) Try.func4
    (ChangeSpec.witness6 (enc := enc) (C := Try.checked) false ⟨#[], #[.agg #[.string ByteArray.empty, .int .i64 0]], []⟩ 8 (by kernel_rfl) (by kernel_rfl) (by kernel_rfl) (by kernel_rfl)) ?_
  intro W base args ds gs before hval0 hW hcnd hsz0 _
  have hsz : (DataW.weightsEach Try.prog (Try.f4.params.toList ++ Rows.fnWordsPlacedSpec.plain.varTypes Try.prog) (ds ++ gs)).all (· ≤ reachBytes) = true := hsz0
  have hval : ∀ (j : Nat) t v, Try.f4.params[j]? = some t → args[j]? = some v → Value.okWide Try.prog W .any base t v := hval0
  have hW' := hW
  obtain ⟨p, q, hA0, hV, rfl, hfz, hnd⟩ := hW
  have hA : DataW.TrodAll enc Try.prog W 0 (fun _ => true) true Try.f4.params.toList args.toList ds p := hA0
  rw [Try.params4] at hA hval hsz
  obtain ⟨v0, vs0, d0, ds0, p0, q0, hargs, rfl, rfl, h0, r0⟩ := trodAll_cons hA
  obtain ⟨rfl, rfl, rfl⟩ := trodAll_nil r0
  obtain rfl : args = #[v0] := by cases args; simp_all
  obtain ⟨rfl, rfl⟩ := trodVars_none hV
  obtain ⟨⟨cs0⟩, rfl, _⟩ := okWide_struct Try.underlying23 (hval 0 23 v0 rfl rfl)
  have k0 := h0
  have lt0 : ∀ x ∈ p0, x.block < W.heap.size := by obtain ⟨m, hm⟩ := k0; exact DataW.trod_lt m _ _ _ hm
  obtain ⟨a0_0, a0_1, hcs0, hg0_0, hg0_1⟩ := (by obtain ⟨n_, hn_⟩ := h0; exact el23 cs0 _ n_ hn_ : ∃ (a0_0 : ByteArray) (a0_1 : Int), cs0 = [.string a0_0, .int .i64 a0_1] ∧ a0_0.size ≤ maxLen ∧ (Lit.int .i64 a0_1).wf = true)
  subst hcs0
  clear hA0 hval0 hsz0 hsz
  refine (PFnWordsPlaced.laws_FnWordsPlaced.walk Pure.FnWordsPlaced a0_0 a0_1 W hg0_0 hg0_1).mono fun e W' ⟨he, bel⟩ => ?_
  subst he
  exact ⟨_, rfl, _, _, _, [], _, [], hW', trodAll_mk1 (shut_bool Try.underlying4 _), (trodAll_cons_mk (Below.trod laidOut (by kernel_rfl) (of_decide_eq_true (by kernel_rfl)) k0 bel lt0) trodAll_mk0), rfl, bel.frame _, fun h => by cases h⟩
theorem over : Rows.fnWordsPlacedRow.holds Try.pinned (OpenSpec.ofChange Rows.fnWordsPlacedSpec) :=
  OpenClaim.holds_of_wide 4 Try.f4 rfl rfl rfl rfl rfl rfl rfl ⟨rfl, rfl, rfl, rfl, rfl⟩ rfl rfl rfl rfl rfl (by kernel_rfl) Try.func4 (by kernel_rfl)
    (of_decide_eq_true (by kernel_rfl)) (by unfold Func.isWrapper; first | (rw [if_pos (by decide +kernel)]; kernel_rfl) | (rw [if_neg (by decide +kernel)]; exact ⟨rfl, rfl⟩))
    (fun os started H enc _ => lifted os started H enc)
theorem proved : Rows.FnWordsPlacedSaid := over
#print axioms proved
end Go.Proofs.Ytkfmjkiefckgoaa.fnWordsPlaced
namespace Go.Proofs.Ytkfmjkiefckgoaa
/-- The row, under a short name, for the claim. -/
theorem fnWordsPlaced_holds : Rows.FnWordsPlacedSaid := fnWordsPlaced.proved
end Go.Proofs.Ytkfmjkiefckgoaa
