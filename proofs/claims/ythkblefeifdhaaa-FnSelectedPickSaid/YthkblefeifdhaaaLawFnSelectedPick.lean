/- Printed by a program of this seat (xprint) out of the translation: Go functions as plain functions, and the walks that show them; no condition. -/
import Derived.Test.YthkblefeifdhaaaRows
import Derived.Test.YthkblefeifdhaaaPFnSelectedPickx3
import Derived.Test.YthkblefeifdhaaaPureFnSelectedPick
import Derived.WalkKit
import Derived.ProofKit
import Derived.OpenShut
import Derived.ShutString
import Derived.ChangeOld
import Derived.Below
import Derived.SizedLaws
import Derived.Test.YthkblefeifdhaaaXRow
namespace Go.Proofs.Ythkblefeifdhaaa.fnSelectedPick
open Go.ChangeShapes Go.WideShapes Go.ChangeAt Go.RowKit
open Go.ChangeMaps (open_string shut_string)
open Go.Proofs.Ythkblefeifdhaaa.PFnSelectedPick Go.Proofs.YthkblefeifdhaaaW.PrintWords
set_option linter.unusedVariables false
theorem own : ownKnob Try.prog.godebug = none := by kernel_rfl
theorem laidOut : laidOutB Try.prog = true := by kernel_rfl
set_option maxRecDepth 100000 in
theorem el65 {H : Type} {enc : TypeId × Value → H} {w : World} {base : Nat} {sp : Nat → Bool} {held : Bool} (cs : List Value) (y : DataW H × List MemPlace) (n : Nat) (h : DataW.trod enc Try.prog w base sp held n 65 cs = some y) : ∃ (v0 : ByteArray) (v1 : ByteArray), cs = [.string v0, .string v1] ∧ v0.size ≤ maxLen ∧ v1.size ≤ maxLen := by
  obtain ⟨ys, n', _, _, hlen, hyl, hf⟩ := DataW.trod_struct Try.underlying65 h
  rw [show Try.prog.cellsOf 65 = 2 by kernel_rfl] at hlen
  have c9_ : Try.prog.cellsOf 9 = 1 := by kernel_rfl
  have hyl2 : ys.length = 2 := hyl
  match cs, hlen, ys, hyl2 with
  | [c0, c1], _, [y0, y1], _ =>
    have e0 : DataW.trod enc Try.prog w base sp held n' 9 [c0] = some y0 := by have h_ : DataW.trod enc Try.prog w base sp held n' 9 (([c0, c1].drop 0).take (Try.prog.cellsOf 9)) = [y0, y1][0]? := hf 0 _ rfl; rw [c9_] at h_; exact h_
    have e1 : DataW.trod enc Try.prog w base sp held n' 9 [c1] = some y1 := by have h_ : DataW.trod enc Try.prog w base sp held n' 9 (([c0, c1].drop 1).take (Try.prog.cellsOf 9)) = [y0, y1][1]? := hf 1 _ rfl; rw [c9_] at h_; exact h_
    obtain ⟨v0, i0, _, g0⟩ := DataW.trod_string Try.underlying9 e0
    simp only [List.cons.injEq, and_true] at i0
    subst i0
    obtain ⟨v1, i1, _, g1⟩ := DataW.trod_string Try.underlying9 e1
    simp only [List.cons.injEq, and_true] at i1
    subst i1
    exact ⟨v0, v1, rfl, g0, g1⟩
set_option maxRecDepth 100000 in
theorem lifted (os : Os) (started : os.Started) (H : Type) (enc : TypeId × Value → H) :
    ReturnsInHanded {} Try.checked os 12 .any (Rows.fnSelectedPickSpec.pre6 enc Try.prog Try.f12 Rows.fnSelectedPickRow.domain false) (Rows.fnSelectedPickSpec.post enc Try.prog Try.f12 false true false false) := by
  refine returnsInHanded_of_change_sized (C := Try.checked) own started (by kernel_rfl) Try.func12
    (ChangeSpec.witness6 (enc := enc) (C := Try.checked) false ⟨#[], #[.slice none 0 0, .int .i64 0, .slice none 0 0], []⟩ 8 (by kernel_rfl) (by kernel_rfl) (by kernel_rfl) (by kernel_rfl)) ?_
  intro W base args ds gs before hval0 hW hcnd hsz0 _
  have hsz : (DataW.weightsEach Try.prog (Try.f12.params.toList ++ Rows.fnSelectedPickSpec.plain.varTypes Try.prog) (ds ++ gs)).all (· ≤ reachBytes) = true := hsz0
  have hval : ∀ (j : Nat) t v, Try.f12.params[j]? = some t → args[j]? = some v → Value.okWide Try.prog W .any base t v := hval0
  have hW' := hW
  obtain ⟨p, q, hA0, hV, rfl, hfz, hnd⟩ := hW
  have hA : DataW.TrodAll enc Try.prog W 0 (fun _ => true) true Try.f12.params.toList args.toList ds p := hA0
  rw [Try.params12] at hA hval hsz
  obtain ⟨v0, vs0, d0, ds0, p0, q0, hargs, rfl, rfl, h0, r0⟩ := trodAll_cons hA
  obtain ⟨v1, vs1, d1, ds1, p1, q1, rfl, rfl, rfl, h1, r1⟩ := trodAll_cons r0
  obtain ⟨v2, vs2, d2, ds2, p2, q2, rfl, rfl, rfl, h2, r2⟩ := trodAll_cons r1
  obtain ⟨rfl, rfl, rfl⟩ := trodAll_nil r2
  obtain rfl : args = #[v0, v1, v2] := by cases args; simp_all
  obtain ⟨rfl, rfl⟩ := trodVars_none hV
  obtain ⟨a0, len0, cap0, rfl⟩ := okWide_slice Try.underlying62 (hval 0 62 v0 rfl rfl)
  have k0 := h0
  have lt0 : ∀ x ∈ p0, x.block < W.heap.size := by obtain ⟨m, hm⟩ := k0; exact DataW.trod_lt m _ _ _ hm
  obtain ⟨l0, rfl, hr0, hc0, hm0, hg0⟩ := X.open_krow k65 (fun x : S65 => x.f0.size ≤ maxLen ∧ x.f1.size ≤ maxLen) Try.underlying62 (by kernel_rfl) (fun cs y n h => by obtain ⟨v0, v1, rfl, g⟩ := el65 cs y n h; exact ⟨⟨v0, v1⟩, g, k65_mk W _⟩) h0
  obtain ⟨a1, rfl, rfl, rfl, w1⟩ := open_int Try.underlying3 (hval 1 3 v1 rfl rfl) h1
  obtain ⟨a2, len2, cap2, rfl⟩ := okWide_slice Try.underlying26 (hval 2 26 v2 rfl rfl)
  have k2 := h2
  have lt2 : ∀ x ∈ p2, x.block < W.heap.size := by obtain ⟨m, hm⟩ := k2; exact DataW.trod_lt m _ _ _ hm
  obtain ⟨l2, rfl, hr2, hc2, hm2, hg2⟩ := X.open_krow (Kd.int .u8) (fun x : Int => (Lit.int .u8 x).wf = true) Try.underlying26 (by kernel_rfl) (X.el_int Try.underlying5) h2
  clear hA0 hval0 hsz0 hsz
  refine (PFnSelectedPick.laws_FnSelectedPick.walk Pure.FnSelectedPick _ _ l0 a1 _ _ l2 W hr0 hc0 hm0 hg0 w1 hr2 hc2 hm2 hg2).mono fun e W' ⟨he, bel⟩ => ?_
  subst he
  exact ⟨_, rfl, _, _, _, [], _, [], hW', trodAll_mk1 (shut_bool Try.underlying4 _), (trodAll_cons_mk (Below.trod laidOut (by kernel_rfl) (of_decide_eq_true (by kernel_rfl)) k0 bel lt0) (trodAll_cons_mk (shut_int Try.underlying3 w1) (trodAll_cons_mk (Below.trod laidOut (by kernel_rfl) (of_decide_eq_true (by kernel_rfl)) k2 bel lt2) trodAll_mk0))), rfl, bel.frame _, fun h => by cases h⟩
theorem over : Rows.fnSelectedPickRow.holds Try.pinned (OpenSpec.ofChange Rows.fnSelectedPickSpec) :=
  OpenClaim.holds_of_wide 12 Try.f12 rfl rfl rfl rfl rfl rfl rfl ⟨rfl, rfl, rfl, rfl, rfl⟩ rfl rfl rfl rfl rfl (by kernel_rfl) Try.func12 (by kernel_rfl)
    (of_decide_eq_true (by kernel_rfl)) (by unfold Func.isWrapper; first | (rw [if_pos (by decide +kernel)]; kernel_rfl) | (rw [if_neg (by decide +kernel)]; exact ⟨rfl, rfl⟩))
    (fun os started H enc _ => lifted os started H enc)
theorem proved : Rows.FnSelectedPickSaid := over
#print axioms proved
end Go.Proofs.Ythkblefeifdhaaa.fnSelectedPick
namespace Go.Proofs.Ythkblefeifdhaaa
/-- The row, under a short name, for the claim. -/
theorem fnSelectedPick_holds : Rows.FnSelectedPickSaid := fnSelectedPick.proved
end Go.Proofs.Ythkblefeifdhaaa
