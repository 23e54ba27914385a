/- Printed by a program of this seat (xprint) out of the translation: Go functions as plain functions, and the walks that show them; no condition. -/
import Derived.Test.YtanadaamipfmkaaDoorRows
import Derived.Test.YtanadaamipfmkaaDoorQPFnWrotePartsx2
import Derived.Test.YtanadaamipfmkaaDoorQPureFnWroteParts
import Derived.WalkKit
import Derived.ProofKit
import Derived.OpenShut
import Derived.ShutString
import Derived.ChangeOld
import Derived.Below
import Derived.SizedLaws
import Derived.Test.YtanadaamipfmkaaDoorQHTab
import Derived.LaidMore
import Derived.Stop.Joined
import Derived.ChangeVars
import Derived.OpenVars
import Derived.SevenTiedAt
import Derived.Test.YtanadaamipfmkaaDoorTie
import Derived.Test.YtanadaamipfmkaaDoorCards
import Derived.Test.YtanadaamipfmkaaDoorQXRow
namespace Go.Proofs.YtanadaamipfmkaaDoor.fnWroteParts
open Go.ChangeShapes Go.WideShapes Go.ChangeAt Go.RowKit
open Go.ChangeMaps (open_string shut_string)
open Go.Proofs.YtanadaamipfmkaaDoor.PFnWroteParts Go.Proofs.YtanadaamipfmkaaDoorW.PrintWords
set_option linter.unusedVariables false
theorem own : ownKnob Tryd.prog.godebug = none := by kernel_rfl
theorem laidOut : laidOutB Tryd.prog = true := by kernel_rfl
set_option maxRecDepth 100000 in
theorem el38 {H : Type} {enc : TypeId × Value → H} {w : World} {base : Nat} {sp : Nat → Bool} {held : Bool} (cs : List Value) (y : DataW H × List MemPlace) (n : Nat) (h : DataW.trod enc Tryd.prog w base sp held n 38 cs = some y) : ∃ (v0 : Int) (v1 : Int) (v2 : Int) (v3 : ByteArray), cs = [.int .i64 v0, .int .i64 v1, .int .i64 v2, .string v3] ∧ (Lit.int .i64 v0).wf = true ∧ (Lit.int .i64 v1).wf = true ∧ (Lit.int .i64 v2).wf = true ∧ v3.size ≤ maxLen := by
  obtain ⟨ys, n', _, _, hlen, hyl, hf⟩ := DataW.trod_struct Tryd.underlying38 h
  rw [show Tryd.prog.cellsOf 38 = 4 by kernel_rfl] at hlen
  have c3_ : Tryd.prog.cellsOf 3 = 1 := by kernel_rfl
  have c9_ : Tryd.prog.cellsOf 9 = 1 := by kernel_rfl
  have hyl2 : ys.length = 4 := hyl
  match cs, hlen, ys, hyl2 with
  | [c0, c1, c2, c3], _, [y0, y1, y2, y3], _ =>
    have e0 : DataW.trod enc Tryd.prog w base sp held n' 3 [c0] = some y0 := by have h_ : DataW.trod enc Tryd.prog w base sp held n' 3 (([c0, c1, c2, c3].drop 0).take (Tryd.prog.cellsOf 3)) = [y0, y1, y2, y3][0]? := hf 0 _ rfl; rw [c3_] at h_; exact h_
    have e1 : DataW.trod enc Tryd.prog w base sp held n' 3 [c1] = some y1 := by have h_ : DataW.trod enc Tryd.prog w base sp held n' 3 (([c0, c1, c2, c3].drop 1).take (Tryd.prog.cellsOf 3)) = [y0, y1, y2, y3][1]? := hf 1 _ rfl; rw [c3_] at h_; exact h_
    have e2 : DataW.trod enc Tryd.prog w base sp held n' 3 [c2] = some y2 := by have h_ : DataW.trod enc Tryd.prog w base sp held n' 3 (([c0, c1, c2, c3].drop 2).take (Tryd.prog.cellsOf 3)) = [y0, y1, y2, y3][2]? := hf 2 _ rfl; rw [c3_] at h_; exact h_
    have e3 : DataW.trod enc Tryd.prog w base sp held n' 9 [c3] = some y3 := by have h_ : DataW.trod enc Tryd.prog w base sp held n' 9 (([c0, c1, c2, c3].drop 3).take (Tryd.prog.cellsOf 9)) = [y0, y1, y2, y3][3]? := hf 3 _ rfl; rw [c9_] at h_; exact h_
    obtain ⟨v0, i0, _, g0⟩ := DataW.trod_int Tryd.underlying3 e0
    simp only [List.cons.injEq, and_true] at i0
    subst i0
    obtain ⟨v1, i1, _, g1⟩ := DataW.trod_int Tryd.underlying3 e1
    simp only [List.cons.injEq, and_true] at i1
    subst i1
    obtain ⟨v2, i2, _, g2⟩ := DataW.trod_int Tryd.underlying3 e2
    simp only [List.cons.injEq, and_true] at i2
    subst i2
    obtain ⟨v3, i3, _, g3⟩ := DataW.trod_string Tryd.underlying9 e3
    simp only [List.cons.injEq, and_true] at i3
    subst i3
    exact ⟨v0, v1, v2, v3, rfl, g0, g1, g2, g3⟩
abbrev laid : List (String × DataW Unit) := [("math/bits.deBruijn32tab", Rows.laid_math_bits_deBruijn32tab), ("math/bits.deBruijn64tab", Rows.laid_math_bits_deBruijn64tab), ("internal/strconv.uint64pow10", Rows.laid_internal_strconv_uint64pow10)]
theorem door_met (os : Os) (args : Array Value) : laidMetH Tryd.prog laid ((World.doorLaid Tryd.prog 400 os).forCall (fun _ _ => 0) ⟨#[], args, []⟩).memory :=
  laidMetH_of_parts3 (fuel := 8) (laidMet_of_run' 8 (by kernel_rfl) (by kernel_rfl)) (by kernel_rfl) (by kernel_rfl)
set_option maxRecDepth 100000 in
theorem lifted (os : Os) (started : os.Started) (H : Type) (enc : TypeId × Value → H) :
    ReturnsInHanded {} Tryd.checked os 4 .any (fun w args => (Rows.fnWrotePartsSpec.pre enc Tryd.prog Tryd.f4 [] false w args ∧ laidMetH Tryd.prog laid w) ∧ sizedMet enc Tryd.prog Tryd.f4 (OpenSpec.ofChange Rows.fnWrotePartsSpec) false w args) (Rows.fnWrotePartsSpec.post enc Tryd.prog Tryd.f4 false true false false) := by
  refine returnsInHanded_of_change_and (C := Tryd.checked) (X := fun w _ => laidMetH Tryd.prog laid w) (fun _ _ _ hh h => h.of_heap hh) own started (by kernel_rfl) Tryd.func4
    (ChangeSpec.witness_shaped (enc := enc) (C := Tryd.checked) (os := os) (X := fun w _ => laidMetH Tryd.prog laid w) false (World.doorLaid Tryd.prog 400 os) #[.slice none 0 0, .slice none 0 0] 8 rfl (World.shaped_of_RefB (by kernel_rfl) (by kernel_rfl)) (by kernel_rfl) (by kernel_rfl) (by kernel_rfl) (door_met os _)) ?_
  intro W base args ds gs before hval0 hW hcnd hsz0 hL _
  have hsz : (DataW.weightsEach Tryd.prog (Tryd.f4.params.toList ++ Rows.fnWrotePartsSpec.plain.varTypes Tryd.prog) (ds ++ gs)).all (· ≤ reachBytes) = true := hsz0
  have hval : ∀ (j : Nat) t v, Tryd.f4.params[j]? = some t → args[j]? = some v → Value.okWide Tryd.prog W .any base t v := hval0
  have hW' := hW
  obtain ⟨p, q, hA0, hV0, rfl, hfz, hnd⟩ := hW
  have hV : DataW.TrodVars enc Tryd.prog W (fun _ => true) [] gs q := hV0
  have hA : DataW.TrodAll enc Tryd.prog W 0 (fun _ => true) true Tryd.f4.params.toList args.toList ds p := hA0
  rw [Tryd.params4] at hA hval hsz
  obtain ⟨v0, vs0, d0, ds0, p0, q0, hargs, rfl, rfl, h0, r0⟩ := trodAll_cons hA
  obtain ⟨v1, vs1, d1, ds1, p1, q1, rfl, rfl, rfl, h1, r1⟩ := trodAll_cons r0
  obtain ⟨rfl, rfl, rfl⟩ := trodAll_nil r1
  obtain rfl : args = #[v0, v1] := by cases args; simp_all
  obtain ⟨rfl, rfl⟩ := trodVars_none hV
  obtain ⟨a0, len0, cap0, rfl⟩ := okWide_slice Tryd.underlying34 (hval 0 34 v0 rfl rfl)
  have k0 := h0
  have lt0 : ∀ x ∈ p0, x.block < W.heap.size := by obtain ⟨m, hm⟩ := k0; exact DataW.trod_lt m _ _ _ hm
  obtain ⟨l0, rfl, hr0, hc0, hm0, hg0⟩ := X.open_krow k38 (fun x : S38 => (Lit.int .i64 x.f0).wf = true ∧ (Lit.int .i64 x.f1).wf = true ∧ (Lit.int .i64 x.f2).wf = true ∧ x.f3.size ≤ maxLen) Tryd.underlying34 (by kernel_rfl) (fun cs y n h => by obtain ⟨v0, v1, v2, v3, rfl, g⟩ := el38 cs y n h; exact ⟨⟨v0, v1, v2, v3⟩, g, k38_mk W _⟩) h0
  obtain ⟨a1, len1, cap1, rfl⟩ := okWide_slice Tryd.underlying34 (hval 1 34 v1 rfl rfl)
  have k1 := h1
  have lt1 : ∀ x ∈ p1, x.block < W.heap.size := by obtain ⟨m, hm⟩ := k1; exact DataW.trod_lt m _ _ _ hm
  obtain ⟨l1, rfl, hr1, hc1, hm1, hg1⟩ := X.open_krow k38 (fun x : S38 => (Lit.int .i64 x.f0).wf = true ∧ (Lit.int .i64 x.f1).wf = true ∧ (Lit.int .i64 x.f2).wf = true ∧ x.f3.size ≤ maxLen) Tryd.underlying34 (by kernel_rfl) (fun cs y n h => by obtain ⟨v0, v1, v2, v3, rfl, g⟩ := el38 cs y n h; exact ⟨⟨v0, v1, v2, v3⟩, g, k38_mk W _⟩) h1
  clear hA0 hval0 hsz0 hsz
  refine (PFnWroteParts.laws_FnWroteParts.walk Pure.FnWroteParts _ _ l0 _ _ l1 W hr0 hc0 hm0 hg0 hr1 hc1 hm1 hg1 (Go.Proofs.YtanadaamipfmkaaDoor.H.tab_of (by kernel_rfl) hL)).mono fun e W' ⟨he, bel⟩ => ?_
  subst he
  exact ⟨_, rfl, _, _, _, [], _, [], hW', trodAll_mk1 (shut_bool Tryd.underlying4 _), (trodAll_cons_mk (Below.trod laidOut (by kernel_rfl) (of_decide_eq_true (by kernel_rfl)) k0 bel lt0) (trodAll_cons_mk (Below.trod laidOut (by kernel_rfl) (of_decide_eq_true (by kernel_rfl)) k1 bel lt1) trodAll_mk0)), rfl, bel.frame _, fun h => by cases h⟩
theorem over : Rows.fnWrotePartsRow.holds Tryd.pinned (OpenSpec.ofChange Rows.fnWrotePartsSpec) :=
  OpenClaim.holds_of_wide 4 Tryd.f4 rfl rfl rfl rfl rfl rfl rfl ⟨rfl, rfl, rfl, rfl, rfl⟩ rfl rfl rfl rfl rfl (by kernel_rfl) Tryd.func4 (by kernel_rfl)
    (of_decide_eq_true (by kernel_rfl)) (by unfold Func.isWrapper; first | (rw [if_pos (by decide +kernel)]; kernel_rfl) | (rw [if_neg (by decide +kernel)]; exact ⟨rfl, rfl⟩))
    (fun os started H enc _ => lifted os started H enc)
theorem card : Rows.FnWrotePartsCardSaid :=
  Claim7.holds_tied_plain_at .later [] [.data, .data, .data] true (true, "b58faa7c56dbd5cda1c29cd6fda7027b52f71d0bfe95eb5fdf6a0e75e41560a5") false
    over (fun _ h => by cases h) (by kernel_rfl) (fun _ h => by cases h) fnWroteParts_row_tie rfl ⟨rfl, rfl⟩ (by kernel_rfl) rfl
    (fun f fn hf hfn => by
      obtain rfl : f = 4 := Option.some.inj ((show Tryd.prog.funcNamed "given.example/pub-typebar/laws.FnWroteParts" = some 4 by kernel_rfl).symm.trans hf) |>.symm
      obtain rfl : fn = Tryd.f4 := (Option.some.inj (Tryd.func4.symm.trans hfn)).symm
      exact ⟨by kernel_rfl, fun j t ht => by
        rw [Tryd.params4] at ht
        have hm : t ∈ [34, 34] := by simpa using Array.mem_of_getElem? ht
        have hall : ([34, 34].all fun u => !Tryd.prog.wantsStandIn u) = true := by kernel_rfl
        exact (show Tryd.prog.wantsStandIn t = false by simpa using List.all_eq_true.1 hall t hm)⟩)
    (by kernel_rfl)
theorem proved : Rows.FnWrotePartsCardSaid := card
#print axioms proved
end Go.Proofs.YtanadaamipfmkaaDoor.fnWroteParts
namespace Go.Proofs.YtanadaamipfmkaaDoor
/-- The row, under a short name, for the claim. -/
theorem fnWroteParts_holds : Rows.FnWrotePartsCardSaid := fnWroteParts.proved
end Go.Proofs.YtanadaamipfmkaaDoor
