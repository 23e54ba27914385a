/- Printed by a program of this seat (xprint) out of the translation: Go functions as plain functions, and the walks that show them; no condition. -/
import Derived.Test.YthbdaoapjnofkaaDoorRows
import Derived.Test.YthbdaoapjnofkaaDoorQPFnFilteredx5
import Derived.Test.YthbdaoapjnofkaaDoorQPureFnFiltered
import Derived.WalkKit
import Derived.ProofKit
import Derived.OpenShut
import Derived.ShutString
import Derived.ChangeOld
import Derived.Below
import Derived.SizedLaws
import Derived.LaidMore
import Derived.Lay
import Derived.MakeChecks
import Derived.Stop.Joined
import Derived.ChangeVars
import Derived.OpenVars
import Derived.SevenTiedAt
import Derived.Test.YthbdaoapjnofkaaDoorTie
import Derived.Test.YthbdaoapjnofkaaDoorCards
import Derived.Test.YthbdaoapjnofkaaDoorQXRow
namespace Go.Proofs.YthbdaoapjnofkaaDoor.fnFiltered
open Go.ChangeShapes Go.WideShapes Go.ChangeAt Go.RowKit
open Go.ChangeMaps (open_string shut_string)
open Go.Proofs.YthbdaoapjnofkaaDoor.PFnFiltered Go.Proofs.YthbdaoapjnofkaaDoorW.PrintWords
set_option linter.unusedVariables false
theorem own : ownKnob Tryd.prog.godebug = none := by kernel_rfl
theorem laidOut : laidOutB Tryd.prog = true := by kernel_rfl
set_option maxRecDepth 100000 in
theorem el55 {H : Type} {enc : TypeId × Value → H} {w : World} {base : Nat} {sp : Nat → Bool} {held : Bool} (cs : List Value) (y : DataW H × List MemPlace) (n : Nat) (h : DataW.trod enc Tryd.prog w base sp held n 55 cs = some y) : ∃ (v0 : ByteArray) (v1 : ByteArray), cs = [.string v0, .string v1] ∧ v0.size ≤ maxLen ∧ v1.size ≤ maxLen := by
  obtain ⟨ys, n', _, _, hlen, hyl, hf⟩ := DataW.trod_struct Tryd.underlying55 h
  rw [show Tryd.prog.cellsOf 55 = 2 by kernel_rfl] at hlen
  have c9_ : Tryd.prog.cellsOf 9 = 1 := by kernel_rfl
  have hyl2 : ys.length = 2 := hyl
  match cs, hlen, ys, hyl2 with
  | [c0, c1], _, [y0, y1], _ =>
    have e0 : DataW.trod enc Tryd.prog w base sp held n' 9 [c0] = some y0 := by have h_ : DataW.trod enc Tryd.prog w base sp held n' 9 (([c0, c1].drop 0).take (Tryd.prog.cellsOf 9)) = [y0, y1][0]? := hf 0 _ rfl; rw [c9_] at h_; exact h_
    have e1 : DataW.trod enc Tryd.prog w base sp held n' 9 [c1] = some y1 := by have h_ : DataW.trod enc Tryd.prog w base sp held n' 9 (([c0, c1].drop 1).take (Tryd.prog.cellsOf 9)) = [y0, y1][1]? := hf 1 _ rfl; rw [c9_] at h_; exact h_
    obtain ⟨v0, i0, _, g0⟩ := DataW.trod_string Tryd.underlying9 e0
    simp only [List.cons.injEq, and_true] at i0
    subst i0
    obtain ⟨v1, i1, _, g1⟩ := DataW.trod_string Tryd.underlying9 e1
    simp only [List.cons.injEq, and_true] at i1
    subst i1
    exact ⟨v0, v1, rfl, g0, g1⟩
abbrev laid : List (String × DataW Unit) := [("unicode/utf8.acceptRanges", Rows.laid_unicode_utf8_acceptRanges), ("unicode.CaseRanges", Rows.laid_unicode_CaseRanges), ("unicode/utf8.first", Rows.laid_unicode_utf8_first)]
theorem door_met (os : Os) (args : Array Value) : laidMetH Tryd.prog laid ((World.laidAll Tryd.prog os laid).forCall (fun _ _ => 0) ⟨#[], args, []⟩).memory := by rw [MakeChecks.laidMetH_plain _ _ _ (by kernel_rfl)]; exact laidMet_laidAll _ (by kernel_rfl) (by kernel_rfl)
set_option maxRecDepth 100000 in
theorem lifted (os : Os) (started : os.Started) (H : Type) (enc : TypeId × Value → H) :
    ReturnsInHanded {} Tryd.checked os 10 .any (fun w args => (Rows.fnFilteredSpec.pre enc Tryd.prog Tryd.f10 [] false w args ∧ laidMetH Tryd.prog laid w) ∧ sizedMet enc Tryd.prog Tryd.f10 (OpenSpec.ofChange Rows.fnFilteredSpec) false w args) (Rows.fnFilteredSpec.post enc Tryd.prog Tryd.f10 false true false false) := by
  refine returnsInHanded_of_change_and (C := Tryd.checked) (X := fun w _ => laidMetH Tryd.prog laid w) (fun _ _ _ hh h => h.of_heap hh) own started (by kernel_rfl) Tryd.func10
    (ChangeSpec.witness_shaped (enc := enc) (C := Tryd.checked) (os := os) (X := fun w _ => laidMetH Tryd.prog laid w) false (World.laidAll Tryd.prog os laid) #[.int .u8 0, .slice none 0 0, .string ByteArray.empty, .bool false] 8 (World.laidAll_os _ _ _) (World.shaped_of_ZipB (by kernel_rfl) (by kernel_rfl)) (by kernel_rfl) (by kernel_rfl) (by kernel_rfl) (door_met os _)) ?_
  intro W base args ds gs before hval0 hW hcnd hsz0 hL _
  have hsz : (DataW.weightsEach Tryd.prog (Tryd.f10.params.toList ++ Rows.fnFilteredSpec.plain.varTypes Tryd.prog) (ds ++ gs)).all (· ≤ reachBytes) = true := hsz0
  have hval : ∀ (j : Nat) t v, Tryd.f10.params[j]? = some t → args[j]? = some v → Value.okWide Tryd.prog W .any base t v := hval0
  have hW' := hW
  obtain ⟨p, q, hA0, hV0, rfl, hfz, hnd⟩ := hW
  have hV : DataW.TrodVars enc Tryd.prog W (fun _ => true) [] gs q := hV0
  have hA : DataW.TrodAll enc Tryd.prog W 0 (fun _ => true) true Tryd.f10.params.toList args.toList ds p := hA0
  rw [Tryd.params10] at hA hval hsz
  obtain ⟨v0, vs0, d0, ds0, p0, q0, hargs, rfl, rfl, h0, r0⟩ := trodAll_cons hA
  obtain ⟨v1, vs1, d1, ds1, p1, q1, rfl, rfl, rfl, h1, r1⟩ := trodAll_cons r0
  obtain ⟨v2, vs2, d2, ds2, p2, q2, rfl, rfl, rfl, h2, r2⟩ := trodAll_cons r1
  obtain ⟨v3, vs3, d3, ds3, p3, q3, rfl, rfl, rfl, h3, r3⟩ := trodAll_cons r2
  obtain ⟨rfl, rfl, rfl⟩ := trodAll_nil r3
  obtain rfl : args = #[v0, v1, v2, v3] := by cases args; simp_all
  obtain ⟨rfl, rfl⟩ := trodVars_none hV
  obtain ⟨a0, rfl, rfl, rfl, w0⟩ := open_int Tryd.underlying5 (hval 0 5 v0 rfl rfl) h0
  obtain ⟨a1, len1, cap1, rfl⟩ := okWide_slice Tryd.underlying50 (hval 1 50 v1 rfl rfl)
  have k1 := h1
  have lt1 : ∀ x ∈ p1, x.block < W.heap.size := by obtain ⟨m, hm⟩ := k1; exact DataW.trod_lt m _ _ _ hm
  obtain ⟨l1, rfl, hr1, hc1, hm1, hg1⟩ := X.open_krow k55 (fun x : S55 => x.f0.size ≤ maxLen ∧ x.f1.size ≤ maxLen) Tryd.underlying50 (by kernel_rfl) (fun cs y n h => by obtain ⟨v0, v1, rfl, g⟩ := el55 cs y n h; exact ⟨⟨v0, v1⟩, g, k55_mk W _⟩) h1
  obtain ⟨a2, rfl, rfl, rfl, y2⟩ := open_string Tryd.underlying9 (hval 2 9 v2 rfl rfl) h2
  obtain ⟨a3, rfl, rfl, rfl⟩ := open_bool Tryd.underlying4 (hval 3 4 v3 rfl rfl) h3
  clear hA0 hval0 hsz0 hsz
  refine (PFnFiltered.laws_FnFiltered.walk Pure.FnFiltered a0 _ _ l1 a2 a3 W w0 hr1 hc1 hm1 hg1 y2).mono fun e W' ⟨he, bel⟩ => ?_
  subst he
  exact ⟨_, rfl, _, _, _, [], _, [], hW', trodAll_mk1 (shut_bool Tryd.underlying4 _), (trodAll_cons_mk (shut_int Tryd.underlying5 w0) (trodAll_cons_mk (Below.trod laidOut (by kernel_rfl) (of_decide_eq_true (by kernel_rfl)) k1 bel lt1) (trodAll_cons_mk (shut_string Tryd.underlying9 y2) (trodAll_cons_mk (shut_bool Tryd.underlying4 _) trodAll_mk0)))), rfl, bel.frame _, fun h => by cases h⟩
theorem over : Rows.fnFilteredRow.holds Tryd.pinned (OpenSpec.ofChange Rows.fnFilteredSpec) :=
  OpenClaim.holds_of_wide 10 Tryd.f10 rfl rfl rfl rfl rfl rfl rfl ⟨rfl, rfl, rfl, rfl, rfl⟩ rfl rfl rfl rfl rfl (by kernel_rfl) Tryd.func10 (by kernel_rfl)
    (of_decide_eq_true (by kernel_rfl)) (by unfold Func.isWrapper; first | (rw [if_pos (by decide +kernel)]; kernel_rfl) | (rw [if_neg (by decide +kernel)]; exact ⟨rfl, rfl⟩))
    (fun os started H enc _ => lifted os started H enc)
theorem card : Rows.FnFilteredCardSaid :=
  Claim7.holds_tied_plain_at .later [] [.data, .pinned, .pinned] true (true, "02c84bea3471465ef756ae99ecbd09c7eb3efd8251a41c136c29a31440352b2e") true
    over (fun _ h => by cases h) (by kernel_rfl) (fun _ h => by cases h) fnFiltered_row_tie rfl ⟨rfl, rfl⟩ (by kernel_rfl) rfl
    (fun f fn hf hfn => by
      obtain rfl : f = 10 := Option.some.inj ((show Tryd.prog.funcNamed "given.example/pub-typebar/laws.FnFiltered" = some 10 by kernel_rfl).symm.trans hf) |>.symm
      obtain rfl : fn = Tryd.f10 := (Option.some.inj (Tryd.func10.symm.trans hfn)).symm
      exact ⟨by kernel_rfl, fun j t ht => by
        rw [Tryd.params10] at ht
        have hm : t ∈ [5, 50, 9, 4] := by simpa using Array.mem_of_getElem? ht
        have hall : ([5, 50, 9, 4].all fun u => !Tryd.prog.wantsStandIn u) = true := by kernel_rfl
        exact (show Tryd.prog.wantsStandIn t = false by simpa using List.all_eq_true.1 hall t hm)⟩)
    (by kernel_rfl)
theorem proved : Rows.FnFilteredCardSaid := card
#print axioms proved
end Go.Proofs.YthbdaoapjnofkaaDoor.fnFiltered
namespace Go.Proofs.YthbdaoapjnofkaaDoor
/-- The row, under a short name, for the claim. -/
theorem fnFiltered_holds : Rows.FnFilteredCardSaid := fnFiltered.proved
end Go.Proofs.YthbdaoapjnofkaaDoor
