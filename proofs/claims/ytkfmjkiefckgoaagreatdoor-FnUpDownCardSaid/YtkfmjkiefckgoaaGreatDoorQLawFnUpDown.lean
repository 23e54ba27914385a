/- Printed by a program of this seat (xprint) out of the translation: Go functions as plain functions, and the walks that show them; no condition. -/
import Derived.Test.YtkfmjkiefckgoaaGreatDoorRows
import Derived.Test.YtkfmjkiefckgoaaGreatDoorQPFnUpDownx4
import Derived.Test.YtkfmjkiefckgoaaGreatDoorQPureFnUpDown
import Derived.WalkKit
import Derived.ProofKit
import Derived.OpenShut
import Derived.ShutString
import Derived.ChangeOld
import Derived.Below
import Derived.SizedLaws
import Derived.LaidMore
import Derived.Lay
import Derived.MakeChecks
import Derived.Stop.Joined
import Derived.ChangeVars
import Derived.OpenVars
import Derived.SevenTiedAt
import Derived.Test.YtkfmjkiefckgoaaGreatDoorTie
import Derived.Test.YtkfmjkiefckgoaaGreatDoorCards
import Derived.Test.YtkfmjkiefckgoaaGreatDoorQXRow
namespace Go.Proofs.YtkfmjkiefckgoaaGreatDoor.fnUpDown
open Go.ChangeShapes Go.WideShapes Go.ChangeAt Go.RowKit
open Go.ChangeMaps (open_string shut_string)
open Go.Proofs.YtkfmjkiefckgoaaGreatDoor.PFnUpDown Go.Proofs.YtkfmjkiefckgoaaGreatDoorW.PrintWords
set_option linter.unusedVariables false
theorem own : ownKnob Tryz.prog.godebug = none := by kernel_rfl
theorem laidOut : laidOutB Tryz.prog = true := by kernel_rfl
set_option maxRecDepth 100000 in
theorem el23 {H : Type} {enc : TypeId × Value → H} {w : World} {base : Nat} {sp : Nat → Bool} {held : Bool} (cs : List Value) (y : DataW H × List MemPlace) (n : Nat) (h : DataW.trod enc Tryz.prog w base sp held n 23 cs = some y) : ∃ (v0 : ByteArray) (v1 : Int), cs = [.string v0, .int .i64 v1] ∧ v0.size ≤ maxLen ∧ (Lit.int .i64 v1).wf = true := by
  obtain ⟨ys, n', _, _, hlen, hyl, hf⟩ := DataW.trod_struct Tryz.underlying23 h
  rw [show Tryz.prog.cellsOf 23 = 2 by kernel_rfl] at hlen
  have c3_ : Tryz.prog.cellsOf 3 = 1 := by kernel_rfl
  have c9_ : Tryz.prog.cellsOf 9 = 1 := by kernel_rfl
  have hyl2 : ys.length = 2 := hyl
  match cs, hlen, ys, hyl2 with
  | [c0, c1], _, [y0, y1], _ =>
    have e0 : DataW.trod enc Tryz.prog w base sp held n' 9 [c0] = some y0 := by have h_ : DataW.trod enc Tryz.prog w base sp held n' 9 (([c0, c1].drop 0).take (Tryz.prog.cellsOf 9)) = [y0, y1][0]? := hf 0 _ rfl; rw [c9_] at h_; exact h_
    have e1 : DataW.trod enc Tryz.prog w base sp held n' 3 [c1] = some y1 := by have h_ : DataW.trod enc Tryz.prog w base sp held n' 3 (([c0, c1].drop 1).take (Tryz.prog.cellsOf 3)) = [y0, y1][1]? := hf 1 _ rfl; rw [c3_] at h_; exact h_
    obtain ⟨v0, i0, _, g0⟩ := DataW.trod_string Tryz.underlying9 e0
    simp only [List.cons.injEq, and_true] at i0
    subst i0
    obtain ⟨v1, i1, _, g1⟩ := DataW.trod_int Tryz.underlying3 e1
    simp only [List.cons.injEq, and_true] at i1
    subst i1
    exact ⟨v0, v1, rfl, g0, g1⟩
abbrev laid : List (String × DataW Unit) := [("unicode/utf8.acceptRanges", Rows.laid_unicode_utf8_acceptRanges), ("unicode.White_Space", Rows.laid_unicode_White_Space), ("strings.asciiSpace", Rows.laid_strings_asciiSpace), ("unicode/utf8.first", Rows.laid_unicode_utf8_first)]
theorem door_met (os : Os) (args : Array Value) : laidMetH Tryz.prog laid ((World.laidAll Tryz.prog os laid).forCall (fun _ _ => 0) ⟨#[], args, []⟩).memory := by rw [MakeChecks.laidMetH_plain _ _ _ (by kernel_rfl)]; exact laidMet_laidAll _ (by kernel_rfl) (by kernel_rfl)
set_option maxRecDepth 100000 in
theorem lifted (os : Os) (started : os.Started) (H : Type) (enc : TypeId × Value → H) :
    ReturnsInHanded {} Tryz.checked os 4 .any (fun w args => (Rows.fnUpDownSpec.pre enc Tryz.prog Tryz.f4 [] false w args ∧ laidMetH Tryz.prog laid w) ∧ sizedMet enc Tryz.prog Tryz.f4 (OpenSpec.ofChange Rows.fnUpDownSpec) false w args) (Rows.fnUpDownSpec.post enc Tryz.prog Tryz.f4 false true false false) := by
  refine returnsInHanded_of_change_and (C := Tryz.checked) (X := fun w _ => laidMetH Tryz.prog laid w) (fun _ _ _ hh h => h.of_heap hh) own started (by kernel_rfl) Tryz.func4
    (ChangeSpec.witness_shaped (enc := enc) (C := Tryz.checked) (os := os) (X := fun w _ => laidMetH Tryz.prog laid w) false (World.laidAll Tryz.prog os laid) #[.agg #[.string ByteArray.empty, .int .i64 0], .int .u8 0] 8 (World.laidAll_os _ _ _) (World.shaped_of_ZipB (by kernel_rfl) (by kernel_rfl)) (by kernel_rfl) (by kernel_rfl) (by kernel_rfl) (door_met os _)) ?_
  intro W base args ds gs before hval0 hW hcnd hsz0 hL _
  have hsz : (DataW.weightsEach Tryz.prog (Tryz.f4.params.toList ++ Rows.fnUpDownSpec.plain.varTypes Tryz.prog) (ds ++ gs)).all (· ≤ reachBytes) = true := hsz0
  have hval : ∀ (j : Nat) t v, Tryz.f4.params[j]? = some t → args[j]? = some v → Value.okWide Tryz.prog W .any base t v := hval0
  have hW' := hW
  obtain ⟨p, q, hA0, hV0, rfl, hfz, hnd⟩ := hW
  have hV : DataW.TrodVars enc Tryz.prog W (fun _ => true) [] gs q := hV0
  have hA : DataW.TrodAll enc Tryz.prog W 0 (fun _ => true) true Tryz.f4.params.toList args.toList ds p := hA0
  rw [Tryz.params4] at hA hval hsz
  obtain ⟨v0, vs0, d0, ds0, p0, q0, hargs, rfl, rfl, h0, r0⟩ := trodAll_cons hA
  obtain ⟨v1, vs1, d1, ds1, p1, q1, rfl, rfl, rfl, h1, r1⟩ := trodAll_cons r0
  obtain ⟨rfl, rfl, rfl⟩ := trodAll_nil r1
  obtain rfl : args = #[v0, v1] := by cases args; simp_all
  obtain ⟨rfl, rfl⟩ := trodVars_none hV
  obtain ⟨⟨cs0⟩, rfl, _⟩ := okWide_struct Tryz.underlying23 (hval 0 23 v0 rfl rfl)
  have k0 := h0
  have lt0 : ∀ x ∈ p0, x.block < W.heap.size := by obtain ⟨m, hm⟩ := k0; exact DataW.trod_lt m _ _ _ hm
  obtain ⟨a0_0, a0_1, hcs0, hg0_0, hg0_1⟩ := (by obtain ⟨n_, hn_⟩ := h0; exact el23 cs0 _ n_ hn_ : ∃ (a0_0 : ByteArray) (a0_1 : Int), cs0 = [.string a0_0, .int .i64 a0_1] ∧ a0_0.size ≤ maxLen ∧ (Lit.int .i64 a0_1).wf = true)
  subst hcs0
  obtain ⟨a1, rfl, rfl, rfl, w1⟩ := open_int Tryz.underlying5 (hval 1 5 v1 rfl rfl) h1
  clear hA0 hval0 hsz0 hsz
  refine (PFnUpDown.laws_FnUpDown.walk Pure.FnUpDown a0_0 a0_1 a1 W hg0_0 hg0_1 w1).mono fun e W' ⟨he, bel⟩ => ?_
  subst he
  exact ⟨_, rfl, _, _, _, [], _, [], hW', trodAll_mk1 (shut_bool Tryz.underlying4 _), (trodAll_cons_mk (Below.trod laidOut (by kernel_rfl) (of_decide_eq_true (by kernel_rfl)) k0 bel lt0) (trodAll_cons_mk (shut_int Tryz.underlying5 w1) trodAll_mk0)), rfl, bel.frame _, fun h => by cases h⟩
theorem over : Rows.fnUpDownRow.holds Tryz.pinned (OpenSpec.ofChange Rows.fnUpDownSpec) :=
  OpenClaim.holds_of_wide 4 Tryz.f4 rfl rfl rfl rfl rfl rfl rfl ⟨rfl, rfl, rfl, rfl, rfl⟩ rfl rfl rfl rfl rfl (by kernel_rfl) Tryz.func4 (by kernel_rfl)
    (of_decide_eq_true (by kernel_rfl)) (by unfold Func.isWrapper; first | (rw [if_pos (by decide +kernel)]; kernel_rfl) | (rw [if_neg (by decide +kernel)]; exact ⟨rfl, rfl⟩))
    (fun os started H enc _ => lifted os started H enc)
theorem card : Rows.FnUpDownCardSaid :=
  Claim7.holds_tied_plain_at .later [] [.data, .listed, .data, .pinned] true (true, "41377209353c6e630f4ec2ccda87d8f4611ceb37894fcaa0592a1f50361aa21f") false
    over (fun _ h => by cases h) (by kernel_rfl) (fun _ h => by cases h) fnUpDown_row_tie rfl ⟨rfl, rfl⟩ (by kernel_rfl) rfl
    (fun f fn hf hfn => by
      obtain rfl : f = 4 := Option.some.inj ((show Tryz.prog.funcNamed "given.example/pub-typebar/laws.FnUpDown" = some 4 by kernel_rfl).symm.trans hf) |>.symm
      obtain rfl : fn = Tryz.f4 := (Option.some.inj (Tryz.func4.symm.trans hfn)).symm
      exact ⟨by kernel_rfl, fun j t ht => by
        rw [Tryz.params4] at ht
        have hm : t ∈ [23, 5] := by simpa using Array.mem_of_getElem? ht
        have hall : ([23, 5].all fun u => !Tryz.prog.wantsStandIn u) = true := by kernel_rfl
        exact (show Tryz.prog.wantsStandIn t = false by simpa using List.all_eq_true.1 hall t hm)⟩)
    (by kernel_rfl)
theorem proved : Rows.FnUpDownCardSaid := card
#print axioms proved
end Go.Proofs.YtkfmjkiefckgoaaGreatDoor.fnUpDown
namespace Go.Proofs.YtkfmjkiefckgoaaGreatDoor
/-- The row, under a short name, for the claim. -/
theorem fnUpDown_holds : Rows.FnUpDownCardSaid := fnUpDown.proved
end Go.Proofs.YtkfmjkiefckgoaaGreatDoor
