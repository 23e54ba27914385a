/- Printed by a program of this seat (xprint) out of the translation: Go functions as plain functions, and the walks that show them; no condition. -/
import Derived.Test.YtdinikcfhpfojaaDoorRows
import Derived.Test.YtdinikcfhpfojaaDoorQPFnRestoredx2
import Derived.Test.YtdinikcfhpfojaaDoorQPureFnRestored
import Derived.WalkKit
import Derived.ProofKit
import Derived.OpenShut
import Derived.ShutString
import Derived.ChangeOld
import Derived.Below
import Derived.SizedLaws
import Derived.LaidMore
import Derived.Stop.Joined
import Derived.ChangeVars
import Derived.OpenVars
import Derived.SevenTiedAt
import Derived.Test.YtdinikcfhpfojaaDoorTie
import Derived.Test.YtdinikcfhpfojaaDoorCards
import Derived.Test.YtdinikcfhpfojaaDoorQXRow
namespace Go.Proofs.YtdinikcfhpfojaaDoor.fnRestored
open Go.ChangeShapes Go.WideShapes Go.ChangeAt Go.RowKit
open Go.ChangeMaps (open_string shut_string)
open Go.Proofs.YtdinikcfhpfojaaDoor.PFnRestored Go.Proofs.YtdinikcfhpfojaaDoorW.PrintWords
set_option linter.unusedVariables false
theorem own : ownKnob Tryd.prog.godebug = none := by kernel_rfl
theorem laidOut : laidOutB Tryd.prog = true := by kernel_rfl
set_option maxRecDepth 100000 in
theorem el23 {H : Type} {enc : TypeId × Value → H} {w : World} {base : Nat} {sp : Nat → Bool} {held : Bool} (cs : List Value) (y : DataW H × List MemPlace) (n : Nat) (h : DataW.trod enc Tryd.prog w base sp held n 23 cs = some y) : ∃ (v0 : ByteArray) (v1 : Int), cs = [.string v0, .int .i64 v1] ∧ v0.size ≤ maxLen ∧ (Lit.int .i64 v1).wf = true := by
  obtain ⟨ys, n', _, _, hlen, hyl, hf⟩ := DataW.trod_struct Tryd.underlying23 h
  rw [show Tryd.prog.cellsOf 23 = 2 by kernel_rfl] at hlen
  have c3_ : Tryd.prog.cellsOf 3 = 1 := by kernel_rfl
  have c9_ : Tryd.prog.cellsOf 9 = 1 := by kernel_rfl
  have hyl2 : ys.length = 2 := hyl
  match cs, hlen, ys, hyl2 with
  | [c0, c1], _, [y0, y1], _ =>
    have e0 : DataW.trod enc Tryd.prog w base sp held n' 9 [c0] = some y0 := by have h_ : DataW.trod enc Tryd.prog w base sp held n' 9 (([c0, c1].drop 0).take (Tryd.prog.cellsOf 9)) = [y0, y1][0]? := hf 0 _ rfl; rw [c9_] at h_; exact h_
    have e1 : DataW.trod enc Tryd.prog w base sp held n' 3 [c1] = some y1 := by have h_ : DataW.trod enc Tryd.prog w base sp held n' 3 (([c0, c1].drop 1).take (Tryd.prog.cellsOf 3)) = [y0, y1][1]? := hf 1 _ rfl; rw [c3_] at h_; exact h_
    obtain ⟨v0, i0, _, g0⟩ := DataW.trod_string Tryd.underlying9 e0
    simp only [List.cons.injEq, and_true] at i0
    subst i0
    obtain ⟨v1, i1, _, g1⟩ := DataW.trod_int Tryd.underlying3 e1
    simp only [List.cons.injEq, and_true] at i1
    subst i1
    exact ⟨v0, v1, rfl, g0, g1⟩
theorem vars_len {H : Type} {enc : TypeId × Value → H} {P : Program} {w : World} {sp : Nat → Bool} : ∀ {ns : List String} {gs : List (DataW H)} {ps : List MemPlace}, DataW.TrodVars enc P w sp ns gs ps → gs.length = ns.length
  | [], [], _, _ => rfl
  | [], _ :: _, _, h => h.elim
  | _ :: _, [], _, h => h.elim
  | _ :: _, _ :: _, _, h => by obtain ⟨_, _, _, _, _, _, _, _, _, _, hs, _⟩ := h; simp [vars_len hs]
abbrev laid : List (String × DataW Unit) := [("given.example/pub-typebar/pub/readline.runes", Rows.laid_given_example_pub_typebar_pub_readline_runes)]
theorem door_met (os : Os) (args : Array Value) : laidMetH Tryd.prog laid ((World.doorLaid Tryd.prog 400 os).forCall (fun _ _ => 0) ⟨#[], args, []⟩).memory :=
  laidMetH_of_parts3 (fuel := 8) (laidMet_of_run' 8 (by kernel_rfl) (by kernel_rfl)) (by kernel_rfl) (by kernel_rfl)
set_option maxRecDepth 100000 in
theorem lifted (os : Os) (started : os.Started) (H : Type) (enc : TypeId × Value → H) :
    ReturnsInHanded {} Tryd.checked os 10 .any (fun w args => (Rows.fnRestoredSpec.pre enc Tryd.prog Tryd.f10 [] false w args ∧ laidMetH Tryd.prog laid w) ∧ sizedMet enc Tryd.prog Tryd.f10 (OpenSpec.ofChange Rows.fnRestoredSpec) false w args) (Rows.fnRestoredSpec.post enc Tryd.prog Tryd.f10 false true false false) := by
  refine returnsInHanded_of_change_and (C := Tryd.checked) (X := fun w _ => laidMetH Tryd.prog laid w) (fun _ _ _ hh h => h.of_heap hh) own started (by kernel_rfl) Tryd.func10
    (ChangeSpec.witness_shaped (enc := enc) (C := Tryd.checked) (os := os) (X := fun w _ => laidMetH Tryd.prog laid w) false (World.doorLaid Tryd.prog 400 os) #[.agg #[.string ByteArray.empty, .int .i64 0], .slice none 0 0] 8 rfl (World.shaped_of_RefB (by kernel_rfl) (by kernel_rfl)) (by kernel_rfl) (by kernel_rfl) (by kernel_rfl) (door_met os _)) ?_
  intro W base args ds gs before hval0 hW hcnd hsz0 hL _
  have hsz : (DataW.weightsEach Tryd.prog (Tryd.f10.params.toList ++ Rows.fnRestoredSpec.plain.varTypes Tryd.prog) (ds ++ gs)).all (· ≤ reachBytes) = true := hsz0
  have hval : ∀ (j : Nat) t v, Tryd.f10.params[j]? = some t → args[j]? = some v → Value.okWide Tryd.prog W .any base t v := hval0
  have hW' := hW
  obtain ⟨p, q, hA0, hV0, rfl, hfz, hnd⟩ := hW
  have hV : DataW.TrodVars enc Tryd.prog W (fun _ => true) ["given.example/pub-typebar/pub/readline.runes"] gs q := hV0
  have hA : DataW.TrodAll enc Tryd.prog W 0 (fun _ => true) true Tryd.f10.params.toList args.toList ds p := hA0
  rw [Tryd.params10] at hA hval hsz
  obtain ⟨v0, vs0, d0, ds0, p0, q0, hargs, rfl, rfl, h0, r0⟩ := trodAll_cons hA
  obtain ⟨v1, vs1, d1, ds1, p1, q1, rfl, rfl, rfl, h1, r1⟩ := trodAll_cons r0
  obtain ⟨rfl, rfl, rfl⟩ := trodAll_nil r1
  obtain rfl : args = #[v0, v1] := by cases args; simp_all
  obtain ⟨e0_, rfl⟩ : ∃ e0_, gs = [e0_] := by
    match gs, vars_len hV with
    | [e0_], _ => exact ⟨e0_, rfl⟩
  obtain ⟨⟨cs0⟩, rfl, _⟩ := okWide_struct Tryd.underlying23 (hval 0 23 v0 rfl rfl)
  have k0 := h0
  have lt0 : ∀ x ∈ p0, x.block < W.heap.size := by obtain ⟨m, hm⟩ := k0; exact DataW.trod_lt m _ _ _ hm
  obtain ⟨a0_0, a0_1, hcs0, hg0_0, hg0_1⟩ := (by obtain ⟨n_, hn_⟩ := h0; exact el23 cs0 _ n_ hn_ : ∃ (a0_0 : ByteArray) (a0_1 : Int), cs0 = [.string a0_0, .int .i64 a0_1] ∧ a0_0.size ≤ maxLen ∧ (Lit.int .i64 a0_1).wf = true)
  subst hcs0
  obtain ⟨a1, len1, cap1, rfl⟩ := okWide_slice Tryd.underlying24 (hval 1 24 v1 rfl rfl)
  have k1 := h1
  have lt1 : ∀ x ∈ p1, x.block < W.heap.size := by obtain ⟨m, hm⟩ := k1; exact DataW.trod_lt m _ _ _ hm
  obtain ⟨l1, rfl, hr1, hc1, hm1, hg1⟩ := X.open_krow (Kd.int .u8) (fun x : Int => (Lit.int .u8 x).wf = true) Tryd.underlying24 (by kernel_rfl) (X.el_int Tryd.underlying5) h1
  clear hA0 hval0 hsz0 hsz
  refine (PFnRestored.laws_FnRestored.walk Pure.FnRestored a0_0 a0_1 _ _ l1 W hg0_0 hg0_1 hr1 hc1 hm1 hg1).mono fun e W' ⟨he, bel⟩ => ?_
  subst he
  exact ⟨_, rfl, _, _, _, [], _, _, hW', trodAll_mk1 (shut_bool Tryd.underlying4 _), (trodAll_cons_mk (Below.trod laidOut (by kernel_rfl) (of_decide_eq_true (by kernel_rfl)) k0 bel lt0) (trodAll_cons_mk (Below.trod laidOut (by kernel_rfl) (of_decide_eq_true (by kernel_rfl)) k1 bel lt1) trodAll_mk0)), Below.trodVars laidOut bel (by kernel_rfl) hV, bel.frame _, fun h => by cases h⟩
theorem over : Rows.fnRestoredRow.holds Tryd.pinned (OpenSpec.ofChange Rows.fnRestoredSpec) :=
  OpenClaim.holds_of_wide 10 Tryd.f10 rfl rfl rfl rfl rfl rfl rfl ⟨rfl, rfl, rfl, rfl, rfl⟩ rfl rfl rfl rfl rfl (by kernel_rfl) Tryd.func10 (by kernel_rfl)
    (of_decide_eq_true (by kernel_rfl)) (by unfold Func.isWrapper; first | (rw [if_pos (by decide +kernel)]; kernel_rfl) | (rw [if_neg (by decide +kernel)]; exact ⟨rfl, rfl⟩))
    (fun os started H enc _ => lifted os started H enc)
theorem card : Rows.FnRestoredCardSaid :=
  Claim7.holds_tied_plain_at .later [] [.wider] true (true, "919c4c8955ffe272b34cc56d9505af559cd251b8eb30fee0040198638336732c") true
    over (fun _ h => by cases h) (by kernel_rfl) (fun _ h => by cases h) fnRestored_row_tie rfl ⟨rfl, rfl⟩ (by kernel_rfl) rfl
    (fun f fn hf hfn => by
      obtain rfl : f = 10 := Option.some.inj ((show Tryd.prog.funcNamed "given.example/pub-typebar/laws.FnRestored" = some 10 by kernel_rfl).symm.trans hf) |>.symm
      obtain rfl : fn = Tryd.f10 := (Option.some.inj (Tryd.func10.symm.trans hfn)).symm
      exact ⟨by kernel_rfl, fun j t ht => by
        rw [Tryd.params10] at ht
        have hm : t ∈ [23, 24] := by simpa using Array.mem_of_getElem? ht
        have hall : ([23, 24].all fun u => !Tryd.prog.wantsStandIn u) = true := by kernel_rfl
        exact (show Tryd.prog.wantsStandIn t = false by simpa using List.all_eq_true.1 hall t hm)⟩)
    (by kernel_rfl)
theorem proved : Rows.FnRestoredCardSaid := card
#print axioms proved
end Go.Proofs.YtdinikcfhpfojaaDoor.fnRestored
namespace Go.Proofs.YtdinikcfhpfojaaDoor
/-- The row, under a short name, for the claim. -/
theorem fnRestored_holds : Rows.FnRestoredCardSaid := fnRestored.proved
end Go.Proofs.YtdinikcfhpfojaaDoor
