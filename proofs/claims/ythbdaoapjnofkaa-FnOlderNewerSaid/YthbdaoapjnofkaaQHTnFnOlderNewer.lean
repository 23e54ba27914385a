/- What turns over a history tell (impl.Turned), for the law FnOlderNewer: the contract by which the law takes it; of more than 900 turns, and of texts other than ASCII, nothing is said. -/
import Derived.Test.YthbdaoapjnofkaaQHTurned
import Derived.Test.YthbdaoapjnofkaaQPFnOlderNewerx0
namespace Go.Proofs.Ythbdaoapjnofkaa.H
open Go.RowKit Go.Proofs.YthbdaoapjnofkaaW.PrintWords Go.Proofs.YthbdaoapjnofkaaW.PrintLast Go.Proofs.Ythbdaoapjnofkaa.R Go.Proofs.Ythbdaoapjnofkaa.X
set_option linter.unusedVariables false
set_option linter.unusedSimpArgs false
def tn_of (x : PFnOlderNewer.S27) : Tn := ⟨x.f0, x.f1⟩
theorem cell_lt {w : World} {p : Addr} {v : Value} (h : w.cell? p = some v) : p.block < w.heap.size := by
  rcases Nat.lt_or_ge p.block w.heap.size with h1 | h1
  · exact h1
  · unfold World.cell? at h
    rw [Array.getElem?_eq_none h1] at h
    simp at h
theorem trd_of {w : World} {A : Option Addr} {l : List PFnOlderNewer.S27} (h : Kd.C PFnOlderNewer.k27 w A l.length l) : TRd w w.heap.size A (l.map tn_of) := by
  intro j k hj
  rw [List.getElem?_map] at hj
  obtain ⟨x, hx, rfl⟩ := Option.map_eq_some_iff.1 hj
  obtain ⟨hlt, rfl⟩ := List.getElem?_eq_some_iff.1 hx
  obtain ⟨ad, e, h0, h1⟩ := PFnOlderNewer.at_T27 h (j : Int) (by omega) (by omega)
  have hrd : PFnOlderNewer.rd_T27 l (j : Int) = l[j] := by unfold PFnOlderNewer.rd_T27; rw [Int.toNat_natCast, List.getD_eq_getElem?_getD, List.getElem?_eq_getElem hlt]; rfl
  rw [hrd] at h0 h1
  rw [Int.toNat_natCast] at h0 h1
  exact ⟨ad, e, cell_lt h0, h0, h1⟩
def impl_Turned.f (l : List PFnOlderNewer.S27) : Option (List ByteArray × List Bool) := if l.length ≤ 900 then turns ⟨[], [⟨#[]⟩], 0⟩ (l.map tn_of) else none
theorem impl_Turned.calls (A : Option Addr) (c : Nat) (l : List PFnOlderNewer.S27) (r1 : List ByteArray) (r2 : List Bool) (w : World) (hr : Kd.C PFnOlderNewer.k27 w A l.length l) (hc : l.length ≤ c) (h : impl_Turned.f l = some (r1, r2)) :
    Calls Try.prog 9 #[.slice A l.length c] w fun e w' => ∃ v1 v2 : Value, e = .returned (.tuple #[v1, v2]) ∧ Kd.R Kd.string 9 w' w.heap.size (fun _ => True) v1 r1 ∧ Kd.R Kd.bool 4 w' w.heap.size (fun _ => True) v2 r2 ∧ Below w.heap.size w w' := by
  unfold impl_Turned.f at h
  by_cases hl : l.length ≤ 900
  · rw [if_pos hl] at h
    have hlen : (l.map tn_of).length = l.length := List.length_map _
    have := Turned_calls A c (l.map tn_of) w r1 r2 (by omega) (by omega) (trd_of hr) h
    rw [hlen] at this
    refine this.mono ?_
    rintro e w' ⟨T1, c1, T2, c2, rfl, h1, h2, hb⟩
    exact ⟨_, _, rfl, Kd.R_of_own h1 (fun _ _ => trivial), Kd.R_of_own h2 (fun _ _ => trivial), hb⟩
  · rw [if_neg hl] at h
    cases h
end Go.Proofs.Ythbdaoapjnofkaa.H
