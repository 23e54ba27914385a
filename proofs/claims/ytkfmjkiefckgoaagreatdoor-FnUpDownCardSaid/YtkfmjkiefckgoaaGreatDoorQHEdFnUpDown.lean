/- What a script makes of a text (impl.EditedFrom), for the law FnUpDown: the contract by which the law takes it; of steps that fail, and of other steps than HBufS speaks of, nothing is said. -/
import Derived.Test.YtkfmjkiefckgoaaGreatDoorQHBufR
import Derived.Test.YtkfmjkiefckgoaaGreatDoorQPFnUpDownx0
namespace Go.Proofs.YtkfmjkiefckgoaaGreatDoor.H
open Go.RowKit Go.Proofs.YtkfmjkiefckgoaaGreatDoorW.PrintWords Go.Proofs.YtkfmjkiefckgoaaGreatDoorW.PrintLast Go.Proofs.YtkfmjkiefckgoaaGreatDoor.R Go.Proofs.YtkfmjkiefckgoaaGreatDoor.X
set_option linter.unusedVariables false
set_option linter.unusedSimpArgs false
def ed_of (x : PFnUpDown.S31) : Ed := ⟨x.f0, x.f1, x.f2, x.f3⟩
theorem cell_lt {w : World} {p : Addr} {v : Value} (h : w.cell? p = some v) : p.block < w.heap.size := by
  rcases Nat.lt_or_ge p.block w.heap.size with h1 | h1
  · exact h1
  · unfold World.cell? at h
    rw [Array.getElem?_eq_none h1] at h
    simp at h
theorem kr_of {w : World} {A : Option Addr} {l : List PFnUpDown.S31} (h : Kd.C PFnUpDown.k31 w A l.length l) : KR w w.heap.size A (l.map ed_of) := by
  intro j k hj
  rw [List.getElem?_map] at hj
  obtain ⟨x, hx, rfl⟩ := Option.map_eq_some_iff.1 hj
  obtain ⟨hlt, rfl⟩ := List.getElem?_eq_some_iff.1 hx
  obtain ⟨ad, e, h0, h1, h2, h3⟩ := PFnUpDown.at_T31 h (j : Int) (by omega) (by omega)
  have hrd : PFnUpDown.rd_T31 l (j : Int) = l[j] := by unfold PFnUpDown.rd_T31; rw [Int.toNat_natCast, List.getD_eq_getElem?_getD, List.getElem?_eq_getElem hlt]; rfl
  rw [hrd] at h0 h1 h2 h3
  rw [Int.toNat_natCast] at h0 h1 h2 h3
  exact ⟨ad, e, cell_lt h0, h0, h1, h2, h3⟩
def impl_EditedFrom.f (t : ByteArray) (a : Int) (l : List PFnUpDown.S31) : Option (ByteArray × Int × List ByteArray × Bool) :=
  if 0 ≤ a ∧ OkT t a.toNat ∧ l.length ≤ 100000 then (match erun ⟨t, a.toNat, -1⟩ (l.map ed_of) with
  | some (s, ts) => some (s.t, (s.p : Int), ts, true)
  | none => none) else none
theorem impl_EditedFrom.calls (t : ByteArray) (a : Int) (A : Option Addr) (c : Nat) (l : List PFnUpDown.S31) (r1 : ByteArray) (r2 : Int) (r3 : List ByteArray) (r4 : Bool) (w : World) (hr : Kd.C PFnUpDown.k31 w A l.length l) (hc : l.length ≤ c) (h : impl_EditedFrom.f t a l = some (r1, r2, r3, r4)) :
    Calls Tryz.prog 9 #[.agg #[.string t, .int .i64 a], .slice A l.length c] w fun e w' => ∃ v_ : Value, e = .returned (.tuple #[.agg #[.string r1, .int .i64 r2], v_, .bool r4]) ∧ Kd.R Kd.string 9 w' w.heap.size (fun _ => True) v_ r3 ∧ Below w.heap.size w w' := by
  unfold impl_EditedFrom.f at h
  by_cases hl : 0 ≤ a ∧ OkT t a.toNat ∧ l.length ≤ 100000
  · rw [if_pos hl] at h
    split at h
    · rename_i s ts hk
      have h' := Option.some.inj h
      simp only [Prod.mk.injEq] at h'
      obtain ⟨rfl, rfl, rfl, rfl⟩ := h'
      have hlen : (l.map ed_of).length = l.length := List.length_map _
      have := edited_calls t a.toNat A c (l.map ed_of) w s ts hl.2.1 (by omega) (by omega) (kr_of hr) hk
      rw [hlen, show ((a.toNat : Nat) : Int) = a by omega] at this
      refine this.mono ?_
      rintro e w' ⟨⟨T, ct, rfl, hS⟩, hb⟩
      exact ⟨_, rfl, Kd.R_of_own hS (fun _ _ => trivial), hb⟩
    · cases h
  · rw [if_neg hl] at h
    cases h
end Go.Proofs.YtkfmjkiefckgoaaGreatDoor.H
