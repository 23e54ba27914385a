/- A line that is backed up and restored (impl.Restored): the contract by which the law FnRestored takes it; of steps that turn rows nothing is said. -/
import Derived.Test.YtdinikcfhpfojaaDoorQGRestored
import Derived.Test.YtdinikcfhpfojaaDoorQPFnRestoredx0
namespace Go.Proofs.YtdinikcfhpfojaaDoor.G
open Go.RowKit Go.Proofs.YtdinikcfhpfojaaDoor.H Go.Proofs.YtdinikcfhpfojaaDoorW.PrintWords Go.Proofs.YtdinikcfhpfojaaDoorW.PrintLast Go.Proofs.YtdinikcfhpfojaaDoor.R
set_option linter.unusedVariables false
set_option linter.unusedSimpArgs false
def key_of (x : PFnRestored.S29) : Key5 := ⟨x.f0, x.f1, x.f2, x.f3, x.f4⟩
theorem block_lt {w : World} {a : Addr} {v : Value} (h : w.cell? a = some v) : a.block < w.heap.size := by
  rcases Nat.lt_or_ge a.block w.heap.size with h2 | h2
  · exact h2
  · unfold World.cell? at h
    rw [Array.getElem?_eq_none h2] at h
    simp at h
theorem kr_of {w : World} {A : Option Addr} {l : List PFnRestored.S29} (h : Kd.C PFnRestored.k29 w A l.length l) : KR w w.heap.size A (l.map key_of) := by
  intro j k hj
  rw [List.getElem?_map] at hj
  obtain ⟨x, hx, rfl⟩ := Option.map_eq_some_iff.1 hj
  obtain ⟨hlt, rfl⟩ := List.getElem?_eq_some_iff.1 hx
  obtain ⟨ad, e, h0, h1, h2, h3, h4⟩ := PFnRestored.at_T29 h (j : Int) (by omega) (by omega)
  have hrd : PFnRestored.rd_T29 l (j : Int) = l[j] := by unfold PFnRestored.rd_T29; rw [Int.toNat_natCast, List.getD_eq_getElem?_getD, List.getElem?_eq_getElem hlt]; rfl
  rw [hrd, Int.toNat_natCast] at h0 h1 h2 h3 h4
  exact ⟨ad, e, block_lt h0, h0, h1, h2, h3, h4⟩
def impl_Restored.f (t : ByteArray) (a : Int) (l : List PFnRestored.S29) : Option (ByteArray × Int × Bool) :=
  if t.size ≤ 1000000 ∧ 0 ≤ a ∧ a ≤ (runesOf t).length ∧ l.length ≤ 1000000 ∧ (krun ⟨runesOf t, a.toNat, []⟩ (l.map key_of)).isSome = true then some (runesBytes (runesOf t), a, true) else none
theorem impl_Restored.calls (t : ByteArray) (a : Int) (A : Option Addr) (c : Nat) (l : List PFnRestored.S29) (r1 : ByteArray) (r2 : Int) (r3 : Bool) (w : World) (hr : Kd.C PFnRestored.k29 w A l.length l) (hc : l.length ≤ c) (h : impl_Restored.f t a l = some (r1, r2, r3)) :
    Calls Tryd.prog 22 #[.agg #[.string t, .int .i64 a], .slice A l.length c] w fun e w' => e = .returned (.tuple #[.agg #[.string r1, .int .i64 r2], .bool r3]) ∧ Below w.heap.size w w' := by
  unfold impl_Restored.f at h
  by_cases hg : t.size ≤ 1000000 ∧ 0 ≤ a ∧ a ≤ (runesOf t).length ∧ l.length ≤ 1000000 ∧ (krun ⟨runesOf t, a.toNat, []⟩ (l.map key_of)).isSome = true
  · rw [if_pos hg] at h
    obtain ⟨g0, g1, g2, g3, g4⟩ := hg
    obtain ⟨s1, hs1⟩ := Option.isSome_iff_exists.1 g4
    have h' := Option.some.inj h
    simp only [Prod.mk.injEq] at h'
    obtain ⟨rfl, rfl, rfl⟩ := h'
    obtain ⟨i, rfl⟩ := Int.eq_ofNat_of_zero_le g1
    have := Restored_calls t i A c (l.map key_of) s1 w g0 (by omega) (by rw [List.length_map]; exact g3) (by rw [List.length_map]; exact hc) (kr_of hr) hs1
    rwa [List.length_map] at this
  · rw [if_neg hg] at h; cases h
end Go.Proofs.YtdinikcfhpfojaaDoor.G
