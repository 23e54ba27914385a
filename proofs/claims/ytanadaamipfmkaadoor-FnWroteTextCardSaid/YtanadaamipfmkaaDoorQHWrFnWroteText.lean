/- What a writer has behind steps that write texts (impl.Wrote: OText, ORaw), for the law FnWroteText: the contract by which the law takes it; of other steps, and of texts of more than 1000 bytes, nothing is said. -/
import Derived.Test.YtanadaamipfmkaaDoorQHVtY
import Derived.Test.YtanadaamipfmkaaDoorQPFnWroteTextx0
namespace Go.Proofs.YtanadaamipfmkaaDoor.H
open Go.RowKit Go.Proofs.YtanadaamipfmkaaDoorW.PrintWords Go.Proofs.YtanadaamipfmkaaDoorW.PrintLast Go.Proofs.YtanadaamipfmkaaDoor.R Go.Proofs.YtanadaamipfmkaaDoor.X
set_option linter.unusedVariables false
set_option linter.unusedSimpArgs false
def ow_of (x : PFnWroteText.S38) : Ow := ⟨x.f0, x.f1, x.f2, x.f3⟩
theorem cell_lt {w : World} {p : Addr} {v : Value} (h : w.cell? p = some v) : p.block < w.heap.size := by
  rcases Nat.lt_or_ge p.block w.heap.size with h1 | h1
  · exact h1
  · unfold World.cell? at h
    rw [Array.getElem?_eq_none h1] at h
    simp at h
theorem ord_of {w : World} {A : Option Addr} {l : List PFnWroteText.S38} (h : Kd.C PFnWroteText.k38 w A l.length l) : ORd w w.heap.size A (l.map ow_of) := by
  intro j k hj
  rw [List.getElem?_map] at hj
  obtain ⟨x, hx, rfl⟩ := Option.map_eq_some_iff.1 hj
  obtain ⟨hlt, rfl⟩ := List.getElem?_eq_some_iff.1 hx
  obtain ⟨ad, e, h0, h1, h2, h3⟩ := PFnWroteText.at_T38 h (j : Int) (by omega) (by omega)
  have hrd : PFnWroteText.rd_T38 l (j : Int) = l[j] := by unfold PFnWroteText.rd_T38; rw [Int.toNat_natCast, List.getD_eq_getElem?_getD, List.getElem?_eq_getElem hlt]; rfl
  rw [hrd] at h0 h1 h2 h3
  rw [Int.toNat_natCast] at h0 h1 h2 h3
  exact ⟨ad, e, cell_lt h0, h0, h1, h2, h3⟩
/-- The bytes of one step. -/
def outB (k : Nat) (op : Int) (s : ByteArray) : Option (List Int) :=
  if s.size ≤ 1000 then (if op = 1 then (PzzReplaceAll.goprompt_zzReplaceAll.f k s ⟨#[27]⟩ ⟨#[63]⟩).bind fun r => (if r.size ≤ 1000 then some (ints r) else none) else if op = 2 then some (ints s) else none) else none
theorem does_of {k : Nat} {x : Ow} {o : List Int} (h : outB k x.op x.text = some o) : Does x o ∧ o.length ≤ 1000 := by
  obtain ⟨op, n, m, s⟩ := x
  unfold outB at h
  dsimp only at h
  by_cases hs : s.size ≤ 1000
  · rw [if_pos hs] at h
    by_cases h1 : op = 1
    · rw [if_pos h1] at h
      obtain ⟨r, hr, h⟩ := Option.bind_eq_some_iff.1 h
      by_cases hrs : r.size ≤ 1000
      · rw [if_pos hrs] at h
        obtain rfl := Option.some.inj h
        subst h1
        exact ⟨fun N mm c T w bs hV hb => wrote_text hV n m s r (by omega) hb hr (by omega), by rw [ints_length]; exact hrs⟩
      · rw [if_neg hrs] at h; cases h
    · rw [if_neg h1] at h
      by_cases h2 : op = 2
      · rw [if_pos h2] at h
        obtain rfl := Option.some.inj h
        subst h2
        exact ⟨fun N mm c T w bs hV hb => wrote_raw hV n m s (by omega) hb, by rw [ints_length]; exact hs⟩
      · rw [if_neg h2] at h; cases h
  · rw [if_neg hs] at h; cases h
/-- For one step. -/
def impl_Wrote.f (k : Nat) (l : List PFnWroteText.S38) : Option (ByteArray × Bool) := match l with
  | [x] => if x.f1 = 0 then (outB k x.f0 x.f3).bind fun o => some (strOfNums o, true) else none
  | _ => none
theorem impl_Wrote.mono : ∀ (l : List PFnWroteText.S38) (k : Nat), LeO (impl_Wrote.f k l) (impl_Wrote.f (k + 1) l) := by
  intro l k
  unfold impl_Wrote.f
  split
  · refine LeO.ite (LeO.bind ?_ fun _ => LeO.refl _) (LeO.refl _)
    unfold outB
    exact LeO.ite (LeO.ite (LeO.bind (PzzReplaceAll.goprompt_zzReplaceAll.mono _ _ _ _) fun _ => LeO.refl _) (LeO.refl _)) (LeO.refl _)
  · exact LeO.refl _
theorem impl_Wrote.calls (k : Nat) (A : Option Addr) (c : Nat) (l : List PFnWroteText.S38) (r1 : ByteArray) (r2 : Bool) (w : World) (hr : Kd.C PFnWroteText.k38 w A l.length l) (hc : l.length ≤ c) (h : impl_Wrote.f k l = some (r1, r2)) :
    Calls Tryd.prog 20 #[.slice A l.length c] w fun e w' => e = .returned (.tuple #[.string r1, .bool r2]) ∧ Below w.heap.size w w' := by
  match l, h with
  | [x], h =>
    unfold impl_Wrote.f at h
    dsimp only at h
    by_cases hn : x.f1 = 0
    · rw [if_pos hn] at h
      obtain ⟨o, ho, h⟩ := Option.bind_eq_some_iff.1 h
      have h' := Option.some.inj h
      simp only [Prod.mk.injEq] at h'
      obtain ⟨rfl, rfl⟩ := h'
      obtain ⟨hd, hl⟩ := does_of (x := ow_of x) ho
      have := Wrote_calls A c [ow_of x] (fun _ => o) w (by simp) hc (ord_of hr) (by intro y hy; rw [List.mem_singleton] at hy; subst hy; show _ ≤ x.f1 ∧ x.f1 ≤ _; omega) (by intro y hy; rw [List.mem_singleton] at hy; subst hy; exact hd) (by intro i; cases i <;> simp <;> omega)
      simpa using this
    · rw [if_neg hn] at h; cases h
end Go.Proofs.YtanadaamipfmkaaDoor.H
