/- Which code points are shown, and which stand between words: the pure statement behind the law FnPrintable, for every code point; no condition. -/
import Derived.Test.YthkblefeifdhaaaPFnPrintablex1
namespace Go.Proofs.Ythkblefeifdhaaa.Pure
open Go.RowKit Go.Proofs.Ythkblefeifdhaaa.PFnPrintable Go.Proofs.YthkblefeifdhaaaW.PrintWords Go.Proofs.YthkblefeifdhaaaW.PrintLast

theorem wrap32_small (a : Int) (h0 : 0 ≤ a) (h : a ≤ 1114111) : wrap32 a = a := by unfold wrap32; omega
theorem wrap64_small (a : Int) (h0 : 0 ≤ a) (h : a ≤ 1114111) : wrap64 a = a := by unfold wrap64; omega

theorem FnPrintable : laws_FnPrintable.Pure := by
  intro a0 w0
  have hx : 0 ≤ a0 ∧ a0 ≤ 4294967295 := by simpa [Lit.wf, IntKind.min, IntKind.max, IntKind.signed, IntKind.bits] using w0
  refine ⟨5, ?_⟩
  unfold laws_FnPrintable.f
  by_cases h : a0 > 1114111
  · rw [if_pos h]
  · have e1 := wrap32_small a0 hx.1 (by omega)
    have e2 := wrap64_small a0 hx.1 (by omega)
    rw [if_neg h]
    simp only [e2, impl_Printable.f, impl_WordBreak.f, e1, readline_IsPrintable.f, readline_IsWordBreak.f, readline_IsWordBreak.j0, readline_IsWordBreak.j1, spec_IsWordSign.f]
    by_cases h1 : a0 ≥ 32 <;> by_cases h2 : a0 ≥ 55296 <;> by_cases h3 : a0 ≥ 97 <;> by_cases h4 : a0 ≥ 65 <;> by_cases h5 : a0 ≥ 48 <;> by_cases h6 : a0 ≤ 122 <;> by_cases h7 : a0 ≤ 90 <;> by_cases h8 : a0 ≤ 57 <;> by_cases h9 : a0 ≤ 56319 <;> first | omega | (simp [h1, h2, h3, h4, h5, h6, h7, h8, h9]; try omega)

end Go.Proofs.Ythkblefeifdhaaa.Pure
