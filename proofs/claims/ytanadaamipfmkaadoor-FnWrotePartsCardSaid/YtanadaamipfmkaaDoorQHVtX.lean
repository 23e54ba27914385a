/- A step of a writer that writes a text (impl.wrote: OText, ORaw); for texts of at most 100000 bytes. -/
import Derived.Test.YtanadaamipfmkaaDoorQHVtW
namespace Go.Proofs.YtanadaamipfmkaaDoor.H
open Go.RowKit Go.Proofs.YtanadaamipfmkaaDoorW.PrintWords Go.Proofs.YtanadaamipfmkaaDoorW.PrintLast Go.Proofs.YtanadaamipfmkaaDoor.R Go.Proofs.YtanadaamipfmkaaDoor.X
set_option linter.unusedVariables false
set_option linter.unusedSimpArgs false
set_option maxHeartbeats 2000000 in
theorem wrote_text {N m c k : Nat} {T : Option Addr} {w : World} {bs : List Int} (h : VS w N m T c bs) (n1 n2 : Int) (s r : ByteArray) (hs : s.size ≤ 100000) (hb : bs.length ≤ 800000) (hr : PzzReplaceAll.goprompt_zzReplaceAll.f k s ⟨#[27]⟩ ⟨#[63]⟩ = some r) (hrs : r.size ≤ 100000) : Calls Tryd.prog 43 #[Wp m, .agg #[.int .i64 1, .int .i64 n1, .int .i64 n2, .string s]] w fun e w' => e = .returned (.bool true) ∧ ∃ T' c', VT N m T bs.length c w T' c' (bs ++ ints r) w' := by
  have hN := h.ge
  have hlt := h.blk.lt
  have b1 := Below.alloc (Below.refl w.heap.size w) (Nat.le_refl _) (.cells #[.int .i64 1, .int .i64 n1, .int .i64 n2, .string s] 38)
  have nb := Rec.new w [.int .i64 1, .int .i64 n1, .int .i64 n2, .string s] 38
  have k0 := nb.cell 0 rfl
  have k3 := nb.cell 3 rfl
  have HC := Lib.hid (WriteStr_calls (h.stays b1) s r hs hb hr hrs)
  have HR := Lib.hid ((VT.refl h).stays b1 (by omega))
  clear h nb b1
  go_enter Tryd.func43, Tryd.ntmps43
  go_wp2_with fail
  refine HC.out.mono ?_
  rintro e w2 ⟨rfl, T', c', hT⟩
  have HT := Lib.hid (HR.out.trans hT)
  clear hT
  go_wp2_with fail
  go_ret
  exact ⟨rfl, T', c', HT.out⟩
set_option maxHeartbeats 2000000 in
theorem wrote_raw {N m c : Nat} {T : Option Addr} {w : World} {bs : List Int} (h : VS w N m T c bs) (n1 n2 : Int) (s : ByteArray) (hs : s.size ≤ 100000) (hb : bs.length ≤ 800000) : Calls Tryd.prog 43 #[Wp m, .agg #[.int .i64 2, .int .i64 n1, .int .i64 n2, .string s]] w fun e w' => e = .returned (.bool true) ∧ ∃ T' c', VT N m T bs.length c w T' c' (bs ++ ints s) w' := by
  have hN := h.ge
  have hlt := h.blk.lt
  have b1 := Below.alloc (Below.refl w.heap.size w) (Nat.le_refl _) (.cells #[.int .i64 2, .int .i64 n1, .int .i64 n2, .string s] 38)
  have nb := Rec.new w [.int .i64 2, .int .i64 n1, .int .i64 n2, .string s] 38
  have k0 := nb.cell 0 rfl
  have k3 := nb.cell 3 rfl
  have HC := Lib.hid (WriteRawStr_calls (h.stays b1) s hs hb)
  have HR := Lib.hid ((VT.refl h).stays b1 (by omega))
  clear h nb b1
  go_enter Tryd.func43, Tryd.ntmps43
  go_wp2_with fail
  refine HC.out.mono ?_
  rintro e w2 ⟨rfl, T', c', hT⟩
  have HT := Lib.hid (HR.out.trans hT)
  clear hT
  go_wp2_with fail
  go_ret
  exact ⟨rfl, T', c', HT.out⟩
end Go.Proofs.YtanadaamipfmkaaDoor.H
