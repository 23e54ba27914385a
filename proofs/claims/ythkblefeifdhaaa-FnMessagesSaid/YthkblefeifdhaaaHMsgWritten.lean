/- What a message is written as: the contract of impl.MessageWritten; no condition but bounds that its callers meet. -/
import Derived.Test.YthkblefeifdhaaaHMsgBytes
import Derived.Test.YthkblefeifdhaaaXPure
namespace Go.Proofs.Ythkblefeifdhaaa.H
open Go.RowKit Go.Proofs.YthkblefeifdhaaaW.PrintWords Go.Proofs.YthkblefeifdhaaaW.PrintLast Go.Proofs.Ythkblefeifdhaaa.R Go.Proofs.Ythkblefeifdhaaa.X
set_option linter.unusedVariables false
set_option linter.unusedSimpArgs false
attribute [local go_sem ↓] Go.wp_at_zero Go.wp_at_succ

theorem str_bytes (w : World) (s : ByteArray) : ∃ c W1, (convert 9 26 (.string s)).run Try.prog w = .ok (.slice (some ⟨w.heap.size, 0, none⟩) s.size c) W1 ∧ BSrc W1 (some ⟨w.heap.size, 0, none⟩) (ints s) ∧ Below w.heap.size w W1 ∧ W1.heap.size = w.heap.size + 1 := by
  refine ⟨_, _, run_bytes_of_string (P := Try.prog) w 9 26 5 s Try.underlying9 Try.underlying26 Try.underlying5, ⟨_, rfl, fun j hj => ?_⟩, ?_, ?_⟩
  · have hnew : (w.drew.alloc (.cells (bytesRow s (grownCap w s.size 0 5)) 5 ((bytesRow s (grownCap w s.size 0 5)).size, (bytesRow s (grownCap w s.size 0 5)).size + 1))).heap[w.heap.size]? = some (.cells (bytesRow s (grownCap w s.size 0 5)) 5 ((bytesRow s (grownCap w s.size 0 5)).size, (bytesRow s (grownCap w s.size 0 5)).size + 1)) := Go.heap_alloc_new w.drew _
    rw [ints_length] at hj
    rw [show (⟨w.heap.size, 0, none⟩ : Addr).add j = ⟨w.heap.size, j, none⟩ by unfold Addr.add; split <;> simp_all]
    simp only [World.cell?, hnew]
    have hj' : j < s.data.toList.length := by rw [dlen]; exact hj
    have hj2 : j < s.data.size := hj
    have e1 : (bytesRow s (grownCap w s.size 0 5))[j]? = some (.int .u8 ((s.data[j]'hj2).toNat : Int)) := by
      unfold bytesRow
      rw [Array.getElem?_append_left (by simpa using hj2), Array.getElem?_map, Array.getElem?_eq_getElem hj2]
      rfl
    have e2 : (ints s).getD j 0 = ((s.data[j]'hj2).toNat : Int) := by
      unfold ints
      rw [List.getD_eq_getElem?_getD, List.getElem?_map, List.getElem?_eq_getElem hj']
      simp
    rw [e2, if_neg (by simp)]
    exact e1
  · exact ((Below.refl w.heap.size w).drew).alloc (Nat.le_refl _) _
  · show (w.heap.push _).size = _
    rw [Array.size_push]
def impl_MessageWritten.f (kd : Int) (s : ByteArray) : Option ByteArray := if s.size ≤ 500 ∧ 0 ≤ kd ∧ kd < 32768 then some (strOfNums (head6 s.size kd ++ ints s)) else none
set_option maxHeartbeats 2000000 in
theorem impl_MessageWritten.calls (kd : Int) (s : ByteArray) (r : ByteArray) (w : World) (h : impl_MessageWritten.f kd s = some r) :
    Calls Try.prog 21 #[.int .i64 kd, .string s] w fun e w' => e = .returned (.string r) ∧ Below w.heap.size w w' := by
  unfold impl_MessageWritten.f at h
  split at h
  · rename_i hc
    obtain ⟨h1, h2, h3⟩ := hc
    obtain rfl := Option.some.inj h
    clear h
    obtain ⟨c, W1, hcv, hs, hb1, hz⟩ := str_bytes w s
    have hk : IntKind.i16.wrap kd = kd := by simp only [IntKind.wrap, IntKind.bits, IntKind.signed]; simp; omega
    have hl := ints_length s
    have hm := Rec.new W1 [.int .i16 kd, .slice (some ⟨w.heap.size, 0, none⟩) (ints s).length c] 73
    have HC := Lib.hid (bytes_calls W1.heap.size (some ⟨w.heap.size, 0, none⟩) c (ints s) kd _ hm (hs.keep fun ad e => Below.heap_alloc W1 _ _ (by injection e with e; subst e; show w.heap.size < W1.heap.size; omega)) (fun ad e => by injection e with e; subst e; show w.heap.size < (W1.heap.push _).size; rw [Array.size_push]; omega) (by omega) h2 h3)
    rw [hl, hz] at HC
    go_enter Try.func21, Try.ntmps21
    go_wp2_with (go_at_call 46; refine HC.out.mono ?_; rintro e w2 ⟨v, rfl, ho, hb2⟩; have hcv2 := own_string (P := Try.prog) Try.underlying26 Try.underlying5 Try.underlying9 ho)
    go_ret
    exact ⟨rfl, Below.lower (hb1.alloc (by omega) _) (by show w.heap.size ≤ (W1.heap.push _).size; rw [Array.size_push]; omega) hb2⟩
  · exact absurd h (by simp)
end Go.Proofs.Ythkblefeifdhaaa.H
