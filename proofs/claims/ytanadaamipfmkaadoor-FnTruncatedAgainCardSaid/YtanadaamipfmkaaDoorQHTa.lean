/- A writer that cuts lines (truncate.Writer) over plain bytes: what it writes; printable signs of ASCII, at most 500000 of them. -/
import Derived.Test.YtanadaamipfmkaaDoorQHIu
import Derived.Shelf.Bytes.WriteStringAt
namespace Go.Proofs.YtanadaamipfmkaaDoor.H
open Go.RowKit Go.Proofs.YtanadaamipfmkaaDoorW.PrintWords Go.Proofs.YtanadaamipfmkaaDoorW.PrintLast Go.Proofs.YtanadaamipfmkaaDoor.R
set_option linter.unusedVariables false
set_option linter.unusedSimpArgs false
attribute [local go_sem ↓] Go.wp_at_zero Go.wp_at_succ
def PlainU (u : List UInt8) : Prop := ∀ x ∈ u, 32 ≤ x.toNat ∧ x.toNat ≤ 126
theorem ws_at (T : TypeId) (R : Nat → Option Value) (B b q : Nat) (bs : List Value) (s : ByteArray) (w : World) (h : LibA.IsBuffer T R 5 B b q bs w) (hBw : B ≤ w.heap.size) (h1 : ∀ v ∈ bs, v.oneCell' = true) (hlim : bs.length + s.size ≤ 140737488355328) :
    Calls Tryd.prog 56 #[.pointer (some ⟨b, q, none⟩), .string s] w fun e w' => e = .returned (.tuple #[.int .i64 s.size, .nilIface]) ∧ LibA.IsBuffer T R 5 B b q (bs ++ Lib.byteCells s.data.toList) w' ∧ Below B w w' ∧ Lib.OthersKept 5 (some b) w w' := Any.Buffer_WriteString_at Tryd.laysM178 T R B b q bs s w h hBw h1 hlim
set_option maxHeartbeats 4000000 in
theorem RuneWidth_one (x : Int) (w : World) (h0 : 32 ≤ x) (h1 : x ≤ 126) : Calls Tryd.prog 53 #[.int .i32 x] w fun e w' => e = .returned (.int .i64 1) ∧ w' = w := by
  have e1 : decide (x < 32) = false := decide_eq_false (by omega)
  have e2 : (x == 173) = false := beq_eq_false_iff_ne.2 (by omega)
  have e3 : decide (127 ≤ x) = false := decide_eq_false (by omega)
  go_enter Tryd.func53, Tryd.ntmps53
  go_wp2
  go_ret
  exact ⟨rfl, rfl⟩
set_option maxHeartbeats 8000000 in
set_option maxRecDepth 100000 in
theorem Width_calls (s : ByteArray) (w : World) (hs : s.size ≤ 1000000) (hp : PlainU s.data.toList) : Calls Tryd.prog 48 #[.string s] w fun e w' => e = .returned (.int .i64 s.size) ∧ Below w.heap.size w w' := by
  have HP := Lib.hid hp
  clear hp
  go_enter Tryd.func48, Tryd.ntmps48
  go_wp2
  go_loopw [3, 4, 6] (fun v3 v4 _ wr => ∃ k : Nat, k ≤ s.size ∧ v3 = .int .i64 k ∧ v4 = .bool false ∧ wr = w.iter s k) (fun _ _ _ wr => s.size - wr.iterPos w.heap.size)
  case atStart => exact ⟨0, Nat.zero_le _, rfl, rfl, rfl⟩
  case round =>
    obtain ⟨k, hk, rfl, rfl, rfl⟩ := hrel
    by_cases hlt : k < s.size
    · obtain ⟨x, hx⟩ : ∃ x, x = s[k]'hlt := ⟨_, rfl⟩
      obtain ⟨hx1, hx2⟩ := HP.out x (by rw [hx]; exact Array.getElem_mem_toList (xs := s.data) hlt)
      have hnx : ∀ ty, (Instr.next (.pointer (some ⟨w.heap.size, 0, none⟩)) true ty).run Tryd.prog (w.iter s k) = .ok (.tuple #[.bool true, .int .i64 k, .int .i32 x.toNat]) (w.iter s (k + 1)) := fun ty => by
        have h := Go.run_next_ascii (P := Tryd.prog) w s k ty hlt (by rw [← hx]; omega)
        rw [← hx] at h
        exact h
      clear hx
      have hne : ((x.toNat : Int) == 27) = false := beq_eq_false_iff_ne.2 (by omega)
      go_wp2_with (go_at_call 53; refine (RuneWidth_one _ _ (by omega) (by omega)).mono ?_; rintro e w2 ⟨rfl, rfl⟩)
      go_roundw
      case rel => exact ⟨k + 1, by omega, by go_num, rfl, rfl⟩
      case measure => simp; omega
    · have hnx : ∀ ty, (Instr.next (.pointer (some ⟨w.heap.size, 0, none⟩)) true ty).run Tryd.prog (w.iter s k) = .ok (.tuple #[.bool false]) (w.iter s k) := fun ty => Go.run_next_end (P := Tryd.prog) w s k ty hlt
      obtain rfl : k = s.size := by omega
      go_wp2
      go_ret
      exact ⟨rfl, (Below.refl _ _).alloc (Nat.le_refl _) _⟩
set_option maxHeartbeats 8000000 in
theorem LastSeq_calls (m o q : Nat) (rbv : Value) (w : World) (h : Rec w q (anC m o rbv) 81) : Calls Tryd.prog 58 #[.pointer (some ⟨q, 0, none⟩)] w fun e w' => e = .returned (.string ⟨#[]⟩) ∧ w' = w.drew := by
  have c5 := h.cell 5 rfl
  have c6 := h.cell 6 rfl
  have mixed : Tryd.prog.follows Departure.mixedOrders = true := by kernel_rfl
  have hcv : ∀ W, (convert 47 9 (.slice none 0 0)).run Tryd.prog W = .ok (.string ⟨#[]⟩) W := fun W => by
    rw [run_convert_bytes_string W 47 9 5 none 0 0 Tryd.underlying47 Tryd.underlying5 Tryd.underlying9]
    rfl
  have hin : Calls Tryd.prog 30 #[.pointer (some ⟨q, 5, none⟩)] w fun e w' => e = .returned (.string ⟨#[]⟩) ∧ w' = w.drew := by
    go_enter Tryd.func30, Tryd.ntmps30
    go_wp2
    go_region_o
    all_goals (go_wp2; go_ret; exact ⟨rfl, rfl⟩)
  have HI := Lib.hid hin
  clear hin h
  go_enter Tryd.func58, Tryd.ntmps58
  go_wp2_with (go_at_call 30; refine HI.out.mono ?_; rintro e w2 ⟨rfl, rfl⟩)
  go_ret
  exact ⟨rfl, rfl⟩
end Go.Proofs.YtanadaamipfmkaaDoor.H
