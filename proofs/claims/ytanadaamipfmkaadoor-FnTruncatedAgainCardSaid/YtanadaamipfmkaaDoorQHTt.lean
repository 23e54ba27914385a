/- A line cut to a width, with a tail (impl.Truncated), and the room of one (impl.Width): the contracts by which the laws take them; printable signs of ASCII. -/
import Derived.Test.YtanadaamipfmkaaDoorQHTr
namespace Go.Proofs.YtanadaamipfmkaaDoor.H
open Go.RowKit Go.Proofs.YtanadaamipfmkaaDoorW.PrintWords Go.Proofs.YtanadaamipfmkaaDoorW.PrintLast Go.Proofs.YtanadaamipfmkaaDoor.R
set_option linter.unusedVariables false
set_option linter.unusedSimpArgs false
attribute [local go_sem ↓] Go.wp_at_zero Go.wp_at_succ
theorem own_cases {w : World} {B : Nat} {v : Value} {l : List UInt8} (h : w.ownsRow B 5 1 v l.length (Lib.byteCells l)) : ∃ ao n cap, v = .slice ao n cap ∧ n = l.length ∧ n ≤ cap ∧ cap ≤ maxLen ∧ (ao = none → n = 0 ∧ cap = 0) ∧ (∀ ad, ao = some ad → ∃ g, ad = ⟨g, 0, none⟩) := by
  rcases h.2 with ⟨e, h0⟩ | ⟨g, cap, cur, e, hBg, hg, hnc, hcm, hcs, htk⟩
  · exact ⟨none, 0, 0, e, h0.symm, Nat.le_refl _, Nat.zero_le _, ⟨fun _ => ⟨rfl, rfl⟩, (fun ad h => by cases h)⟩⟩
  · exact ⟨_, _, cap, e, rfl, hnc, hcm, ⟨(fun h => by cases h), fun ad h => ⟨g, (Option.some.inj h).symm⟩⟩⟩
theorem own_string {w : World} {B : Nat} {v : Value} {l : List UInt8} (h : w.ownsRow B 5 1 v l.length (Lib.byteCells l)) : (convert 47 9 v).run Tryd.prog w = .ok (.string ⟨l.toArray⟩) w := by
  rcases h with ⟨hl, ⟨e, h0⟩ | ⟨g, cap, cur, e, hBg, hg, hnc, hcm, hcs, htk⟩⟩
  · have hl0 : l = [] := List.eq_nil_of_length_eq_zero h0
    subst hl0
    rw [e, run_convert_bytes_string w 47 9 5 none 0 0 Tryd.underlying47 Tryd.underlying5 Tryd.underlying9]
    rfl
  · rw [e]
    refine run_convert_bytes_back w 47 9 5 ⟨g, 0, none⟩ cap l Tryd.underlying47 Tryd.underlying5 Tryd.underlying9 fun j hj => ?_
    rw [show (⟨g, 0, none⟩ : Addr).add j = ⟨g, j, none⟩ by unfold Addr.add; split <;> simp_all]
    have h1 : cur.toList[j]? = some (.int .u8 (l[j].toNat : Int)) := by
      have h2 : (Lib.byteCells l)[j]? = some (.int .u8 (l[j].toNat : Int)) := by simp [Lib.byteCells, List.getElem?_eq_getElem hj]
      rw [← htk, List.getElem?_take_of_lt (by omega)] at h2
      exact h2
    unfold World.cell?
    rw [hg]
    simpa using h1
set_option maxHeartbeats 8000000 in
theorem trNew_calls (n : Nat) (tail : ByteArray) (w : World) : Calls Tryd.prog 106 #[.int .u64 n, .string tail] w fun e w' => e = .returned (.pointer (some ⟨w.heap.size, 0, none⟩)) ∧ AN 89 (trR n tail (w.heap.size + 1)) w.heap.size w.heap.size 3 (w.heap.size + 1) (.slice none 0 0) (.slice none 0 0) [] w' ∧ Below w.heap.size w w' := by
  go_enter Tryd.func106, Tryd.ntmps106
  go_wp2
  go_ret
  have hb1 : Below w.heap.size w (w.alloc (.cells #[.int .u64 n, .string tail, .pointer (some ⟨w.heap.size + 1, 0, none⟩), .slice none 0 0, .int .i64 0, .int .i8 0, .bool false] 89)) := (Below.refl _ _).alloc (Nat.le_refl _) _
  have hm := (Rec.new w [.int .u64 n, .string tail, .pointer (some ⟨w.heap.size + 1, 0, none⟩), .slice none 0 0, .int .i64 0, .int .i8 0, .bool false] 89).alloc (.cells #[.iface 54 (.pointer (some ⟨w.heap.size, 3, none⟩)), .bool false, .slice none 0 0, .int .i64 0, .int .i8 0, .slice none 0 0, .int .i64 0, .int .i8 0, .bool false, .slice none 0 0] 81)
  have hq := Rec.at_ (w.alloc (.cells #[.int .u64 n, .string tail, .pointer (some ⟨w.heap.size + 1, 0, none⟩), .slice none 0 0, .int .i64 0, .int .i8 0, .bool false] 89)) (anC w.heap.size 3 (.slice none 0 0)) 81 (b := w.heap.size + 1) (by simp)
  refine ⟨rfl, ⟨⟨Nat.le_refl _, ⟨0, _, hm, rfl, rfl, rfl, fun i hi => ?_⟩, World.ownsRow_nil _ _ _ _, by simp [Value.ownBlock], fun _ => rfl⟩, hq, by omega, by omega, .inl rfl⟩, hb1.alloc (by simp) _⟩
  rcases i with _ | _ | _ | _ | _ | _ | _ | i
  all_goals first | rfl | omega | (simp [trR])
set_option maxHeartbeats 8000000 in
theorem trBytes_calls {B m : Nat} {l : List UInt8} (w : World) (h : Held9 B m l w) : Calls Tryd.prog 107 #[.pointer (some ⟨m, 0, none⟩)] w fun e w' => ∃ v, e = .returned v ∧ (convert 47 9 v).run Tryd.prog w' = .ok (.string ⟨l.toArray⟩) w' ∧ w' = w.drew := by
  obtain ⟨R, v, lr, h3, ho⟩ := h
  have hcv := own_string (w := w.drew) (v := v) (l := l) (B := B) ho
  obtain ⟨ao, n, cap, rfl, hn, hnc, hcm, ha0, ha1⟩ := own_cases ho
  have HC := Lib.hid (bytes_at 89 R m 3 n cap ao lr w h3 hnc hcm ha1 ha0)
  have HV := Lib.hid hcv
  clear h3 hn hcv ho
  go_enter Tryd.func107, Tryd.ntmps107
  go_wp2_with (go_at_call 76; refine HC.out.mono ?_; rintro e w2 ⟨rfl, rfl⟩)
  go_ret
  exact ⟨_, rfl, HV.out, rfl⟩
/-- A line cut to a width. -/
def truncated (n : Nat) (tail s : ByteArray) : ByteArray := ⟨(truncU n tail.data.toList s.data.toList).toArray⟩
set_option maxHeartbeats 8000000 in
theorem trBoth_calls (n c c2 : Nat) (A A2 : Option Addr) (tail s : ByteArray) (w : World) (hn : n ≤ 1000000) (ht : PlainU tail.data.toList) (htl : tail.size ≤ 1000000) (hu : PlainU s.data.toList) (hul : s.size ≤ 500000)
    (hcv : ∀ w', Below w.heap.size w w' → (convert 47 9 (.slice A s.size c)).run Tryd.prog w' = .ok (.string s) w') (hcv2 : (convert 47 9 (.slice A2 tail.size c2)).run Tryd.prog w = .ok (.string tail) w) :
    Calls Tryd.prog 71 #[.slice A s.size c, .int .u64 n, .slice A2 tail.size c2] w fun e w' => ∃ v, e = .returned v ∧ (convert 47 9 v).run Tryd.prog w' = .ok (.string (truncated n tail s)) w' ∧ Below w.heap.size w w' := by
  have hsz : s.data.toList.length = s.size := by rw [Array.length_toList]; rfl
  have hst : (⟨s.data.toList.toArray⟩ : ByteArray) = s := by cases s; simp
  have HC := Lib.hid (show ∀ w', Below w.heap.size w w' → (convert 47 9 (.slice A s.data.toList.length c)).run Tryd.prog w' = .ok (.string ⟨s.data.toList.toArray⟩) w' from fun w' hb => by rw [hst, hsz]; exact hcv w' hb)
  have HSZ := Lib.hid hsz
  clear hcv hsz hst
  go_enter Tryd.func71, Tryd.ntmps71
  go_wp2_with fail
  refine (trNew_calls n tail w).mono ?_
  rintro e w1 ⟨rfl, hA1, hb1⟩
  have HW := tr_write w.heap.size w.heap.size (w.heap.size + 1) n c A tail s.data.toList w1 hA1 hb1.size hn ht htl hu (by have := HSZ.out; omega) (fun w' hb => HC.out w' (hb1.trans hb))
  rw [HSZ.out] at HW
  have HW := Lib.hid HW
  have H1 := Lib.hid hb1
  clear hA1 hb1 hcv2
  go_wp2_with fail
  refine HW.out.mono ?_
  rintro e w2 ⟨⟨x, rfl⟩, hH, hb2⟩
  have HB := Lib.hid (trBytes_calls w2 hH)
  have H2 := Lib.hid (H1.out.trans hb2)
  clear hH hb2
  go_wp2_with fail
  refine HB.out.mono ?_
  rintro e w3 ⟨v, rfl, hcv3, rfl⟩
  go_wp2
  go_ret
  exact ⟨_, rfl, hcv3, below_drew H2.out⟩
set_option maxHeartbeats 8000000 in
theorem trString_calls (n : Nat) (tail s : ByteArray) (w : World) (hn : n ≤ 1000000) (ht : PlainU tail.data.toList) (htl : tail.size ≤ 1000000) (hu : PlainU s.data.toList) (hul : s.size ≤ 500000) : Calls Tryd.prog 47 #[.string s, .int .u64 n, .string tail] w fun e w' => e = .returned (.string (truncated n tail s)) ∧ Below w.heap.size w w' := by
  obtain ⟨c, W1, hc1, hc2, hb1⟩ := to_bytes2 w s
  obtain ⟨c', W2, hc3, hc4, hb2⟩ := to_bytes2 W1 tail
  have HC := Lib.hid (trBoth_calls n c c' (some ⟨w.heap.size, 0, none⟩) (some ⟨W1.heap.size, 0, none⟩) tail s W2 hn ht htl hu hul (fun w' hb => hc2 w' (hb2.trans (hb.mono hb2.size))) (hc4 W2 (Below.refl _ _)))
  have HB := Lib.hid (hb1.trans (hb2.mono hb1.size))
  clear hc2 hc4 hb1 hb2 ht hu
  go_enter Tryd.func47, Tryd.ntmps47
  go_wp2_with fail
  refine HC.out.mono ?_
  rintro e w2 ⟨v, rfl, hcv, hb⟩
  have HB2 := Lib.hid (HB.out.trans (hb.mono HB.out.size))
  clear hb
  go_wp2
  go_ret
  exact ⟨rfl, HB2.out⟩
def PlainB (s : ByteArray) : Prop := ∀ x ∈ s.data.toList, 32 ≤ x.toNat ∧ x.toNat ≤ 126
instance plainB_dec (s : ByteArray) : Decidable (PlainB s) := by unfold PlainB; infer_instance
def impl_Truncated.f (s : ByteArray) (n : Int) (tail : ByteArray) : Option ByteArray := if s.size ≤ 500000 ∧ PlainB s ∧ 0 ≤ n ∧ n ≤ 1000000 ∧ tail.size ≤ 1000000 ∧ PlainB tail then some (truncated n.toNat tail s) else none
set_option maxHeartbeats 8000000 in
theorem impl_Truncated.calls (s : ByteArray) (n : Int) (tail : ByteArray) (r : ByteArray) (w : World) (h : impl_Truncated.f s n tail = some r) : Calls Tryd.prog 25 #[.string s, .int .u64 n, .string tail] w fun e w' => e = .returned (.string r) ∧ Below w.heap.size w w' := by
  unfold impl_Truncated.f at h
  by_cases hc : s.size ≤ 500000 ∧ PlainB s ∧ 0 ≤ n ∧ n ≤ 1000000 ∧ tail.size ≤ 1000000 ∧ PlainB tail
  · rw [if_pos hc] at h
    obtain rfl := Option.some.inj h
    obtain ⟨h1, h2, h3, h4, h5, h6⟩ := hc
    obtain ⟨k, rfl⟩ := Int.eq_ofNat_of_zero_le h3
    have HC := Lib.hid (trString_calls k tail s w (by omega) h6 h5 h2 h1)
    clear h h2 h6
    go_enter Tryd.func25, Tryd.ntmps25
    go_wp2_with fail
    refine HC.out.mono ?_
    rintro e w2 ⟨rfl, hb⟩
    go_wp2
    go_ret
    exact ⟨by simp, hb⟩
  · rw [if_neg hc] at h
    cases h
def impl_Width.f (s : ByteArray) : Option Int := if s.size ≤ 1000000 ∧ PlainB s then some (s.size : Int) else none
set_option maxHeartbeats 8000000 in
theorem impl_Width.calls (s : ByteArray) (r : Int) (w : World) (h : impl_Width.f s = some r) : Calls Tryd.prog 26 #[.string s] w fun e w' => e = .returned (.int .i64 r) ∧ Below w.heap.size w w' := by
  unfold impl_Width.f at h
  by_cases hc : s.size ≤ 1000000 ∧ PlainB s
  · rw [if_pos hc] at h
    obtain rfl := Option.some.inj h
    have HC := Lib.hid (Width_calls s w hc.1 hc.2)
    clear h hc
    go_enter Tryd.func26, Tryd.ntmps26
    go_wp2_with fail
    refine HC.out.mono ?_
    rintro e w2 ⟨rfl, hb⟩
    go_wp2
    go_ret
    exact ⟨rfl, hb⟩
  · rw [if_neg hc] at h
    cases h
end Go.Proofs.YtanadaamipfmkaaDoor.H
