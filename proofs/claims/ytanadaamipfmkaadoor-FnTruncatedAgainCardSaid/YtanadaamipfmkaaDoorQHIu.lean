/- A text whose lines are set in (impl.Indented): the contract by which the law takes it; signs of ASCII but the escape, at most 500000 of them, at most 1000 blanks. -/
import Derived.Test.YtanadaamipfmkaaDoorQHIn
import Derived.Laws.BytesArg
namespace Go.Proofs.YtanadaamipfmkaaDoor.H
open Go.RowKit Go.Proofs.YtanadaamipfmkaaDoorW.PrintWords Go.Proofs.YtanadaamipfmkaaDoorW.PrintLast Go.Proofs.YtanadaamipfmkaaDoor.R
set_option linter.unusedVariables false
set_option linter.unusedSimpArgs false
attribute [local go_sem ↓] Go.wp_at_zero Go.wp_at_succ
theorem to_bytes2 (w : World) (s : ByteArray) : ∃ c W1, (convert 9 47 (.string s)).run Tryd.prog w = .ok (.slice (some ⟨w.heap.size, 0, none⟩) s.size c) W1 ∧ (∀ w', Below W1.heap.size W1 w' → (convert 47 9 (.slice (some ⟨w.heap.size, 0, none⟩) s.size c)).run Tryd.prog w' = .ok (.string s) w') ∧ Below w.heap.size w W1 := by
  have hsz : s.data.toList.length = s.size := by rw [Array.length_toList]; rfl
  refine ⟨_, _, run_bytes_of_string (P := Tryd.prog) w 9 47 5 s Tryd.underlying9 Tryd.underlying47 Tryd.underlying5, fun w' hb => ?_, ((Below.refl w.heap.size w).drew).alloc (Nat.le_refl _) _⟩
  have hnew : (w.drew.alloc (.cells (bytesRow s (grownCap w s.size 0 5)) 5 ((bytesRow s (grownCap w s.size 0 5)).size, (bytesRow s (grownCap w s.size 0 5)).size + 1))).heap[w.heap.size]? = some (.cells (bytesRow s (grownCap w s.size 0 5)) 5 ((bytesRow s (grownCap w s.size 0 5)).size, (bytesRow s (grownCap w s.size 0 5)).size + 1)) := Go.heap_alloc_new w.drew _
  have h := run_convert_bytes_back (P := Tryd.prog) w' 47 9 5 ⟨w.heap.size, 0, none⟩ (grownCap w s.size 0 5) s.data.toList Tryd.underlying47 Tryd.underlying5 Tryd.underlying9 (fun j hj => by
    rw [hsz] at hj
    rw [show (⟨w.heap.size, 0, none⟩ : Addr).add j = ⟨w.heap.size, j, none⟩ by unfold Addr.add; split <;> simp_all]
    refine pw_cell_below hb ?_
    simp only [World.cell?, hnew]
    have hj2 : j < s.data.size := hj
    have e1 : (bytesRow s (grownCap w s.size 0 5))[j]? = some (.int .u8 ((s.data[j]'hj2).toNat : Int)) := by
      unfold bytesRow
      rw [Array.getElem?_append_left (by simpa using hj2), Array.getElem?_map, Array.getElem?_eq_getElem hj2]
      rfl
    rw [if_neg (by simp)]
    refine e1.trans ?_
    simp)
  rw [hsz] at h
  simpa using h
theorem bw_string {T : TypeId} {R : Nat → Option Value} {B b q : Nat} {v : Value} {l : List UInt8} {w : World} (h : BW T R B b q v l w) : (convert 47 9 v).run Tryd.prog w = .ok (.string ⟨l.toArray⟩) w := by
  rcases h.own with ⟨hl, ⟨e, h0⟩ | ⟨g, cap, cur, e, hBg, hg, hnc, hcm, hcs, htk⟩⟩
  · have hl0 : l = [] := List.eq_nil_of_length_eq_zero h0
    subst hl0
    rw [e, run_convert_bytes_string w 47 9 5 none 0 0 Tryd.underlying47 Tryd.underlying5 Tryd.underlying9]
    rfl
  · rw [e]
    refine run_convert_bytes_back w 47 9 5 ⟨g, 0, none⟩ cap l Tryd.underlying47 Tryd.underlying5 Tryd.underlying9 fun j hj => ?_
    rw [show (⟨g, 0, none⟩ : Addr).add j = ⟨g, j, none⟩ by unfold Addr.add; split <;> simp_all]
    have h1 : cur.toList[j]? = some (.int .u8 (l[j].toNat : Int)) := by
      have h2 : (Lib.byteCells l)[j]? = some (.int .u8 (l[j].toNat : Int)) := by simp [Lib.byteCells, List.getElem?_eq_getElem hj]
      rw [← htk, List.getElem?_take_of_lt (by omega)] at h2
      exact h2
    unfold World.cell?
    rw [hg]
    simpa using h1
set_option maxHeartbeats 8000000 in
theorem NewWriter_calls (n : Nat) (w : World) : Calls Tryd.prog 104 #[.int .u64 n, .nilFunc] w fun e w' => e = .returned (.pointer (some ⟨w.heap.size, 0, none⟩)) ∧ AN 83 (inR n (w.heap.size + 1) false) w.heap.size w.heap.size 3 (w.heap.size + 1) (.slice none 0 0) (.slice none 0 0) [] w' ∧ Below w.heap.size w w' := by
  go_enter Tryd.func104, Tryd.ntmps104
  go_wp2
  go_ret
  have hb1 : Below w.heap.size w (w.alloc (.cells #[.int .u64 n, .nilFunc, .pointer (some ⟨w.heap.size + 1, 0, none⟩), .slice none 0 0, .int .i64 0, .int .i8 0, .bool false, .bool false] 83)) := (Below.refl _ _).alloc (Nat.le_refl _) _
  have hm := (Rec.new w [.int .u64 n, .nilFunc, .pointer (some ⟨w.heap.size + 1, 0, none⟩), .slice none 0 0, .int .i64 0, .int .i8 0, .bool false, .bool false] 83).alloc (.cells #[.iface 54 (.pointer (some ⟨w.heap.size, 3, none⟩)), .bool false, .slice none 0 0, .int .i64 0, .int .i8 0, .slice none 0 0, .int .i64 0, .int .i8 0, .bool false, .slice none 0 0] 81)
  have hq := Rec.at_ (w.alloc (.cells #[.int .u64 n, .nilFunc, .pointer (some ⟨w.heap.size + 1, 0, none⟩), .slice none 0 0, .int .i64 0, .int .i8 0, .bool false, .bool false] 83)) (anC w.heap.size 3 (.slice none 0 0)) 81 (b := w.heap.size + 1) (by simp)
  refine ⟨rfl, ⟨⟨Nat.le_refl _, ⟨0, _, hm, rfl, rfl, rfl, fun i hi => ?_⟩, World.ownsRow_nil _ _ _ _, by simp [Value.ownBlock], fun _ => rfl⟩, hq, by omega, by omega, .inl rfl⟩, hb1.alloc (by simp) _⟩
  rcases i with _ | _ | _ | _ | _ | _ | _ | _ | i
  all_goals first | rfl | omega | (simp [inR])
set_option maxHeartbeats 8000000 in
theorem Bytes_calls {T : TypeId} {R : Nat → Option Value} {B m q : Nat} {n : Int} {sk : Bool} {v : Value} {l : List UInt8} (w : World) (h : BW 83 R B m 3 v l w) : Calls Tryd.prog 105 #[.pointer (some ⟨m, 0, none⟩)] w fun e w' => e = .returned v ∧ w' = w.drew := by
  obtain ⟨ao, n, cap, rfl, hn, hnc, hcm, ha0, ha1⟩ := h.cases_
  obtain ⟨lr, h3⟩ := h.three
  have HC := Lib.hid (bytes_at 83 R m 3 n cap ao lr w h3 hnc hcm ha1 ha0)
  clear h h3 hn
  go_enter Tryd.func105, Tryd.ntmps105
  go_wp2_with (go_at_call 76; refine HC.out.mono ?_; rintro e w2 ⟨rfl, rfl⟩)
  go_ret
  exact ⟨rfl, rfl⟩
set_option maxHeartbeats 8000000 in
theorem inBytes_calls (n c : Nat) (A : Option Addr) (u : List UInt8) (w : World) (hn : n ≤ 1000) (hu : ∀ x ∈ u, x.toNat < 128 ∧ x.toNat ≠ 27) (hul : u.length ≤ 500000)
    (hcv : ∀ w', Below w.heap.size w w' → (convert 47 9 (.slice A u.length c)).run Tryd.prog w' = .ok (.string ⟨u.toArray⟩) w') :
    Calls Tryd.prog 70 #[.slice A u.length c, .int .u64 n] w fun e w' => ∃ v, e = .returned v ∧ (convert 47 9 v).run Tryd.prog w' = .ok (.string ⟨(inF n u).1.toArray⟩) w' ∧ Below w.heap.size w w' := by
  have HC := Lib.hid hcv
  clear hcv
  go_enter Tryd.func70, Tryd.ntmps70
  go_wp2_with fail
  refine (NewWriter_calls n w).mono ?_
  rintro e w1 ⟨rfl, hA1, hb1⟩
  have H1 := Lib.hid (And.intro hA1 hb1)
  clear hA1 hb1
  go_wp2_with fail
  refine (in_write w.heap.size w.heap.size (w.heap.size + 1) n c A _ _ u w1 H1.out.1 H1.out.2.size hn hu hul (HC.out w1 H1.out.2)).mono ?_
  rintro e w2 ⟨rfl, v2, rb2, sk, hA2, hO2⟩
  have H2 := Lib.hid (And.intro hA2 (H1.out.2.trans hO2.1))
  clear hA2 hO2
  go_wp2_with fail
  refine (Bytes_calls (T := 83) (q := 0) (n := 0) (sk := false) w2 H2.out.1.buf).mono ?_
  rintro e w3 ⟨rfl, rfl⟩
  go_wp2
  go_ret
  exact ⟨_, rfl, bw_string H2.out.1.drew.buf, below_drew H2.out.2⟩
/-- A text whose lines are set in. -/
def indented (n : Nat) (s : ByteArray) : ByteArray := ⟨(inF n s.data.toList).1.toArray⟩
def impl_Indented.f (s : ByteArray) (n : Int) : Option ByteArray := if s.size ≤ 500000 ∧ (∀ x ∈ s.data.toList, x.toNat < 128 ∧ x.toNat ≠ 27) ∧ 0 ≤ n ∧ n ≤ 1000 then some (indented n.toNat s) else none
set_option maxHeartbeats 8000000 in
theorem String_calls (n : Nat) (s : ByteArray) (w : World) (hn : n ≤ 1000) (hu : ∀ x ∈ s.data.toList, x.toNat < 128 ∧ x.toNat ≠ 27) (hul : s.size ≤ 500000) : Calls Tryd.prog 46 #[.string s, .int .u64 n] w fun e w' => e = .returned (.string (indented n s)) ∧ Below w.heap.size w w' := by
  obtain ⟨c, W1, hc1, hc2, hb1⟩ := to_bytes2 w s
  have hsz : s.data.toList.length = s.size := by rw [Array.length_toList]; rfl
  have hst : (⟨s.data.toList.toArray⟩ : ByteArray) = s := by cases s; simp
  have HC := inBytes_calls n c (some ⟨w.heap.size, 0, none⟩) s.data.toList W1 hn hu (by omega) (fun w' hb => by
    rw [hst, hsz]
    exact hc2 w' hb)
  rw [hsz] at HC
  have HC := Lib.hid HC
  have HB := Lib.hid hb1
  clear hc2 hb1 hst hsz hu
  go_enter Tryd.func46, Tryd.ntmps46
  go_wp2_with fail
  refine HC.out.mono ?_
  rintro e w2 ⟨v, rfl, hcv, hb2⟩
  have HB2 := Lib.hid (HB.out.trans (hb2.mono HB.out.size))
  clear hb2
  go_wp2
  go_ret
  exact ⟨rfl, HB2.out⟩
set_option maxHeartbeats 8000000 in
theorem impl_Indented.calls (s : ByteArray) (n : Int) (r : ByteArray) (w : World) (h : impl_Indented.f s n = some r) : Calls Tryd.prog 23 #[.string s, .int .u64 n] w fun e w' => e = .returned (.string r) ∧ Below w.heap.size w w' := by
  unfold impl_Indented.f at h
  by_cases hc : s.size ≤ 500000 ∧ (∀ x ∈ s.data.toList, x.toNat < 128 ∧ x.toNat ≠ 27) ∧ 0 ≤ n ∧ n ≤ 1000
  · rw [if_pos hc] at h
    obtain rfl := Option.some.inj h
    obtain ⟨h1, h2, h3, h4⟩ := hc
    obtain ⟨k, rfl⟩ := Int.eq_ofNat_of_zero_le h3
    have HC := Lib.hid (String_calls k s w (by omega) h2 h1)
    clear h h2
    go_enter Tryd.func23, Tryd.ntmps23
    go_wp2_with fail
    refine HC.out.mono ?_
    rintro e w2 ⟨rfl, hb⟩
    go_wp2
    go_ret
    exact ⟨by simp, hb⟩
  · rw [if_neg hc] at h
    cases h
end Go.Proofs.YtanadaamipfmkaaDoor.H
