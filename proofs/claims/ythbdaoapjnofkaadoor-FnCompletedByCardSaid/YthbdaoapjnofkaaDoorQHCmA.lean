/- A completer of words: its nodes in memory, and the functions that doInternal calls (TrimSpaceLeft, HasPrefix, GetChildren, GetName, IsDynamic); for ASCII. -/
import Derived.Test.YthbdaoapjnofkaaDoorQHCmP
import Derived.Test.YthbdaoapjnofkaaDoorQHAggS
import Derived.Test.YthbdaoapjnofkaaDoorQHIsSp
import Derived.Test.YthbdaoapjnofkaaDoorQPHasPrefixx1
import Derived.IntWalk
namespace Go.Proofs.YthbdaoapjnofkaaDoor.H
open Go.RowKit Go.Proofs.YthbdaoapjnofkaaDoorW.PrintWords Go.Proofs.YthbdaoapjnofkaaDoorW.PrintLast Go.Proofs.YthbdaoapjnofkaaDoor.R Go.Proofs.YthbdaoapjnofkaaDoor.X
set_option linter.unusedVariables false
set_option linter.unusedSimpArgs false
attribute [local go_sem ↓] Go.wp_at_zero Go.wp_at_succ
abbrev PtS (b : Nat) : Value := .pointer (some ⟨b, 0, none⟩)
/-- A row of code points, wherever it lies. -/
def RowV (w : World) (v : Value) (l : List Int) : Prop := ∃ A c, v = .slice A l.length c ∧ l.length ≤ c ∧ Kd.C (Kd.int .i32) w A l.length l ∧ (0 < l.length → ∃ ad cs fz, A = some ad ∧ w.heap[ad.block]? = some (.cells cs 21 fz))
theorem RowV.below {w w1 : World} {v : Value} {l : List Int} (h : RowV w v l) (hb : Below w.heap.size w w1) : RowV w1 v l := by
  obtain ⟨A, c, rfl, hc, hC, ht⟩ := h
  refine ⟨A, c, rfl, hc, Kd.C_below hC hb, fun hn => ?_⟩
  obtain ⟨ad, cs, fz, e, hh⟩ := ht hn
  exact ⟨ad, cs, fz, e, (hb.block _ (lt_of_block hh)).trans hh⟩
/-- A word with a blank behind. -/
def nmOf (s : ByteArray) : List Int := ints s ++ [32]
theorem ints_blank (s : ByteArray) : ints (s ++ ⟨#[32]⟩) = nmOf s := by rw [ints_append]; rfl
theorem asc_blank {s : ByteArray} (h : Asc s) : Asc (s ++ ⟨#[32]⟩) := by
  intro b hb
  have e : (s ++ ⟨#[32]⟩ : ByteArray).data.toList = s.data.toList ++ [32] := by simp
  rw [e] at hb
  rcases List.mem_append.1 hb with h1 | h1
  · exact h b h1
  · simp at h1; subst h1; decide
theorem nmOf_length (s : ByteArray) : (nmOf s).length = s.size + 1 := by rw [nmOf, List.length_append, ints_length]; rfl
/-- The function value that tells a row of words. -/
abbrev CBV (q : Nat) : Value := .func (.func 55) #[] #[PtS q]
/-- The words of a completer: its own one, or what its function tells. -/
def NamesAt (w : World) (dyn : Bool) (names : List (List Int)) (nv cb : Value) : Prop :=
  (dyn = false ∧ ∃ nA nc nm, nv = .slice nA nm.length nc ∧ nm.length ≤ nc ∧ names = [nm] ∧ RowV w (.slice nA nm.length nc) nm ∧ nm.length ≤ 1000000 ∧ (∀ x ∈ nm, 0 ≤ x ∧ x < 128)) ∨
  (dyn = true ∧ ∃ q Q qc strs, cb = CBV q ∧ One w q (.slice Q strs.length qc) 22 ∧ Kd.C Kd.string w Q strs.length strs ∧ strs.length ≤ qc ∧ 0 < strs.length ∧ strs.length ≤ 1000000 ∧ (∀ s ∈ strs, Asc s ∧ s.size ≤ 100000) ∧ names = strs.map nmOf)
theorem NamesAt.below {w w1 : World} {dyn : Bool} {names : List (List Int)} {nv cb : Value} (h : NamesAt w dyn names nv cb) (hb : Below w.heap.size w w1) : NamesAt w1 dyn names nv cb := by
  rcases h with ⟨h0, nA, nc, nm, h1, h2, h3, h4, h5⟩ | ⟨h0, q, Q, qc, strs, h1, h2, h3, h4⟩
  · exact .inl ⟨h0, nA, nc, nm, h1, h2, h3, h4.below hb, h5⟩
  · exact .inr ⟨h0, q, Q, qc, strs, h1, (hb.block q (lt_of_block h2)).trans h2, Kd.C_below h3 hb, h4⟩
theorem NamesAt.len {w : World} {dyn : Bool} {names : List (List Int)} {nv cb : Value} (h : NamesAt w dyn names nv cb) : names.length ≤ 1000000 := by
  rcases h with ⟨h0, nA, nc, nm, h1, h2, rfl, h4, h5⟩ | ⟨h0, q, Q, qc, strs, h1, h2, h3, h4, h5, h6, h7, rfl⟩
  · simp
  · simpa using h6
/-- A completer in memory, so many levels deep at most. -/
def TrAt : Nat → World → Nat → Tr → Prop
  | 0, _, _, _ => False
  | d + 1, w, m, t => ∃ nv cb kA kc, Rec w m [nv, .bool t.dyn, cb, .slice kA t.kids.length kc] 109 ∧ t.kids.length ≤ kc ∧ t.kids.length ≤ 1000000 ∧ NamesAt w t.dyn t.names nv cb ∧
      ∀ j k, t.kids[j]? = some k → ∃ g p, kA = some ⟨g, 0, none⟩ ∧ w.cell? ⟨g, j, none⟩ = some (.iface 80 (PtS p)) ∧ TrAt d w p k
theorem cell_lt {w : World} {a : Addr} {v : Value} (h : w.cell? a = some v) : a.block < w.heap.size := block_lt h
theorem TrAt.below : ∀ {d : Nat} {w w1 : World} {m : Nat} {t : Tr}, TrAt d w m t → Below w.heap.size w w1 → TrAt d w1 m t
  | 0, _, _, _, _, h, _ => h.elim
  | d + 1, w, w1, m, t, h, hb => by
    obtain ⟨nv, cb, kA, kc, h0, h2, h3, h4, h9⟩ := h
    refine ⟨nv, cb, kA, kc, h0.stays hb, h2, h3, h4.below hb, fun j k hj => ?_⟩
    obtain ⟨g, p, e, hc, ht⟩ := h9 j k hj
    exact ⟨g, p, e, (hb.cell (p := ⟨g, j, none⟩) (by have := cell_lt hc; exact this)).trans hc, ht.below hb⟩
theorem GetChildren_calls (m : Nat) (nv cb : Value) (b : Bool) (A : Option Addr) (n c : Nat) (w : World) (h : Rec w m [nv, .bool b, cb, .slice A n c] 109) : Calls Tryd.prog 156 #[PtS m] w fun e w' => e = .returned (.slice A n c) ∧ w' = w := by
  have h3 := h.cell 3 rfl
  clear h
  go_enter Tryd.func156, Tryd.ntmps156
  go_wp2
  go_ret
  exact ⟨rfl, rfl⟩
theorem GetName_calls (m : Nat) (cb kv : Value) (b : Bool) (A : Option Addr) (n c : Nat) (w : World) (h : Rec w m [.slice A n c, .bool b, cb, kv] 109) : Calls Tryd.prog 158 #[PtS m] w fun e w' => e = .returned (.slice A n c) ∧ w' = w := by
  have h3 := h.cell 0 rfl
  clear h
  go_enter Tryd.func158, Tryd.ntmps158
  go_wp2
  go_ret
  exact ⟨rfl, rfl⟩
theorem IsDynamic_calls (m : Nat) (nv cb kv : Value) (b : Bool) (w : World) (h : Rec w m [nv, .bool b, cb, kv] 109) : Calls Tryd.prog 159 #[PtS m] w fun e w' => e = .returned (.bool b) ∧ w' = w := by
  have h3 := h.cell 1 rfl
  clear h
  go_enter Tryd.func159, Tryd.ntmps159
  go_wp2
  go_ret
  exact ⟨rfl, rfl⟩
theorem pre_tells (l1 l2 : List Int) (h1 : l1.length ≤ 1000000000) (h2 : l2.length ≤ 1000000000) (hl : l2.length ≤ l1.length) : Ev (fun k => PHasPrefix.readline_Runes_HasPrefix.f k l1 l2) (decide (l1.take l2.length = l2)) := by
  unfold PHasPrefix.readline_Runes_HasPrefix.f
  refine ev_ifn (by omega) (ev_ifp (by omega) (ev_ifp (by omega) (ev_bind ?_ (Ev.now _))))
  unfold PHasPrefix.readline_Runes_Equal.f
  have hlt : (l1.take ((l2.length : Int)).toNat).length = l2.length := by rw [List.length_take]; omega
  rw [Int.toNat_natCast] at hlt ⊢
  obtain ⟨a, ha⟩ : ∃ a, a = l1.take l2.length := ⟨_, rfl⟩
  rw [← ha] at hlt ⊢
  refine ev_ifp (by omega) ?_
  suffices h : ∀ d i : Nat, i + d = l2.length → a.take i = l2.take i → Ev (fun k => PHasPrefix.readline_Runes_Equal.l0 k a l2 (i : Int)) (decide (a = l2)) by
    exact h l2.length 0 (by omega) (by simp)
  intro d
  induction d with
  | zero =>
    intro i hi he
    rw [List.take_of_length_le (by omega), List.take_of_length_le (by omega)] at he
    refine Ev.step (fun k => by rw [PHasPrefix.readline_Runes_Equal.l0]) ?_
    exact ev_ifn (by omega) (ev_some (by simp [he]))
  | succ d ih =>
    intro i hi he
    have hi1 : i < a.length := by omega
    have hi2 : i < l2.length := by omega
    have r1 := rd_nat a i hi1
    have r2 := rd_nat l2 i hi2
    refine Ev.step (fun k => by rw [PHasPrefix.readline_Runes_Equal.l0, r1, r2, w64 (x := (i : Int) + 1) (by omega) (by omega)]) ?_
    refine ev_ifp (by omega) (ev_ifp (by omega) (ev_ifp (by omega) ?_))
    by_cases hx : a[i] = l2[i]
    · refine ev_ifp hx ?_
      have := ih (i + 1) (by omega) (by rw [List.take_succ_eq_append_getElem hi1, List.take_succ_eq_append_getElem hi2, he, hx])
      rwa [show ((i + 1 : Nat) : Int) = (i : Int) + 1 by omega] at this
    · refine ev_ifn hx (ev_some ?_)
      have hne : ¬ a = l2 := fun e => hx (by subst e; rfl)
      simp [hne]
theorem HasPrefix_calls (A1 A2 : Option Addr) (c1 c2 : Nat) (l1 l2 : List Int) (w : World) (hr1 : Kd.C (Kd.int .i32) w A1 l1.length l1) (hc1 : l1.length ≤ c1) (hr2 : Kd.C (Kd.int .i32) w A2 l2.length l2) (hc2 : l2.length ≤ c2) (h1 : l1.length ≤ 1000000000) (h2 : l2.length ≤ 1000000000) (hl : l2.length ≤ l1.length) :
    Calls Tryd.prog 41 #[.agg #[], .slice A1 l1.length c1, .slice A2 l2.length c2] w fun e w' => e = .returned (.bool (decide (l1.take l2.length = l2))) ∧ Below w.heap.size w w' := by
  obtain ⟨k, hk⟩ := (pre_tells l1 l2 h1 h2 hl).rounds
  exact PHasPrefix.readline_Runes_HasPrefix.calls k A1 c1 l1 A2 c2 l2 _ w hr1 hc1 hr2 hc2 hk
set_option maxRecDepth 100000 in
set_option maxHeartbeats 4000000 in
theorem Trim_calls (l : List Int) (A : Option Addr) (c : Nat) (w : World) (hr : Kd.C (Kd.int .i32) w A l.length l) (hc : l.length ≤ c) (hl : l.length ≤ 1000000000) (ha : ∀ x ∈ l, 0 ≤ x ∧ x < 128) :
    Calls Tryd.prog 98 #[.agg #[], .slice A l.length c] w fun e w' => ∃ A' c', e = .returned (.slice A' (l.dropWhile isSp).length c') ∧ (l.dropWhile isSp).length ≤ c' ∧ Kd.C (Kd.int .i32) w A' (l.dropWhile isSp).length (l.dropWhile isSp) ∧ Below w.heap.size w w' := by
  have HR := Lib.hid (And.intro hr (And.intro hc (And.intro hl ha)))
  have hb0 : Below w.heap.size w (w.alloc (.cells #[] 62)) := (Below.refl _ _).alloc (Nat.le_refl _) _
  have HB0 := Lib.hid hb0
  clear hr hc ha hb0
  go_enter Tryd.func98, Tryd.ntmps98
  go_wp2_with fail
  obtain ⟨i011, hi011, _, hsz11, _⟩ := info_parts info21
  go_loopw [5, 12] (fun v5 v12 wr => ∃ i : Nat, i ≤ l.length ∧ v5 = .int .i64 l.length ∧ v12 = .int .i64 i ∧ wr = w.alloc (.cells #[] 62) ∧ l.dropWhile isSp = (l.drop i).dropWhile isSp) (fun _ v12 _ => l.length - (intOf v12).toNat)
  case atStart => exact ⟨0, Nat.zero_le _, rfl, rfl, rfl, by simp⟩
  case round =>
    obtain ⟨i, hi, rfl, rfl, rfl, hdr⟩ := hrel
    have HD := Lib.hid hdr
    clear hdr
    obtain ⟨A', hcut, hrd⟩ := print_cut_of (P := Tryd.prog) (Value.int .i32) (0 : Int) 27 21 .i64 Tryd.underlying27 hi011 hsz11 A l.length c i hi
    have hR' := Kd.C_of_reads (h1 := fun _ => rfl) (hrd _ l HR.out.2.1 (Kd.reads_of_C HR.out.1))
    have HR' := Lib.hid hR'
    clear hR' hrd
    have hlen : (l.drop i).length = l.length - i := List.length_drop
    by_cases hlt : i < l.length
    · obtain ⟨ad, hA, q0⟩ := Kd.at_int (Kd.C_below HR.out.1 HB0.out) (i : Int) (by omega) (by omega)
      subst hA
      have hrd : rd l (i : Int) = l[i] := rd_nat l i hlt
      rw [hrd, Int.toNat_natCast] at q0
      have hD2 := List.drop_eq_getElem_cons hlt
      have hx := HR.out.2.2.2 l[i] (List.getElem_mem hlt)
      clear hrd
      obtain ⟨x, hxx⟩ : ∃ x, x = l[i] := ⟨_, rfl⟩
      rw [← hxx] at q0 hx hD2
      clear hxx
      have HD2 := Lib.hid hD2
      clear hD2
      go_wp2_with fail
      refine (Go.Proofs.Tryd.unicode_IsSpace x _ (by omega) (by omega)).mono ?_
      rintro e w1 ⟨rfl, rfl⟩
      by_cases hs : Lib.isSpaceL x = true
      · go_wp2_with fail
        go_roundw
        case rel =>
          refine ⟨i + 1, by omega, by first | rfl | trivial, by go_num, by first | rfl | trivial, ?_⟩
          rw [HD.out, HD2.out, List.dropWhile_cons_of_pos (p := isSp) hs]
        case measure => simp only [intOf]; omega
      · go_wp2_with fail
        go_ret
        have e1 : l.dropWhile isSp = l.drop i := by rw [HD.out, HD2.out, List.dropWhile_cons_of_neg (p := isSp) hs]
        rw [e1, hlen]
        exact ⟨A', _, rfl, by have := HR.out.2.1; omega, HR'.out, HB0.out⟩
    · obtain rfl : i = l.length := by omega
      rw [Nat.sub_self] at hcut
      have e1 : l.dropWhile isSp = l.drop l.length := by rw [HD.out]; simp
      have e2 : (l.drop l.length).length = 0 := by simp
      go_wp2_with fail
      go_ret
      rw [e1, e2]
      refine ⟨A', _, rfl, Nat.zero_le _, ?_, HB0.out⟩
      have := HR'.out
      rwa [Nat.sub_self] at this
end Go.Proofs.YthbdaoapjnofkaaDoor.H
