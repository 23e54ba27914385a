/- What is taken out ahead of a cursor, or behind it, and inserted there again, is the text as it was: the pure statement behind the law FnTakenBack; no condition. -/
import Derived.Test.YtkfmjkiefckgoaaDoorPFnTakenBackx3
namespace Go.Proofs.YtkfmjkiefckgoaaDoor.Pure
open Go.RowKit Go.Proofs.YtkfmjkiefckgoaaDoor.R Go.Proofs.YtkfmjkiefckgoaaDoor.X Go.Proofs.YtkfmjkiefckgoaaDoor.PFnTakenBack Go.Proofs.YtkfmjkiefckgoaaDoor.H Go.Proofs.YtkfmjkiefckgoaaDoorW.PrintWords Go.Proofs.YtkfmjkiefckgoaaDoorW.PrintLast
set_option linter.unusedVariables false
theorem ascii_loop (s : ByteArray) (hs : s.size ≤ 4611686018427387904) (d : Nat) : ∀ i : Nat, i + d = s.size →
    ∃ b, Ev (fun k => spec_ASCII.l0 k s (i : Int)) b ∧ (b = true → s.size ≤ 1000 ∧ ∀ j (hj : j < s.size), i ≤ j → (s.data.toList[j]'(by rw [dlen]; exact hj)).toNat < 128) := by
  induction d with
  | zero =>
    intro i hi
    exact ⟨decide ((s.size : Int) ≤ 1000), Ev.step (fun k => by rw [spec_ASCII.l0]) (ev_ifn (by omega) (Ev.now _)), fun h => ⟨by have := of_decide_eq_true h; omega, fun j hj h => by omega⟩⟩
  | succ d ih =>
    intro i hi
    obtain ⟨b, hb, hq⟩ := ih (i + 1) (by omega)
    rw [show ((i + 1 : Nat) : Int) = (i : Int) + 1 from by omega] at hb
    have e1 := bt_nat s i (by omega)
    by_cases h : (128 : Int) ≤ bt s (i : Int)
    · exact ⟨false, Ev.step (fun k => by rw [spec_ASCII.l0]) (ev_ifp (by omega) (ev_ifp (by omega) (ev_ifp h (Ev.now _)))), fun h => by cases h⟩
    · refine ⟨b, Ev.step (fun k => by rw [spec_ASCII.l0, w64 (x := (i : Int) + 1) (by omega) (by omega)]) (ev_ifp (by omega) (ev_ifp (by omega) (ev_ifn h hb))), fun hbt => ⟨(hq hbt).1, fun j hj hij => ?_⟩⟩
      rcases Nat.eq_or_lt_of_le hij with rfl | hlt
      · omega
      · exact (hq hbt).2 j hj hlt
theorem right_tells (s : ByteArray) (a : Int) (hs : s.size ≤ 4611686018427387904) : ∃ b, Ev (fun k => spec_DocRight.f k s a) b ∧ (b = true → s.size ≤ 1000 ∧ Asc s ∧ 0 ≤ a ∧ a ≤ s.size) := by
  obtain ⟨b, hb, hq⟩ := ascii_loop s hs s.size 0 (by omega)
  unfold spec_DocRight.f spec_ASCII.f
  cases b with
  | false => exact ⟨false, ev_bind hb (ev_ifn (by simp) (Ev.now _)), fun h => by cases h⟩
  | true =>
    have hasc : Asc s := fun x hx => by
      obtain ⟨j, hj, rfl⟩ := List.getElem_of_mem hx
      exact (hq rfl).2 j (by rw [← dlen]; exact hj) (Nat.zero_le _)
    by_cases h0 : a ≥ 0
    · refine ⟨decide (a ≤ (s.size : Int)), ev_bind hb (ev_ifp rfl (ev_ifp h0 (Ev.now _))), fun h => ⟨(hq rfl).1, hasc, h0, of_decide_eq_true h⟩⟩
    · exact ⟨false, ev_bind hb (ev_ifp rfl (ev_ifn h0 (Ev.now _))), fun h => by cases h⟩
theorem edited_tells {s : ByteArray} {n : Nat} (hok : OkT s n) {op nn : Int} {text : ByteArray} {flag : Bool} {r : ES × ByteArray} (h : estep ⟨s, n, -1⟩ ⟨op, nn, text, flag⟩ = some r) : impl_EditedFrom.f s (n : Int) [(⟨op, nn, text, flag⟩ : S30)] = some (r.1.t, (r.1.p : Int), [r.2], true) := by
  unfold impl_EditedFrom.f
  rw [if_pos ⟨by omega, by rw [Int.toNat_natCast]; exact hok, by simp⟩]
  have e : erun ⟨s, (n : Int).toNat, -1⟩ ([(⟨op, nn, text, flag⟩ : S30)].map ed_of) = some (r.1, [r.2]) := by
    rw [Int.toNat_natCast]
    simp only [List.map_cons, List.map_nil, ed_of, erun, h, Option.bind_some]
  rw [e]
theorem glue3 (s : ByteArray) (a b : Nat) (hab : a ≤ b) (hb : b ≤ s.size) : s.extract 0 a ++ s.extract a b ++ s.extract b s.size = s := ints_inj (by
  have hl := ints_length s
  rw [ints_append, ints_append, ints_extract, ints_extract, ints_extract, List.drop_zero, Nat.sub_zero, List.take_of_length_le (l := (ints s).drop b) (by rw [List.length_drop]; omega)]
  have e : ((ints s).drop a).take (b - a) ++ (ints s).drop b = (ints s).drop a := by
    rw [show (ints s).drop b = ((ints s).drop a).drop (b - a) by rw [List.drop_drop]; congr 1; omega]
    exact List.take_append_drop _ _
  rw [List.append_assoc, e, List.take_append_drop])
/-- A piece that was taken out and is put in again. -/
theorem put_back (s : ByteArray) (a b : Nat) (hab : a ≤ b) (hb : b ≤ s.size) : (s.extract 0 a ++ s.extract b s.size).extract 0 a ++ s.extract a b ++ (s.extract 0 a ++ s.extract b s.size).extract a (s.extract 0 a ++ s.extract b s.size).size = s := by
  have hz := extract_len s 0 a (by omega)
  rw [Nat.sub_zero] at hz
  have h1 := glue_left (s.extract 0 a) (s.extract b s.size)
  have h2 := glue_right (s.extract 0 a) (s.extract b s.size)
  rw [hz] at h1 h2
  rw [h1, h2]
  exact glue3 s a b hab hb
theorem FnTakenBack : laws_FnTakenBack.Pure := by
  intro s a c hs ha hc
  refine Ev.rounds (r := true) ?_
  unfold laws_FnTakenBack.f
  have e0 : ∃ t, laws_zzFits2.f s a = some t ∧ (t = true → s.size ≤ 2147483647) := by
    unfold laws_zzFits2.f
    by_cases h : (s.size : Int) > 2147483647
    · exact ⟨false, if_pos h, by simp⟩
    · exact ⟨true, if_neg h, fun _ => by omega⟩
  have far : ∀ (u : ByteArray) (v : Int), Ev (fun k => laws_FnTakenBack.j0 k c true u v) true := fun u v => Ev.step (fun k => by rw [laws_FnTakenBack.j0]) (ev_ifp rfl (Ev.now _))
  obtain ⟨t, ht, hq⟩ := e0
  rw [ht]
  simp only [Option.bind_some]
  cases t with
  | false => exact ev_ifn (by simp) (Ev.now _)
  | true =>
    refine ev_ifp rfl ?_
    have hz := hq rfl
    obtain ⟨b, hb, q⟩ := right_tells s a (by omega)
    refine ev_bind hb ?_
    cases b with
    | false => exact ev_ifn (by simp) (far _ _)
    | true =>
      obtain ⟨g1, hasc, g2, g3⟩ := q rfl
      obtain ⟨n, rfl⟩ := Int.eq_ofNat_of_zero_le g2
      obtain ⟨A, h, B, P, Q, L, S, hE⟩ := spot_ s n (by omega) hasc (by omega)
      have hok : OkT s n := ⟨by omega, hasc, by omega⟩
      refine ev_ifp rfl ?_
      by_cases c0 : c < 0
      · exact ev_ifp c0 (far _ _)
      refine ev_ifn c0 ?_
      by_cases c1 : c > 2000
      · rw [decide_eq_true c1]; exact far _ _
      rw [decide_eq_false c1]
      have hE0 : Asc (⟨#[]⟩ : ByteArray) := by intro b hb; simp at hb
      obtain ⟨st, hst⟩ : ∃ st : Nat, st = n - c.toNat := ⟨_, rfl⟩
      obtain ⟨k, hk⟩ : ∃ k : Nat, (k : Int) = mn c ((s.size - n : Nat) : Int) := ⟨(mn c ((s.size - n : Nat) : Int)).toNat, by unfold mn; split <;> omega⟩
      have hkn : n + k ≤ s.size := by
        have : (k : Int) ≤ ((s.size - n : Nat) : Int) := by rw [hk]; unfold mn; split <;> omega
        omega
      have e7 : estep ⟨s, n, -1⟩ ⟨7, c, ⟨#[]⟩, false⟩ = some (⟨s.extract 0 st ++ s.extract n s.size, st, -1⟩, s.extract st n) := by
        unfold estep; rw [if_pos ⟨hok, by show 0 ≤ c; omega, by show c ≤ 1000000000; omega, by show (0 : Nat) ≤ 5000; omega, hE0⟩, hst]; rfl
      have e8 : estep ⟨s, n, -1⟩ ⟨8, (k : Int), ⟨#[]⟩, false⟩ = some (⟨s.extract 0 n ++ s.extract (n + k) s.size, n, -1⟩, s.extract n (n + k)) := by
        unfold estep; rw [if_pos ⟨hok, by show 0 ≤ (k : Int); omega, by show (k : Int) ≤ 1000000000; omega, by show (0 : Nat) ≤ 5000; omega, hE0⟩]
        show (if (k : Int).toNat ≤ s.size - n ∨ n = s.size then _ else _) = _
        rw [if_pos (by rw [Int.toNat_natCast]; omega), Int.toNat_natCast]
      have z1 := extract_len s 0 st (by omega)
      have z2 := extract_len s n s.size (Nat.le_refl _)
      have z3 := extract_len s st n (by omega)
      have z4 := extract_len s 0 n (by omega)
      have z5 := extract_len s (n + k) s.size (Nat.le_refl _)
      have z6 := extract_len s n (n + k) (by omega)
      have ok7 : OkT (s.extract 0 st ++ s.extract n s.size) st := ⟨by rw [ByteArray.size_append]; omega, asc_append (asc_extract hasc _ _) (asc_extract hasc _ _), by rw [ByteArray.size_append]; omega⟩
      have ok8 : OkT (s.extract 0 n ++ s.extract (n + k) s.size) n := ⟨by rw [ByteArray.size_append]; omega, asc_append (asc_extract hasc _ _) (asc_extract hasc _ _), by rw [ByteArray.size_append]; omega⟩
      have e1 : estep ⟨s.extract 0 st ++ s.extract n s.size, st, -1⟩ ⟨1, 0, s.extract st n, false⟩ = some (⟨s, n, -1⟩, ⟨#[]⟩) := by
        unfold estep; rw [if_pos ⟨ok7, by simp, by simp, by show (s.extract st n).size ≤ 5000; omega, asc_extract hasc _ _⟩]
        show some ((⟨_, st + (s.extract st n).size, -1⟩ : ES), _) = _
        rw [put_back s st n (by omega) (by omega), show st + (s.extract st n).size = n by omega]
      have e2 : estep ⟨s.extract 0 n ++ s.extract (n + k) s.size, n, -1⟩ ⟨2, 0, s.extract n (n + k), false⟩ = some (⟨s, n, -1⟩, ⟨#[]⟩) := by
        unfold estep; rw [if_pos ⟨ok8, by simp, by simp, by show (s.extract n (n + k)).size ≤ 5000; omega, asc_extract hasc _ _⟩]
        show some ((⟨_, n, -1⟩ : ES), _) = _
        rw [put_back s n (n + k) (by omega) hkn]
      have eA : spec_After.f s (n : Int) = some (s.extract n s.size) := by
        have hr := runesOf_asc hasc
        have hl := ints_length s
        unfold spec_After.f
        rw [if_pos (by rw [hr]; omega)]
        simp only [Option.bind_some]
        rw [if_pos (by omega), if_pos (by rw [hr, hl]; omega), Int.toNat_natCast, S.aft, S.Q_is]
      refine Ev.step (fun k => by rw [laws_FnTakenBack.j0]) (ev_ifn Bool.false_ne_true ?_)
      refine ev_bind (ev_const (edited_tells hok e7)) (ev_ifp rfl ?_)
      refine ev_bind (ev_const eA) ?_
      rw [z2, ← hk]
      refine ev_bind (ev_const (edited_tells hok e8)) (ev_ifp rfl (ev_ifp rfl (ev_ifp rfl (ev_ifp (by simp) ?_))))
      refine ev_bind (ev_const (edited_tells ok7 e1)) (ev_ifp rfl (ev_ifp (by simp) ?_))
      refine ev_bind (ev_const (edited_tells ok8 e2)) (ev_ifp rfl (ev_ifp (by simp) (ev_some (by simp))))
end Go.Proofs.YtkfmjkiefckgoaaDoor.Pure
