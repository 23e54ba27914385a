/- Taking a word out, and going back a word: the pure statement behind the law FnWordOut; no condition. -/
import Derived.Test.YtkfmjkiefckgoaaGreatDoorPFnWordOutx3
namespace Go.Proofs.YtkfmjkiefckgoaaGreatDoor.Pure
open Go.RowKit Go.Proofs.YtkfmjkiefckgoaaGreatDoor.R Go.Proofs.YtkfmjkiefckgoaaGreatDoor.X Go.Proofs.YtkfmjkiefckgoaaGreatDoor.PFnWordOut Go.Proofs.YtkfmjkiefckgoaaGreatDoor.H Go.Proofs.YtkfmjkiefckgoaaGreatDoorW.PrintWords Go.Proofs.YtkfmjkiefckgoaaGreatDoorW.PrintLast
set_option linter.unusedVariables false
theorem ascii_loop (s : ByteArray) (hs : s.size ≤ 4611686018427387904) (d : Nat) : ∀ i : Nat, i + d = s.size →
    ∃ b, Ev (fun k => spec_ASCII.l0 k s (i : Int)) b ∧ (b = true → s.size ≤ 1000 ∧ ∀ j (hj : j < s.size), i ≤ j → (s.data.toList[j]'(by rw [dlen]; exact hj)).toNat < 128) := by
  induction d with
  | zero =>
    intro i hi
    exact ⟨decide ((s.size : Int) ≤ 1000), Ev.step (fun k => by rw [spec_ASCII.l0]) (ev_ifn (by omega) (Ev.now _)), fun h => ⟨by have := of_decide_eq_true h; omega, fun j hj h => by omega⟩⟩
  | succ d ih =>
    intro i hi
    obtain ⟨b, hb, hq⟩ := ih (i + 1) (by omega)
    rw [show ((i + 1 : Nat) : Int) = (i : Int) + 1 from by omega] at hb
    have e1 := bt_nat s i (by omega)
    by_cases h : (128 : Int) ≤ bt s (i : Int)
    · exact ⟨false, Ev.step (fun k => by rw [spec_ASCII.l0]) (ev_ifp (by omega) (ev_ifp (by omega) (ev_ifp h (Ev.now _)))), fun h => by cases h⟩
    · refine ⟨b, Ev.step (fun k => by rw [spec_ASCII.l0, w64 (x := (i : Int) + 1) (by omega) (by omega)]) (ev_ifp (by omega) (ev_ifp (by omega) (ev_ifn h hb))), fun hbt => ⟨(hq hbt).1, fun j hj hij => ?_⟩⟩
      rcases Nat.eq_or_lt_of_le hij with rfl | hlt
      · omega
      · exact (hq hbt).2 j hj hlt
theorem right_tells (s : ByteArray) (a : Int) (hs : s.size ≤ 4611686018427387904) : ∃ b, Ev (fun k => spec_DocRight.f k s a) b ∧ (b = true → s.size ≤ 1000 ∧ Asc s ∧ 0 ≤ a ∧ a ≤ s.size) := by
  obtain ⟨b, hb, hq⟩ := ascii_loop s hs s.size 0 (by omega)
  unfold spec_DocRight.f spec_ASCII.f
  cases b with
  | false => exact ⟨false, ev_bind hb (ev_ifn (by simp) (Ev.now _)), fun h => by cases h⟩
  | true =>
    have hasc : Asc s := fun x hx => by
      obtain ⟨j, hj, rfl⟩ := List.getElem_of_mem hx
      exact (hq rfl).2 j (by rw [← dlen]; exact hj) (Nat.zero_le _)
    by_cases h0 : a ≥ 0
    · refine ⟨decide (a ≤ (s.size : Int)), ev_bind hb (ev_ifp rfl (ev_ifp h0 (Ev.now _))), fun h => ⟨(hq rfl).1, hasc, h0, of_decide_eq_true h⟩⟩
    · exact ⟨false, ev_bind hb (ev_ifp rfl (ev_ifn h0 (Ev.now _))), fun h => by cases h⟩
theorem one7_tells {s : ByteArray} {n : Nat} (hok : OkT s n) {op nn : Int} {text : ByteArray} {flag : Bool} {r : ES × ByteArray} (h : estep ⟨s, n, -1⟩ ⟨op, nn, text, flag⟩ = some r) : laws_one7.f s (n : Int) op nn text flag = some (r.1.t, (r.1.p : Int), r.2, true) := by
  unfold laws_one7.f impl_EditedFrom.f
  rw [if_pos ⟨by omega, by rw [Int.toNat_natCast]; exact hok, by simp⟩]
  have e : erun ⟨s, (n : Int).toNat, -1⟩ ([(⟨op, nn, text, flag⟩ : S31)].map ed_of) = some (r.1, [r.2]) := by
    rw [Int.toNat_natCast]
    simp only [List.map_cons, List.map_nil, ed_of, erun, h, Option.bind_some]
  rw [e]
  simp only [Option.bind_some, if_true, List.length_cons, List.length_nil]
  rfl
theorem blank_tells (c : Int) : Ev (fun k => spec_hasByte.f k (⟨#[32]⟩ : ByteArray) c) (decide (c = 32)) := by
  have hb : bt (⟨#[32]⟩ : ByteArray) 0 = 32 := by decide
  have hz : ((⟨#[32]⟩ : ByteArray).size : Int) = 1 := rfl
  unfold spec_hasByte.f
  refine Ev.step (fun k => by rw [spec_hasByte.l0, hb, hz, w64 (x := (0 : Int) + 1) (by omega) (by omega)]) (ev_ifp (by omega) (ev_ifp (by omega) ?_))
  by_cases h : c = 32
  · rw [decide_eq_true h]; exact ev_ifp h.symm (ev_some rfl)
  · rw [decide_eq_false h]
    refine ev_ifn (fun h' => h h'.symm) (Ev.step (fun k => by rw [spec_hasByte.l0, hz]) (ev_ifn (by omega) (Ev.now _)))
theorem last_tells (s : ByteArray) (flag : Bool) (hs : s.size ≤ 4611686018427387904) : Ev (fun k => spec_last.f k s (⟨#[32]⟩ : ByteArray) flag) (lastI (sp s flag) s.size) := by
  unfold spec_last.f
  rw [w64 (x := (s.size : Int) - 1) (by omega) (by omega)]
  suffices h : ∀ n : Nat, n ≤ s.size → Ev (fun k => spec_last.l0 k s (⟨#[32]⟩ : ByteArray) flag ((n : Int) - 1)) (lastI (sp s flag) n) from h s.size (Nat.le_refl _)
  intro n
  induction n with
  | zero => intro _; exact Ev.step (fun k => by rw [spec_last.l0]) (ev_ifn (by omega) (ev_some (r := (-1 : Int)) rfl))
  | succ n ih =>
    intro hn
    rw [show ((n + 1 : Nat) : Int) - 1 = (n : Int) from by omega]
    refine Ev.step (fun k => by rw [spec_last.l0, w64 (x := (n : Int) - 1) (by omega) (by omega)]) (ev_ifp (by omega) (ev_ifp (by omega) (ev_ifp (by omega) ?_)))
    refine ev_bind (blank_tells _) ?_
    unfold lastI sp
    by_cases h : (decide (bt s (n : Int) = 32) != flag) = true
    · rw [if_pos h]; exact ev_ifp h (Ev.now _)
    · rw [if_neg h]; exact ev_ifn h (ih (by omega))
theorem start_tells (s : ByteArray) (hs : s.size ≤ 5000) : Ev (fun k => spec_Start.f k s (⟨#[32]⟩ : ByteArray) true) (startSp s) := by
  have l1 := last_tells s true (by omega)
  have hlb := start_bounds s hs
  unfold spec_Start.f
  refine ev_ifp rfl (ev_bind l1 ?_)
  unfold startSp at hlb ⊢
  by_cases h : lastI (sp s true) s.size < 0
  · rw [if_pos h]; exact ev_ifp h (Ev.now _)
  · rw [if_neg h] at hlb ⊢
    have hlt := (lastI_le (sp s true) s.size).2
    refine ev_ifn h (ev_ifp (by omega) (ev_ifp (by omega) ?_))
    have hz := extract_len s 0 (lastI (sp s true) s.size).toNat (by omega)
    refine ev_bind (last_tells _ false (by omega)) (ev_some ?_)
    unfold startOf at hlb ⊢
    have hl2 := lastI_le (sp (s.extract 0 (lastI (sp s true) s.size).toNat) false) (s.extract 0 (lastI (sp s true) s.size).toNat).size
    rw [w64 (by omega) (by omega)]
theorem FnWordOut : laws_FnWordOut.Pure := by
  intro s a hs ha
  refine Ev.rounds (r := true) ?_
  unfold laws_FnWordOut.f
  have e0 : ∃ t, laws_zzFits2.f s a = some t ∧ (t = true → s.size ≤ 2147483647) := by
    unfold laws_zzFits2.f
    by_cases h : (s.size : Int) > 2147483647
    · exact ⟨false, if_pos h, by simp⟩
    · exact ⟨true, if_neg h, fun _ => by omega⟩
  obtain ⟨t, ht, hq⟩ := e0
  rw [ht]
  simp only [Option.bind_some]
  cases t with
  | false => exact ev_ifn (by simp) (Ev.now _)
  | true =>
    refine ev_ifp rfl ?_
    have hz := hq rfl
    obtain ⟨b, hb, q⟩ := right_tells s a (by omega)
    refine ev_bind hb ?_
    cases b with
    | false => exact ev_ifn (by simp) (Ev.now _)
    | true =>
      obtain ⟨g1, hasc, g2, g3⟩ := q rfl
      obtain ⟨n, rfl⟩ := Int.eq_ofNat_of_zero_le g2
      obtain ⟨A, h, B, P, Q, L, S, hE⟩ := spot_ s n (by omega) hasc (by omega)
      obtain ⟨U, V, hU, hV, eA⟩ := S.around_tells hE
      have hok : OkT s n := ⟨by omega, hasc, by omega⟩
      have hp := places_le hok
      obtain ⟨w1, w2⟩ := wordB_is hok
      have hP : P = s.extract 0 n := S.P_is
      have hPz := extract_len s 0 n (by omega)
      have hE0 : Asc (⟨#[]⟩ : ByteArray) := by intro b hb; simp at hb
      have hlen : (P.extract (startSp P).toNat P.size).size = n - wordB s n := by
        rw [hP, w1, Int.toNat_natCast, extract_len _ _ _ (Nat.le_refl _)]; omega
      have e15 : estep ⟨s, n, -1⟩ ⟨15, 0, ⟨#[]⟩, false⟩ = some (⟨s.extract 0 (wordB s n) ++ s.extract n s.size, wordB s n, -1⟩, ⟨#[]⟩) := by
        unfold estep; rw [if_pos ⟨hok, by decide, by decide, by decide, hE0⟩]; rfl
      have e7 : estep ⟨s, n, -1⟩ ⟨7, ((n - wordB s n : Nat) : Int), ⟨#[]⟩, false⟩ = some (⟨s.extract 0 (wordB s n) ++ s.extract n s.size, wordB s n, -1⟩, s.extract (wordB s n) n) := by
        unfold estep; rw [if_pos ⟨hok, by show 0 ≤ ((n - wordB s n : Nat) : Int); omega, by show ((n - wordB s n : Nat) : Int) ≤ 1000000000; omega, by show (0 : Nat) ≤ 5000; omega, hE0⟩]
        show some ((⟨s.extract 0 (n - ((n - wordB s n : Nat) : Int).toNat) ++ s.extract n s.size, n - ((n - wordB s n : Nat) : Int).toNat, -1⟩ : ES), s.extract (n - ((n - wordB s n : Nat) : Int).toNat) n) = _
        rw [Int.toNat_natCast, show n - (n - wordB s n) = wordB s n by omega]
      have e20 : estep ⟨s, n, -1⟩ ⟨20, 0, ⟨#[]⟩, false⟩ = some (⟨s, n - min (n - wordB s n) (colB s n), -1⟩, ⟨#[]⟩) := by
        unfold estep; rw [if_pos ⟨hok, by decide, by decide, by decide, hE0⟩]; rfl
      have e3 : estep ⟨s, n, -1⟩ ⟨3, ((n - wordB s n : Nat) : Int), ⟨#[]⟩, false⟩ = some (⟨s, n - min (n - wordB s n) (colB s n), -1⟩, ⟨#[]⟩) := by
        unfold estep; rw [if_pos ⟨hok, by show 0 ≤ ((n - wordB s n : Nat) : Int); omega, by show ((n - wordB s n : Nat) : Int) ≤ 1000000000; omega, by show (0 : Nat) ≤ 5000; omega, hE0⟩]
        rfl
      have hwz := extract_len s (wordB s n) n (by omega)
      refine ev_ifp rfl (ev_bind eA ?_)
      simp only [hlen]
      refine ev_bind (ev_const (one7_tells hok e15)) (ev_ifp rfl ?_)
      refine ev_bind (ev_const (one7_tells hok e7)) (ev_ifp rfl ?_)
      refine ev_bind (ev_const (one7_tells hok e20)) (ev_ifp rfl ?_)
      refine ev_bind (ev_const (one7_tells hok e3)) (ev_ifp rfl ?_)
      refine ev_ifp (by simp) (ev_ifp (by simp) (ev_ifp (by simp only; omega) (ev_ifp (by omega) (ev_ifp (by omega) ?_))))
      rw [Int.toNat_natCast]
      refine ev_bind (start_tells _ (by omega)) (ev_some ?_)
      rw [w1, hPz, w64 (by omega) (by omega)]
      exact beq_iff_eq.mpr (by omega)
end Go.Proofs.YtkfmjkiefckgoaaGreatDoor.Pure
