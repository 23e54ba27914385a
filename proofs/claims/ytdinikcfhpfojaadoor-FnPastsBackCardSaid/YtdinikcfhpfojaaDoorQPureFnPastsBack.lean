/- The pure part of FnPastsBack: texts put in are told back, the last one first, and then forth; no condition. -/
import Derived.Test.YtdinikcfhpfojaaDoorQPFnPastsBackx3
import Derived.Test.YtdinikcfhpfojaaDoorQXPure
namespace Go.Proofs.YtdinikcfhpfojaaDoor.Pure
open Go.RowKit Go.Proofs.YtdinikcfhpfojaaDoor.PFnPastsBack Go.Proofs.YtdinikcfhpfojaaDoorW.PrintWords Go.Proofs.YtdinikcfhpfojaaDoorW.PrintLast Go.Proofs.YtdinikcfhpfojaaDoor.R Go.Proofs.YtdinikcfhpfojaaDoor.X Go.Proofs.YtdinikcfhpfojaaDoor.H
set_option linter.unusedVariables false
set_option linter.unusedSimpArgs false
theorem rdS (L : List ByteArray) (i : Nat) (h : i < L.length) : rdOf ByteArray.empty L (i : Int) = L[i] := by
  unfold rdOf
  rw [Int.toNat_natCast, List.getD_eq_getElem?_getD, List.getElem?_eq_getElem h]; rfl
theorem fits_tells (L : List ByteArray) : ∃ b, Ev (fun k => laws_zzFits1.f k L) b ∧ (b = true → L.length ≤ 2147483647) := by
  unfold laws_zzFits1.f
  by_cases h0 : (L.length : Int) > 2147483647
  · exact ⟨false, ev_ifp h0 (Ev.now _), by simp⟩
  suffices h : ∀ d i : Nat, i + d = L.length → ∃ b, Ev (fun k => laws_zzFits1.l0 k L (L.length : Int) (i : Int)) b by
    obtain ⟨b, hb⟩ := h L.length 0 (by omega)
    exact ⟨b, ev_ifn h0 hb, fun _ => by omega⟩
  intro d
  induction d with
  | zero => intro i hi; exact ⟨true, Ev.step (fun k => by rw [laws_zzFits1.l0]) (ev_ifn (by omega) (Ev.now _))⟩
  | succ d ih =>
    intro i hi
    obtain ⟨b, hb⟩ := ih (i + 1) (by omega)
    rw [show ((i + 1 : Nat) : Int) = (i : Int) + 1 by omega] at hb
    by_cases a : ((rdOf ByteArray.empty L (i : Int)).size : Int) > 2147483647
    · exact ⟨false, Ev.step (fun k => by rw [laws_zzFits1.l0]) (ev_ifp (by omega) (ev_ifp (by omega) (ev_ifp (by omega) (ev_ifp a (Ev.now _)))))⟩
    · exact ⟨b, Ev.step (fun k => by rw [laws_zzFits1.l0, w64 (x := (i : Int) + 1) (by omega) (by omega)]) (ev_ifp (by omega) (ev_ifp (by omega) (ev_ifp (by omega) (ev_ifn a hb))))⟩
theorem plain_tells (s : ByteArray) (hs : s.size ≤ 1000) : ∃ b, Ev (fun k => spec_IsPlain.f k s) b ∧ (b = true → ∀ x ∈ ints s, 32 ≤ x ∧ x ≤ 126) := by
  unfold spec_IsPlain.f
  suffices h : ∀ d i : Nat, i + d = s.size → ∃ b, Ev (fun k => spec_IsPlain.l0 k s (s.size : Int) (i : Int)) b ∧ (b = true → ∀ j (hj : j < s.size), i ≤ j → 32 ≤ bt s (j : Int) ∧ bt s (j : Int) ≤ 126) by
    obtain ⟨b, h1, h2⟩ := h s.size 0 (by omega)
    refine ⟨b, h1, fun hb x hx => ?_⟩
    obtain ⟨j, hj, rfl⟩ := List.getElem_of_mem hx
    rw [ints_length] at hj
    have := h2 hb j hj (by omega)
    rwa [bt_ints s j hj] at this
  intro d
  induction d with
  | zero => intro i hi; exact ⟨true, Ev.step (fun k => by rw [spec_IsPlain.l0]) (ev_ifn (by omega) (Ev.now _)), fun _ j hj hij => by omega⟩
  | succ d ih =>
    intro i hi
    obtain ⟨b, h1, h2⟩ := ih (i + 1) (by omega)
    rw [show ((i + 1 : Nat) : Int) = (i : Int) + 1 from by omega] at h1
    by_cases a : bt s (i : Int) < 32
    · exact ⟨false, Ev.step (fun k => by rw [spec_IsPlain.l0]) (ev_ifp (by omega) (ev_ifp (by omega) (ev_ifp (by omega) (ev_ifp a (Ev.now _))))), by simp⟩
    · by_cases c : bt s (i : Int) > 126
      · exact ⟨false, Ev.step (fun k => by rw [spec_IsPlain.l0]) (ev_ifp (by omega) (ev_ifp (by omega) (ev_ifp (by omega) (ev_ifn a (ev_ifp c (Ev.now _)))))), by simp⟩
      · refine ⟨b, Ev.step (fun k => by rw [spec_IsPlain.l0, w64 (x := (i : Int) + 1) (by omega) (by omega)]) (ev_ifp (by omega) (ev_ifp (by omega) (ev_ifp (by omega) (ev_ifn a (ev_ifn c h1))))), fun hb j hj hij => ?_⟩
        rcases Nat.eq_or_lt_of_le hij with rfl | hlt
        · omega
        · exact h2 hb j hj hlt
/-- A text that the law looks at. -/
def Wd (s : ByteArray) : Prop := 0 < s.size ∧ s.size ≤ 100 ∧ ∀ x ∈ ints s, 32 ≤ x ∧ x ≤ 126
theorem Wd.asc {s : ByteArray} (h : Wd s) : Asc s := fun b hb => by
  have := (h.2.2 (b.toNat : Int) (List.mem_map.2 ⟨b, hb, rfl⟩)).2
  omega
abbrev pN (s : ByteArray) : S50 := ⟨1, s, 0, false⟩
abbrev pP : S50 := ⟨3, ⟨#[]⟩, 0, false⟩
abbrev pX : S50 := ⟨4, ⟨#[]⟩, 0, false⟩
theorem past9_tells (s : ByteArray) : ∃ b, Ev (fun k => laws_past9.f k 1 s 0 false) b ∧ (b = true → s.size ≤ 100 ∧ ∀ x ∈ ints s, 32 ≤ x ∧ x ≤ 126) := by
  unfold laws_past9.f
  by_cases h : (s.size : Int) ≤ 100
  · obtain ⟨b, h1, h2⟩ := plain_tells s (by omega)
    cases b with
    | false => exact ⟨false, ev_ifp (by omega) (ev_ifp (by omega) (ev_ifp h (ev_bind h1 (ev_ifn (by simp) (Ev.now _))))), by simp⟩
    | true => exact ⟨true, ev_ifp (by omega) (ev_ifp (by omega) (ev_ifp h (ev_bind h1 (ev_ifp rfl (ev_ifp (by omega) (ev_some (by simp))))))), fun _ => ⟨by omega, h2 rfl⟩⟩
  · exact ⟨false, ev_ifp (by omega) (ev_ifp (by omega) (ev_ifn h (Ev.now _))), by simp⟩
theorem empty_of {s : ByteArray} (h : ¬ s.toList = ([] : List UInt8)) : 0 < s.size := by
  rcases Nat.eq_zero_or_pos s.size with h0 | h0
  · exfalso
    apply h
    have : s = (⟨#[]⟩ : ByteArray) := str_ext (by have := dlen s; rw [h0] at this; rw [List.length_eq_zero_iff.1 this])
    rw [this]; simp
  · exact h0
theorem toList_iff (a b : ByteArray) : a.toList = b.toList ↔ a = b := by
  constructor
  · intro h
    have h2 : a.data.toList = b.data.toList := by simpa [ByteArray.toList_eq] using h
    exact str_ext h2
  · intro h; rw [h]
/-- What is told going back, and forth. -/
def outP (X : List ByteArray) : Nat → List S56
  | 0 => []
  | j + 1 => ⟨X.getD j ByteArray.empty, 1⟩ :: outP X j
def outN (X : List ByteArray) : Nat → Nat → List S56
  | _, 0 => []
  | a, m + 1 => ⟨X.getD (a + 1) ByteArray.empty, 1⟩ :: outN X (a + 1) m
theorem outP_length (X : List ByteArray) : ∀ j, (outP X j).length = j
  | 0 => rfl
  | j + 1 => by rw [outP, List.length_cons, outP_length X j]
theorem outN_length (X : List ByteArray) : ∀ a m, (outN X a m).length = m
  | _, 0 => rfl
  | a, m + 1 => by rw [outN, List.length_cons, outN_length X (a + 1) m]
theorem outP_at (X : List ByteArray) : ∀ (j i : Nat), i < j → (outP X j)[i]? = some ⟨X.getD (j - 1 - i) ByteArray.empty, 1⟩
  | 0, i, h => by omega
  | j + 1, 0, _ => by rw [outP]; simp
  | j + 1, i + 1, h => by
    rw [outP, List.getElem?_cons_succ, outP_at X j i (by omega)]
    congr 3
    omega
theorem outN_at (X : List ByteArray) : ∀ (m a i : Nat), i < m → (outN X a m)[i]? = some ⟨X.getD (a + 1 + i) ByteArray.empty, 1⟩
  | 0, a, i, h => by omega
  | m + 1, a, 0, _ => by rw [outN]; simp
  | m + 1, a, i + 1, h => by
    rw [outN, List.getElem?_cons_succ, outN_at X m (a + 1) i (by omega)]
    congr 3
    omega
theorem run_cons {lim : Int} {st st2 : St} {p : S50} {r : S56} {l : List S50} {rs : List S56} (h : stepP lim st p = some (st2, r)) (hr : runP lim st2 l = some rs) : runP lim st (p :: l) = some (r :: rs) := by
  rw [runP, h, Option.bind_some, hr]
  rfl
theorem getD_ints (X : List ByteArray) (j : Nat) (h : j < X.length) (hw : ∀ s ∈ X, Wd s) : runesBytes ((X.map ints)[j]'(by simpa using h)) = X.getD j ByteArray.empty := by
  rw [List.getElem_map, runesBytes_ints (hw _ (List.getElem_mem h)).asc, List.getD_eq_getElem?_getD, List.getElem?_eq_getElem h]
  rfl
theorem run_news (X : List ByteArray) (hw : ∀ s ∈ X, Wd s) (hd : ∀ m j (hm : m < j) (hj : j < X.length), X[m] ≠ X[j]) (hn : X.length ≤ 15) (rest : List S50) (rs : List S56) (hr : runP 1000 ⟨X.map ints, X.length⟩ rest = some rs) :
    ∀ d i : Nat, i + d = X.length → runP 1000 ⟨(X.take i).map ints, i⟩ ((X.drop i).map pN ++ rest) = some (List.replicate d ⟨⟨#[]⟩, 0⟩ ++ rs) := by
  intro d
  induction d with
  | zero =>
    intro i hi
    have : i = X.length := by omega
    subst this
    rw [List.drop_length, List.take_length]
    simpa using hr
  | succ d ih =>
    intro i hi
    have hil : i < X.length := by omega
    rw [List.drop_eq_getElem_cons hil, List.map_cons, List.cons_append, List.replicate_succ, List.cons_append]
    refine run_cons (st2 := ⟨(X.take (i + 1)).map ints, i + 1⟩) ?_ (ih (i + 1) (by omega))
    have hx := hw X[i] (List.getElem_mem hil)
    have hlen : ((X.take i).map ints).length = i := by rw [List.length_map, List.length_take]; omega
    unfold stepP pN
    rw [if_pos ⟨hx.asc, by have := hx.2.1; show (X[i]).size ≤ 100000; omega⟩, if_pos rfl, if_pos]
    · congr 2
      show (⟨(X.take i).map ints ++ [ints X[i]], ((X.take i).map ints).length + 1⟩ : St) = _
      rw [hlen, List.take_succ_eq_append_getElem hil, List.map_append]
      rfl
    · refine ⟨by show 0 < (ints X[i]).length; rw [ints_length]; exact hx.1, by show (ints X[i]).length ≤ 100000; rw [ints_length]; have := hx.2.1; omega, by show ((X.take i).map ints).length < 1000; omega, by show (((X.take i).map ints).length : Int) + 2 ≤ 1000; omega, fun hne => ⟨hlen.symm, ?_⟩⟩
      show ((X.take i).map ints).getLast? ≠ some (ints X[i])
      rw [List.getLast?_eq_getElem?, hlen]
      have hi0 : 0 < i := by
        rcases Nat.eq_zero_or_pos i with h0 | h0
        · subst h0; exact absurd rfl hne
        · exact h0
      rw [List.getElem?_map, List.getElem?_take_of_lt (by omega), List.getElem?_eq_getElem (by omega)]
      intro e
      exact hd (i - 1) i (by omega) hil (ints_inj (Option.some.inj e))
theorem asc0 : (∀ b ∈ (⟨#[]⟩ : ByteArray).data.toList, b.toNat < 128) ∧ (⟨#[]⟩ : ByteArray).size ≤ 100000 := ⟨by intro b hb; simp at hb, by decide⟩
theorem run_prevs (X : List ByteArray) (hw : ∀ s ∈ X, Wd s) (rest : List S50) (rs : List S56) (hr : runP 1000 ⟨X.map ints, 0⟩ rest = some rs) : ∀ j, j ≤ X.length → runP 1000 ⟨X.map ints, j⟩ (List.replicate j pP ++ rest) = some (outP X j ++ rs)
  | 0, _ => by simpa [outP] using hr
  | j + 1, h => by
    rw [List.replicate_succ, List.cons_append, outP, List.cons_append]
    refine run_cons (st2 := ⟨X.map ints, j⟩) ?_ (run_prevs X hw rest rs hr j (by omega))
    unfold stepP pP
    rw [if_pos asc0, if_neg (by decide), if_pos rfl, dif_pos ⟨by show 0 < j + 1; omega, by show j + 1 - 1 < (X.map ints).length; rw [List.length_map]; omega⟩]
    have := getD_ints X j (by omega) hw
    congr 3
theorem run_nexts (X : List ByteArray) (hw : ∀ s ∈ X, Wd s) : ∀ m a, a + m < X.length → runP 1000 ⟨X.map ints, a⟩ (List.replicate m pX) = some (outN X a m)
  | 0, _, _ => rfl
  | m + 1, a, h => by
    rw [List.replicate_succ, outN]
    refine run_cons (st2 := ⟨X.map ints, a + 1⟩) ?_ (run_nexts X hw m (a + 1) (by omega))
    unfold stepP pX
    rw [if_pos asc0, if_neg (by decide), if_neg (by decide), if_pos rfl, dif_pos (by show a + 1 < (X.map ints).length; rw [List.length_map]; omega)]
    have := getD_ints X (a + 1) (by omega) hw
    congr 3
def outs (X : List ByteArray) : List S56 := List.replicate X.length ⟨⟨#[]⟩, 0⟩ ++ (outP X X.length ++ outN X 0 (X.length - 1))
theorem run_all (X : List ByteArray) (hw : ∀ s ∈ X, Wd s) (hd : ∀ m j (hm : m < j) (hj : j < X.length), X[m] ≠ X[j]) (hn : X.length ≤ 15) (h0 : 0 < X.length) :
    impl_Pasts.f (X.map pN ++ List.replicate X.length pP ++ List.replicate (X.length - 1) pX) 1000 false = some (outs X, true) := by
  unfold impl_Pasts.f
  rw [if_pos (by simp; omega)]
  have h3 := run_nexts X hw (X.length - 1) 0 (by omega)
  have h2 := run_prevs X hw _ _ h3 X.length (Nat.le_refl _)
  have h1 := run_news X hw hd hn _ _ h2 X.length 0 (by omega)
  have e : X.map pN ++ List.replicate X.length pP ++ List.replicate (X.length - 1) pX = (X.drop 0).map pN ++ (List.replicate X.length pP ++ List.replicate (X.length - 1) pX) := by simp
  rw [e]
  have h1' : runP 1000 ⟨[], 0⟩ ((X.drop 0).map pN ++ (List.replicate X.length pP ++ List.replicate (X.length - 1) pX)) = some (outs X) := h1
  rw [h1']
  rfl
theorem rdT (L : List S56) (i : Nat) (x : S56) (h : L[i]? = some x) : rd_T56 L (i : Int) = x := by
  unfold rd_T56
  rw [Int.toNat_natCast, List.getD_eq_getElem?_getD, h]
  rfl
theorem outs_prev (X : List ByteArray) (i : Nat) (h : i < X.length) : (outs X)[X.length + i]? = some ⟨X[X.length - 1 - i], 1⟩ := by
  unfold outs
  rw [List.getElem?_append_right (by simp), List.length_replicate, Nat.add_sub_cancel_left, List.getElem?_append_left (by rw [outP_length]; exact h), outP_at X X.length i h]
  congr 2
  rw [List.getD_eq_getElem?_getD, List.getElem?_eq_getElem (by omega)]
  rfl
theorem outs_next (X : List ByteArray) (i : Nat) (h0 : 0 < i) (h : i < X.length) : (outs X)[2 * X.length + i - 1]? = some ⟨X[i], 1⟩ := by
  unfold outs
  rw [List.getElem?_append_right (by simp; omega), List.length_replicate, List.getElem?_append_right (by rw [outP_length]; omega), outP_length, show 2 * X.length + i - 1 - X.length - X.length = i - 1 by omega, outN_at X (X.length - 1) 0 (i - 1) (by omega)]
  congr 2
  rw [List.getD_eq_getElem?_getD, show 0 + 1 + (i - 1) = i by omega, List.getElem?_eq_getElem h]
  rfl
theorem outs_length (X : List ByteArray) : (outs X).length = X.length + (X.length + (X.length - 1)) := by
  unfold outs
  rw [List.length_append, List.length_replicate, List.length_append, outP_length, outN_length]
theorem last_true (X : List ByteArray) (hn : X.length ≤ 15) (h0 : 0 < X.length) : ∀ d i : Nat, i + d = X.length → Ev (fun k => laws_FnPastsBack.l4 k X (X.length : Int) (outs X) (X.length : Int) (i : Int)) true := by
  intro d
  have hol := outs_length X
  induction d with
  | zero => intro i hi; exact Ev.step (fun k => by rw [laws_FnPastsBack.l4]) (ev_ifn (by omega) (Ev.now _))
  | succ d ih =>
    intro i hi
    have h2 := ih (i + 1) (by omega)
    rw [show ((i + 1 : Nat) : Int) = (i : Int) + 1 from by omega] at h2
    have e1 : wrap64 ((X.length : Int) + (i : Int)) = ((X.length + i : Nat) : Int) := by rw [w64 (by omega) (by omega)]; omega
    have e2 : wrap64 (wrap64 ((X.length : Int) - 1) - (i : Int)) = ((X.length - 1 - i : Nat) : Int) := by rw [w64 (x := (X.length : Int) - 1) (by omega) (by omega), w64 (by omega) (by omega)]; omega
    have e3 : wrap64 ((i : Int) + 1) = (i : Int) + 1 := w64 (by omega) (by omega)
    have r1 := rdT (outs X) (X.length + i) _ (outs_prev X i (by omega))
    have r2 := rdS X (X.length - 1 - i) (by omega)
    refine Ev.step (fun k => by rw [laws_FnPastsBack.l4, e1, e2, e3, r1, r2]) (ev_ifp (by omega) (ev_ifp (by omega) (ev_ifp (by omega) (ev_ifp (by omega) (ev_ifp (by omega) (ev_ifn (by simp) ?_))))))
    by_cases hi0 : (i : Int) > 0
    · have e4 : wrap64 (wrap64 (wrap64 (2 * (X.length : Int)) + (i : Int)) - 1) = ((2 * X.length + i - 1 : Nat) : Int) := by
        rw [w64 (x := 2 * (X.length : Int)) (by omega) (by omega), w64 (x := 2 * (X.length : Int) + (i : Int)) (by omega) (by omega), w64 (by omega) (by omega)]; omega
      have r3 := rdT (outs X) (2 * X.length + i - 1) _ (outs_next X i (by omega) (by omega))
      have r4 := rdS X i (by omega)
      refine ev_ifp hi0 ?_
      rw [e4, r3, r4]
      exact ev_ifp (by omega) (ev_ifp (by omega) (ev_ifp (by omega) (ev_ifp (by omega) (ev_ifn (by simp) h2))))
    · exact ev_ifn hi0 h2
theorem third_true (X : List ByteArray) (hw : ∀ s ∈ X, Wd s) (hd : ∀ m j (hm : m < j) (hj : j < X.length), X[m] ≠ X[j]) (hn : X.length ≤ 15) (h0 : 0 < X.length) : ∀ d i : Nat, i + d = X.length - 1 →
    Ev (fun k => laws_FnPastsBack.l3 k X (X.map pN ++ List.replicate X.length pP ++ List.replicate i pX) (X.length : Int) (wrap64 ((X.length : Int) - 1)) (i : Int)) true := by
  intro d
  rw [w64 (x := (X.length : Int) - 1) (by omega) (by omega)]
  induction d with
  | zero =>
    intro i hi
    have : i = X.length - 1 := by omega
    subst this
    have hr := run_all X hw hd hn h0
    refine Ev.step (fun k => by rw [laws_FnPastsBack.l3]) (ev_ifn (by omega) (ev_bind (ev_const hr) (ev_ifp rfl ?_)))
    have hne : (((outs X).length : Int) != ((X.map pN ++ List.replicate X.length pP ++ List.replicate (X.length - 1) pX).length : Int)) = false := by
      rw [outs_length]
      simp
    have h9 : Ev (fun k => laws_FnPastsBack.l4 k X (X.length : Int) (outs X) (X.length : Int) 0) true := last_true X hn h0 X.length 0 (by omega)
    show Ev (fun k => laws_FnPastsBack.j5 k X (X.length : Int) (outs X) (((outs X).length : Int) != ((X.map pN ++ List.replicate X.length pP ++ List.replicate (X.length - 1) pX).length : Int))) true
    rw [hne]
    exact Ev.step (fun k => by rw [laws_FnPastsBack.j5]) (ev_ifn (by simp) h9)
  | succ d ih =>
    intro i hi
    have h2 := ih (i + 1) (by omega)
    rw [show ((i + 1 : Nat) : Int) = (i : Int) + 1 from by omega, List.replicate_succ', ← List.append_assoc] at h2
    exact Ev.step (fun k => by rw [laws_FnPastsBack.l3, w64 (x := (i : Int) + 1) (by omega) (by omega)]) (ev_ifp (by omega) (ev_ifp (by simp; omega) h2))
theorem second_true (X : List ByteArray) (hw : ∀ s ∈ X, Wd s) (hd : ∀ m j (hm : m < j) (hj : j < X.length), X[m] ≠ X[j]) (hn : X.length ≤ 15) (h0 : 0 < X.length) : ∀ d i : Nat, i + d = X.length →
    Ev (fun k => laws_FnPastsBack.l2 k X (X.map pN ++ List.replicate i pP) (X.length : Int) (X.length : Int) (i : Int)) true := by
  intro d
  induction d with
  | zero =>
    intro i hi
    have : i = X.length := by omega
    subst this
    have h3 : Ev (fun k => laws_FnPastsBack.l3 k X (X.map pN ++ List.replicate X.length pP) (X.length : Int) (wrap64 ((X.length : Int) - 1)) 0) true := by
      have := third_true X hw hd hn h0 (X.length - 1) 0 (by omega)
      simp only [List.replicate_zero, List.append_nil] at this
      exact this
    exact Ev.step (fun k => by rw [laws_FnPastsBack.l2]) (ev_ifn (by omega) h3)
  | succ d ih =>
    intro i hi
    have h2 := ih (i + 1) (by omega)
    rw [show ((i + 1 : Nat) : Int) = (i : Int) + 1 from by omega, List.replicate_succ', ← List.append_assoc] at h2
    exact Ev.step (fun k => by rw [laws_FnPastsBack.l2, w64 (x := (i : Int) + 1) (by omega) (by omega)]) (ev_ifp (by omega) (ev_ifp (by simp; omega) h2))
theorem rd50 (L : List ByteArray) (i : Nat) (h : i < L.length) : rd_T50 ((L.take (i + 1)).map pN) (i : Int) = pN L[i] := by
  unfold rd_T50
  rw [Int.toNat_natCast, List.getD_eq_getElem?_getD, List.getElem?_map, List.getElem?_take_of_lt (by omega), List.getElem?_eq_getElem h]
  rfl
theorem first_true (X : List ByteArray) (hn : X.length ≤ 15) (h0 : 0 < X.length) : ∀ d i : Nat, i + d = X.length → (∀ j (hj : j < i) (hx : j < X.length), Wd X[j] ∧ ∀ m (hm : m < j), X[m] ≠ X[j]) →
    Ev (fun k => laws_FnPastsBack.l0 k X ((X.take i).map pN) (X.length : Int) (i : Int)) true := by
  intro d
  induction d with
  | zero =>
    intro i hi hg
    have : i = X.length := by omega
    subst this
    rw [List.take_length]
    have hw : ∀ s ∈ X, Wd s := fun s hs => by
      obtain ⟨j, hj, rfl⟩ := List.getElem_of_mem hs
      exact (hg j hj hj).1
    have h2 : Ev (fun k => laws_FnPastsBack.l2 k X (X.map pN) (X.length : Int) (X.length : Int) 0) true := by
      have := second_true X hw (fun m j hm hj => (hg j hj hj).2 m hm) hn h0 X.length 0 (by omega)
      simp only [List.replicate_zero, List.append_nil] at this
      exact this
    exact Ev.step (fun k => by rw [laws_FnPastsBack.l0]) (ev_ifn (by omega) h2)
  | succ d ih =>
    intro i hi hg
    have hil : i < X.length := by omega
    have hr := rdS X i hil
    refine Ev.step (fun k => by rw [laws_FnPastsBack.l0]) (ev_ifp (by omega) ?_)
    have hin : ∀ d2 m : Nat, m + d2 = i → (∀ m' (hm' : m' < m) (hx' : m' < X.length), X[m'] ≠ X[i]) → Ev (fun k => laws_FnPastsBack.l1 k X ((X.take i).map pN) (i : Int) (X.length : Int) (i : Int) (i : Int) (m : Int)) true := by
      intro d2
      induction d2 with
      | zero =>
        intro m hm hne
        have : m = i := by omega
        subst this
        have hacc : (X.take m).map pN ++ [(⟨1, rdOf ByteArray.empty X (m : Int), 0, false⟩ : S50)] = (X.take (m + 1)).map pN := by
          rw [hr, List.take_succ_eq_append_getElem hil, List.map_append]; rfl
        have hlen : ((X.take (m + 1)).map pN).length = m + 1 := by rw [List.length_map, List.length_take]; omega
        refine Ev.step (fun k => by rw [laws_FnPastsBack.l1, hacc, w64 (x := (m : Int) + 1) (by omega) (by omega)]) (ev_ifn (by omega) (ev_ifp (by omega) (ev_ifp (by omega) (ev_ifp (by rw [List.length_map, List.length_take]; omega) (ev_bind (Ev.now _) ?_)))))
        rw [hr]
        by_cases he : (X[m]).toList = ([] : List UInt8)
        · exact ev_ifp he (Ev.now _)
        refine ev_ifn he (ev_ifp (by rw [hlen]; omega) ?_)
        rw [rd50 X m hil]
        obtain ⟨b, h1, h2⟩ := past9_tells X[m]
        refine ev_bind h1 ?_
        cases b with
        | false => exact ev_ifn (by simp) (Ev.now _)
        | true =>
          refine ev_ifp rfl ?_
          have h3 := ih (m + 1) (by omega) (fun j hj hx => by
            rcases Nat.lt_or_ge j m with hlt | hge
            · exact hg j hlt hx
            · obtain rfl : j = m := by omega
              exact ⟨⟨empty_of he, h2 rfl⟩, fun m' hm' => hne m' hm' (by omega)⟩)
          rwa [show ((m + 1 : Nat) : Int) = (m : Int) + 1 from by omega] at h3
      | succ d2 ih2 =>
        intro m hm hne
        have hrm := rdS X m (by omega)
        by_cases he : X[m] = X[i]
        · exact Ev.step (fun k => by rw [laws_FnPastsBack.l1, hr, hrm]) (ev_ifp (by omega) (ev_ifp (by omega) (ev_ifp (by omega) (ev_ifp (by omega) (ev_ifp (by omega) (ev_ifp ((toList_iff _ _).2 he) (Ev.now _)))))))
        · have h3 := ih2 (m + 1) (by omega) (fun m' hm' hx' => by
            rcases Nat.lt_or_ge m' m with hlt | hge
            · exact hne m' hlt hx'
            · obtain rfl : m' = m := by omega
              exact he)
          rw [show ((m + 1 : Nat) : Int) = (m : Int) + 1 from by omega] at h3
          refine Ev.step (fun k => by rw [laws_FnPastsBack.l1]) (ev_ifp (by omega) (ev_ifp (by omega) (ev_ifp (by omega) (ev_ifp (by omega) (ev_ifp (by omega) (ev_ifn (by rw [hr, hrm]; exact fun e => he ((toList_iff _ _).1 e)) ?_))))))
          rw [w64 (x := (m : Int) + 1) (by omega) (by omega)]
          exact h3
    exact hin i 0 (by omega) (fun m' hm' _ => by omega)
theorem FnPastsBack : laws_FnPastsBack.Pure := by
  intro X g0 g1
  suffices h : Ev (fun k => laws_FnPastsBack.f k X) true from h.rounds
  unfold laws_FnPastsBack.f
  have j0t : Ev (fun k => laws_FnPastsBack.j0 k X true) true := Ev.step (fun k => by rw [laws_FnPastsBack.j0]) (ev_ifp rfl (Ev.now _))
  obtain ⟨b0, e0, t0⟩ := fits_tells X
  refine ev_bind e0 ?_
  cases b0 with
  | false => exact ev_ifn (by simp) (Ev.now _)
  | true =>
  refine ev_ifp rfl ?_
  by_cases h0 : (X.length : Int) = 0
  · exact ev_ifp h0 j0t
  refine ev_ifn h0 ?_
  by_cases h1 : (X.length : Int) > 15
  · rw [decide_eq_true h1]; exact j0t
  rw [decide_eq_false h1]
  have h2 : Ev (fun k => laws_FnPastsBack.l0 k X ([] : List S50) (X.length : Int) 0) true := first_true X (by omega) (by omega) X.length 0 (by omega) (fun j hj => by omega)
  exact Ev.step (fun k => by rw [laws_FnPastsBack.j0]) (ev_ifn (by simp) h2)
end Go.Proofs.YtdinikcfhpfojaaDoor.Pure
