/- The rows of a text that begins in a column; one behind the other they are the text: the pure statement behind the law FnSplitRows; no condition. -/
import Derived.Test.YthbdaoapjnofkaaDoorQPFnSplitRowsx2
import Derived.Test.YthbdaoapjnofkaaDoorQXPure
namespace Go.Proofs.YthbdaoapjnofkaaDoor.Pure
open Go.RowKit Go.Proofs.YthbdaoapjnofkaaDoor.R Go.Proofs.YthbdaoapjnofkaaDoor.X Go.Proofs.YthbdaoapjnofkaaDoor.H Go.Proofs.YthbdaoapjnofkaaDoor.PFnSplitRows Go.Proofs.YthbdaoapjnofkaaDoorW.PrintWords Go.Proofs.YthbdaoapjnofkaaDoorW.PrintLast
set_option linter.unusedVariables false
def mk (l : List UInt8) : ByteArray := ⟨l.toArray⟩
theorem mk_data (l : List UInt8) : (mk l).data.toList = l := by simp [mk]
theorem mk_append (a b : List UInt8) : mk a ++ mk b = mk (a ++ b) := str_ext (by simp [mk])
theorem mk_size (l : List UInt8) : (mk l).size = l.length := by rw [← dlen, mk_data]
theorem mk_of (s : ByteArray) : mk s.data.toList = s := str_ext (mk_data _)
theorem ext_one (s : ByteArray) (i : Nat) (h : i < s.data.toList.length) : s.extract i (i + 1) = mk [s.data.toList[i]] := by
  refine str_ext ?_
  rw [Lib.extract_data, mk_data, List.drop_eq_getElem_cons h, show i + 1 - i = 1 by omega]
  rfl
theorem rd_S (L : List ByteArray) (i : Nat) (h : i < L.length) : rdOf ByteArray.empty L (i : Int) = L[i] := by
  unfold rdOf
  rw [Int.toNat_natCast, List.getD_eq_getElem?_getD, List.getElem?_eq_getElem h]
  rfl
theorem plain_tells (s : ByteArray) (hs : s.size ≤ 300) : ∃ b, Ev (fun k => spec_IsPlain.f k s) b ∧ (b = true → ∀ x ∈ ints s, 32 ≤ x ∧ x ≤ 126) := by
  unfold spec_IsPlain.f
  suffices h : ∀ d i : Nat, i + d = s.size → ∃ b, Ev (fun k => spec_IsPlain.l0 k s (s.size : Int) (i : Int)) b ∧ (b = true → ∀ j (hj : j < s.size), i ≤ j → 32 ≤ bt s (j : Int) ∧ bt s (j : Int) ≤ 126) by
    obtain ⟨b, h1, h2⟩ := h s.size 0 (by omega)
    refine ⟨b, h1, fun hb x hx => ?_⟩
    obtain ⟨j, hj, rfl⟩ := List.getElem_of_mem hx
    rw [ints_length] at hj
    have := h2 hb j hj (by omega)
    rwa [bt_ints s j hj] at this
  intro d
  induction d with
  | zero => intro i hi; exact ⟨true, Ev.step (fun k => by rw [spec_IsPlain.l0]) (ev_ifn (by omega) (Ev.now _)), fun _ j hj hij => by omega⟩
  | succ d ih =>
    intro i hi
    obtain ⟨b, h1, h2⟩ := ih (i + 1) (by omega)
    rw [show ((i + 1 : Nat) : Int) = (i : Int) + 1 from by omega] at h1
    by_cases a : bt s (i : Int) < 32
    · exact ⟨false, Ev.step (fun k => by rw [spec_IsPlain.l0]) (ev_ifp (by omega) (ev_ifp (by omega) (ev_ifp (by omega) (ev_ifp a (Ev.now _))))), by simp⟩
    · by_cases c : bt s (i : Int) > 126
      · exact ⟨false, Ev.step (fun k => by rw [spec_IsPlain.l0]) (ev_ifp (by omega) (ev_ifp (by omega) (ev_ifp (by omega) (ev_ifn a (ev_ifp c (Ev.now _)))))), by simp⟩
      · refine ⟨b, Ev.step (fun k => by rw [spec_IsPlain.l0, w64 (x := (i : Int) + 1) (by omega) (by omega)]) (ev_ifp (by omega) (ev_ifp (by omega) (ev_ifp (by omega) (ev_ifn a (ev_ifn c h1))))), fun hb j hj hij => ?_⟩
        rcases Nat.eq_or_lt_of_le hij with rfl | hlt
        · omega
        · exact h2 hb j hj hlt
theorem splitU_flat (w : Int) : ∀ (t : List UInt8) (cur : Int) (buf : List UInt8), (splitU w cur buf t).flatten = buf ++ t
  | [], cur, buf => by simp [splitU]
  | x :: t, cur, buf => by
    unfold splitU
    split
    · rw [List.flatten_cons, splitU_flat w t]; simp
    · rw [splitU_flat w t]; simp
theorem splitU_len (w : Int) : ∀ (t : List UInt8) (cur : Int) (buf : List UInt8), (splitU w cur buf t).length ≤ t.length + 1
  | [], cur, buf => by simp [splitU]
  | x :: t, cur, buf => by
    unfold splitU
    split
    · have := splitU_len w t 0 []; simp only [List.length_cons]; omega
    · have := splitU_len w t (cur + 1) (buf ++ [x]); simp only [List.length_cons]; omega
theorem rows_tells (w : Int) (s : ByteArray) (start : Int) (hs : s.size ≤ 300) (h0 : 0 ≤ start) (h1 : start ≤ 1000) (hw0 : 1 ≤ w) (hw1 : w ≤ 1000) : Ev (fun k => spec_RowsIn.f k start w s) (strs (splitU w start [] s.data.toList)) := by
  unfold spec_RowsIn.f
  have hl := dlen s
  suffices h : ∀ (d i : Nat) (cur : Int) (R : List ByteArray) (buf : List UInt8), i + d = s.size → 0 ≤ cur → cur ≤ 1000 + i → R.length ≤ i → buf.length ≤ i →
      Ev (fun k => spec_RowsIn.l0 k w s (R ++ [mk buf]) cur (s.size : Int) (i : Int)) (R ++ strs (splitU w cur buf (s.data.toList.drop i))) by
    have := h s.size 0 start [] [] (by omega) h0 (by omega) (by simp) (by simp)
    simpa [mk] using this
  intro d
  induction d with
  | zero =>
    intro i cur R buf hi _ _ _ _
    refine Ev.step (fun k => by rw [spec_RowsIn.l0]) (ev_ifn (by omega) (ev_some ?_))
    rw [List.drop_of_length_le (by omega)]; rfl
  | succ d ih =>
    intro i cur R buf hi hc0 hc1 hR hb
    have hlt : i < s.data.toList.length := by omega
    have hlen : ((R ++ [mk buf]).length : Int) = (R.length : Int) + 1 := by simp
    have hrd : rdOf ByteArray.empty (R ++ [mk buf]) (R.length : Int) = mk buf := by rw [rd_S _ _ (by simp)]; simp
    have hext := ext_one s i hlt
    have hset : (R ++ [mk buf]).set R.length (mk buf ++ s.extract i (i + 1)) = R ++ [mk (buf ++ [s.data.toList[i]])] := by
      rw [hext, mk_append]; simp
    have hd := List.drop_eq_getElem_cons hlt
    refine Ev.step (fun k => by rw [spec_RowsIn.l0, hlen, w64 (x := (R.length : Int) + 1 - 1) (by omega) (by omega), show (R.length : Int) + 1 - 1 = (R.length : Int) by omega, hrd, w64 (x := (i : Int) + 1) (by omega) (by omega), show ((i : Int) + 1).toNat = i + 1 by omega, show ((i : Int)).toNat = i by omega, show ((R.length : Int)).toNat = R.length by omega, hset, Option.bind_some, w64 (x := cur + 1) (by omega) (by omega)]) (ev_ifp (by omega) (ev_ifp (by omega) (ev_ifp (by omega) (ev_ifp (by omega) (ev_ifp (by omega) (ev_ifp (by omega) (ev_ifp ?_ ?_)))))))
    · rw [hext, mk_size, mk_size]; simp; omega
    · by_cases hge : cur + 1 ≥ w
      · refine ev_ifp hge (ev_ifp (by simp; omega) ?_)
        have := ih (i + 1) 0 (R ++ [mk (buf ++ [s.data.toList[i]])]) [] (by omega) (by omega) (by omega) (by simp; omega) (by simp)
        rw [hd, splitU, if_pos hge]
        rw [show ((i + 1 : Nat) : Int) = (i : Int) + 1 by omega] at this
        simpa [strs, mk] using this
      · refine ev_ifn hge ?_
        have := ih (i + 1) (cur + 1) R (buf ++ [s.data.toList[i]]) (by omega) (by omega) (by omega) (by omega) (by simp; omega)
        rw [hd, splitU, if_neg hge]
        rw [show ((i + 1 : Nat) : Int) = (i : Int) + 1 by omega] at this
        exact this
theorem same_tells (L : List ByteArray) (hl : L.length ≤ 1000) : Ev (fun k => spec_SameTexts9.f k L L) true := by
  unfold spec_SameTexts9.f
  refine ev_ifp rfl ?_
  suffices h : ∀ d i : Nat, i + d = L.length → Ev (fun k => spec_SameTexts9.l0 k L L (L.length : Int) (i : Int)) true from h L.length 0 (by omega)
  intro d
  induction d with
  | zero => intro i hi; exact Ev.step (fun k => by rw [spec_SameTexts9.l0]) (ev_ifn (by omega) (Ev.now _))
  | succ d ih =>
    intro i hi
    have h := ih (i + 1) (by omega)
    rw [show ((i + 1 : Nat) : Int) = (i : Int) + 1 from by omega] at h
    exact Ev.step (fun k => by rw [spec_SameTexts9.l0, w64 (x := (i : Int) + 1) (by omega) (by omega)]) (ev_ifp (by omega) (ev_ifp (by omega) (ev_ifp (by omega) (ev_ifp (by omega) (ev_ifp rfl h)))))
theorem FnSplitRows : laws_FnSplitRows.Pure := by
  intro start w s _ _ _
  refine Ev.rounds (r := true) ?_
  unfold laws_FnSplitRows.f
  have hj : Ev (fun k => laws_FnSplitRows.j0 k start w s true) true := Ev.step (fun k => by rw [laws_FnSplitRows.j0]) (ev_ifp rfl (Ev.now _))
  by_cases hz : (s.size : Int) > 2147483647
  · exact ev_ifp hz (Ev.now _)
  refine ev_ifn hz ?_
  by_cases h1 : w < 1
  · exact ev_ifp h1 hj
  refine ev_ifn h1 ?_
  by_cases h2 : w > 200
  · exact ev_ifp h2 hj
  refine ev_ifn h2 ?_
  by_cases h3 : start < 0
  · exact ev_ifp h3 hj
  refine ev_ifn h3 ?_
  by_cases h4 : start ≥ w
  · exact ev_ifp h4 hj
  refine ev_ifn h4 ?_
  by_cases h5 : (s.size : Int) > 300
  · exact ev_ifp h5 hj
  refine ev_ifn h5 ?_
  obtain ⟨b, hb, hq⟩ := plain_tells s (by omega)
  refine ev_bind hb ?_
  cases b with
  | false => exact hj
  | true =>
    have hp := hq rfl
    have hl := dlen s
    have hasc : Asc s := by
      intro x hx
      have := hp (x.toNat : Int) (by unfold ints; exact List.mem_map.2 ⟨x, hx, rfl⟩)
      omega
    obtain ⟨L, hL⟩ : ∃ L, L = splitU w start [] s.data.toList := ⟨_, rfl⟩
    have hLl : L.length ≤ 301 := by rw [hL]; have := splitU_len w s.data.toList start []; omega
    have hfl : L.flatten = s.data.toList := by rw [hL, splitU_flat]; rfl
    have himpl : impl_SplitRows.f start w s = some (strs L) := by
      unfold impl_SplitRows.f
      rw [runesOf_asc hasc, if_pos (by rw [ints_length]; omega)]
      unfold readline_SplitByLine.f
      rw [if_pos ⟨by omega, by omega, by omega, by omega, by rw [ints_length]; omega, hp⟩, Option.bind_some]
      have : ((ints s).map fun x => UInt8.ofNat x.toNat) = s.data.toList := by
        unfold ints
        rw [List.map_map]
        refine (List.map_congr_left fun x _ => ?_).trans (List.map_id _)
        simp
      rw [this, hL]
    have hspec := rows_tells w s start (by omega) (by omega) (by omega) (by omega) (by omega)
    rw [← hL] at hspec
    refine Ev.step (fun k => by rw [laws_FnSplitRows.j0, himpl, Option.bind_some]) (ev_ifn (by decide) ?_)
    have hsl : (strs L).length = L.length := by simp [strs]
    suffices h : ∀ d i : Nat, i + d = L.length → Ev (fun k => laws_FnSplitRows.l0 k start w s (strs L) (mk (L.take i).flatten) ((strs L).length : Int) (i : Int)) true by
      have := h L.length 0 (by omega)
      simpa [mk] using this
    intro d
    induction d with
    | zero =>
      intro i hi
      refine Ev.step (fun k => by rw [laws_FnSplitRows.l0]) (ev_ifn (by omega) (ev_bind hspec (ev_bind (same_tells (strs L) (by omega)) (ev_ifp rfl (ev_some ?_)))))
      rw [List.take_of_length_le (by omega), hfl, mk_of]
      simp
    | succ d ih =>
      intro i hi
      have h := ih (i + 1) (by omega)
      have hlt : i < L.length := by omega
      have hrd : rdOf ByteArray.empty (strs L) (i : Int) = mk L[i] := by rw [rd_S _ _ (by omega)]; simp [strs, mk]
      have htk : (L.take (i + 1)).flatten = (L.take i).flatten ++ L[i] := by
        rw [List.take_succ_eq_append_getElem hlt, List.flatten_append]; simp
      have hsz : ((L.take i).flatten ++ L[i]).length ≤ 300 := by
        rw [← htk]
        have e : L.flatten = (L.take (i + 1)).flatten ++ (L.drop (i + 1)).flatten := by rw [← List.flatten_append, List.take_append_drop]
        have := congrArg List.length (e.symm.trans hfl)
        rw [List.length_append] at this
        omega
      rw [List.length_append] at hsz
      rw [htk, ← mk_append, show ((i + 1 : Nat) : Int) = (i : Int) + 1 from by omega] at h
      exact Ev.step (fun k => by rw [laws_FnSplitRows.l0, hrd, w64 (x := (i : Int) + 1) (by omega) (by omega)]) (ev_ifp (by omega) (ev_ifp (by omega) (ev_ifp (by omega) (ev_ifp (by rw [mk_size, mk_size]; omega) h))))
end Go.Proofs.YthbdaoapjnofkaaDoor.Pure
