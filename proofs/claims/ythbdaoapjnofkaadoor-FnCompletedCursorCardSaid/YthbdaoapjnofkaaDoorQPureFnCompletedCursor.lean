/- The pure part of FnCompletedCursor: what a completer tells depends on what stands ahead of the cursor alone; no condition. -/
import Derived.Test.YthbdaoapjnofkaaDoorQPFnCompletedCursorx2
import Derived.Test.YthbdaoapjnofkaaDoorQXPure
namespace Go.Proofs.YthbdaoapjnofkaaDoor.Pure
open Go.RowKit Go.Proofs.YthbdaoapjnofkaaDoor.PFnCompletedCursor Go.Proofs.YthbdaoapjnofkaaDoorW.PrintWords Go.Proofs.YthbdaoapjnofkaaDoorW.PrintLast Go.Proofs.YthbdaoapjnofkaaDoor.R Go.Proofs.YthbdaoapjnofkaaDoor.X Go.Proofs.YthbdaoapjnofkaaDoor.H
set_option linter.unusedVariables false
set_option linter.unusedSimpArgs false
theorem rdS (L : List ByteArray) (i : Nat) (h : i < L.length) : rdOf ByteArray.empty L (i : Int) = L[i] := by
  unfold rdOf
  rw [Int.toNat_natCast, List.getD_eq_getElem?_getD, List.getElem?_eq_getElem h]; rfl
theorem fits_tells (L : List ByteArray) : ∃ b, Ev (fun k => laws_zzFits1.f k L) b ∧ (b = true → L.length ≤ 2147483647) := by
  unfold laws_zzFits1.f
  by_cases h0 : (L.length : Int) > 2147483647
  · exact ⟨false, ev_ifp h0 (Ev.now _), by simp⟩
  suffices h : ∀ d i : Nat, i + d = L.length → ∃ b, Ev (fun k => laws_zzFits1.l0 k L (L.length : Int) (i : Int)) b by
    obtain ⟨b, hb⟩ := h L.length 0 (by omega)
    exact ⟨b, ev_ifn h0 hb, fun _ => by omega⟩
  intro d
  induction d with
  | zero => intro i hi; exact ⟨true, Ev.step (fun k => by rw [laws_zzFits1.l0]) (ev_ifn (by omega) (Ev.now _))⟩
  | succ d ih =>
    intro i hi
    obtain ⟨b, hb⟩ := ih (i + 1) (by omega)
    rw [show ((i + 1 : Nat) : Int) = (i : Int) + 1 by omega] at hb
    by_cases a : ((rdOf ByteArray.empty L (i : Int)).size : Int) > 2147483647
    · exact ⟨false, Ev.step (fun k => by rw [laws_zzFits1.l0]) (ev_ifp (by omega) (ev_ifp (by omega) (ev_ifp (by omega) (ev_ifp a (Ev.now _)))))⟩
    · exact ⟨b, Ev.step (fun k => by rw [laws_zzFits1.l0, w64 (x := (i : Int) + 1) (by omega) (by omega)]) (ev_ifp (by omega) (ev_ifp (by omega) (ev_ifp (by omega) (ev_ifn a hb))))⟩
theorem small_tells (s : ByteArray) (hs : s.size ≤ 300) : ∃ b, Ev (fun k => spec_Small.f k s) b ∧ (b = true → ∀ x ∈ ints s, 0 ≤ x ∧ x < 128) := by
  unfold spec_Small.f
  suffices h : ∀ d i : Nat, i + d = s.size → ∃ b, Ev (fun k => spec_Small.l0 k s (s.size : Int) (i : Int)) b ∧ (b = true → ∀ j (hj : j < s.size), i ≤ j → 0 ≤ bt s (j : Int) ∧ bt s (j : Int) < 128) by
    obtain ⟨b, h1, h2⟩ := h s.size 0 (by omega)
    refine ⟨b, h1, fun hb x hx => ?_⟩
    obtain ⟨j, hj, rfl⟩ := List.getElem_of_mem hx
    rw [ints_length] at hj
    have := h2 hb j hj (by omega)
    rwa [bt_ints s j hj] at this
  intro d
  induction d with
  | zero => intro i hi; exact ⟨true, Ev.step (fun k => by rw [spec_Small.l0]) (ev_ifn (by omega) (Ev.now _)), fun _ j hj hij => by omega⟩
  | succ d ih =>
    intro i hi
    obtain ⟨b, h1, h2⟩ := ih (i + 1) (by omega)
    rw [show ((i + 1 : Nat) : Int) = (i : Int) + 1 from by omega] at h1
    by_cases a : bt s (i : Int) < 97
    · exact ⟨false, Ev.step (fun k => by rw [spec_Small.l0]) (ev_ifp (by omega) (ev_ifp (by omega) (ev_ifp (by omega) (ev_ifp a (Ev.now _))))), by simp⟩
    · by_cases c : bt s (i : Int) > 122
      · exact ⟨false, Ev.step (fun k => by rw [spec_Small.l0]) (ev_ifp (by omega) (ev_ifp (by omega) (ev_ifp (by omega) (ev_ifn a (ev_ifp c (Ev.now _)))))), by simp⟩
      · refine ⟨b, Ev.step (fun k => by rw [spec_Small.l0, w64 (x := (i : Int) + 1) (by omega) (by omega)]) (ev_ifp (by omega) (ev_ifp (by omega) (ev_ifp (by omega) (ev_ifn a (ev_ifn c h1))))), fun hb j hj hij => ?_⟩
        rcases Nat.eq_or_lt_of_le hij with rfl | hlt
        · omega
        · exact h2 hb j hj hlt
theorem ascii_tells (s : ByteArray) (hs : s.size ≤ 2147483647) : ∃ b, Ev (fun k => laws_ascii9.f k s) b ∧ (b = true → s.size ≤ 300 ∧ ∀ x ∈ ints s, 0 ≤ x ∧ x < 128) := by
  unfold laws_ascii9.f
  suffices h : ∀ d i : Nat, i + d = s.size → ∃ b, Ev (fun k => laws_ascii9.l0 k s (s.size : Int) (i : Int)) b ∧ (b = true → s.size ≤ 300 ∧ ∀ j (hj : j < s.size), i ≤ j → bt s (j : Int) < 128) by
    obtain ⟨b, h1, h2⟩ := h s.size 0 (by omega)
    refine ⟨b, h1, fun hb => ⟨(h2 hb).1, fun x hx => ?_⟩⟩
    obtain ⟨j, hj, rfl⟩ := List.getElem_of_mem hx
    rw [ints_length] at hj
    have h3 := (h2 hb).2 j hj (by omega)
    rw [bt_ints s j hj] at h3
    exact ⟨by simp [ints], h3⟩
  intro d
  induction d with
  | zero => intro i hi; exact ⟨decide ((s.size : Int) ≤ 300), Ev.step (fun k => by rw [laws_ascii9.l0]) (ev_ifn (by omega) (Ev.now _)), fun hb => ⟨by have := of_decide_eq_true hb; omega, fun j hj hij => by omega⟩⟩
  | succ d ih =>
    intro i hi
    obtain ⟨b, h1, h2⟩ := ih (i + 1) (by omega)
    rw [show ((i + 1 : Nat) : Int) = (i : Int) + 1 from by omega] at h1
    by_cases a : bt s (i : Int) ≥ 128
    · exact ⟨false, Ev.step (fun k => by rw [laws_ascii9.l0]) (ev_ifp (by omega) (ev_ifp (by omega) (ev_ifp (by omega) (ev_ifp a (Ev.now _))))), by simp⟩
    · refine ⟨b, Ev.step (fun k => by rw [laws_ascii9.l0, w64 (x := (i : Int) + 1) (by omega) (by omega)]) (ev_ifp (by omega) (ev_ifp (by omega) (ev_ifp (by omega) (ev_ifn a h1)))), fun hb => ⟨(h2 hb).1, fun j hj hij => ?_⟩⟩
      rcases Nat.eq_or_lt_of_le hij with rfl | hlt
      · omega
      · exact (h2 hb).2 j hj hlt
theorem asc_of {s : ByteArray} (h : ∀ x ∈ ints s, 0 ≤ x ∧ x < 128) : ∀ b ∈ s.data.toList, b.toNat < 128 := fun b hb => by
  have := (h (b.toNat : Int) (List.mem_map.2 ⟨b, hb, rfl⟩)).2
  omega
/-- Words that the laws look at. -/
def Wd (s : ByteArray) : Prop := s.size ≤ 12 ∧ ∀ b ∈ s.data.toList, b.toNat < 128
theorem names_tells (L : List ByteArray) (hL : L.length ≤ 2147483647) : ∃ b, Ev (fun k => laws_names9.f k L) b ∧ (b = true → L.length ≤ 8 ∧ ∀ s ∈ L, Wd s) := by
  unfold laws_names9.f
  suffices h : ∀ d i : Nat, i + d = L.length → ∃ b, Ev (fun k => laws_names9.l0 k L (L.length : Int) (i : Int)) b ∧ (b = true → L.length ≤ 8 ∧ ∀ j (hj : j < L.length), i ≤ j → Wd L[j]) by
    obtain ⟨b, h1, h2⟩ := h L.length 0 (by omega)
    refine ⟨b, h1, fun hb => ⟨(h2 hb).1, fun s hs => ?_⟩⟩
    obtain ⟨j, hj, rfl⟩ := List.getElem_of_mem hs
    exact (h2 hb).2 j hj (by omega)
  intro d
  induction d with
  | zero => intro i hi; exact ⟨decide ((L.length : Int) ≤ 8), Ev.step (fun k => by rw [laws_names9.l0]) (ev_ifn (by omega) (Ev.now _)), fun hb => ⟨by have := of_decide_eq_true hb; omega, fun j hj hij => by omega⟩⟩
  | succ d ih =>
    intro i hi
    have hil : i < L.length := by omega
    obtain ⟨b, h1, h2⟩ := ih (i + 1) (by omega)
    rw [show ((i + 1 : Nat) : Int) = (i : Int) + 1 from by omega] at h1
    have hr := rdS L i hil
    have j1t : Ev (fun k => laws_names9.j1 k L (i : Int) (L.length : Int) (i : Int) true) false := Ev.step (fun k => by rw [laws_names9.j1]) (ev_ifp rfl (Ev.now _))
    by_cases a : (L[i]).toList = ([] : List UInt8)
    · exact ⟨false, Ev.step (fun k => by rw [laws_names9.l0, hr]) (ev_ifp (by omega) (ev_ifp (by omega) (ev_ifp (by omega) (ev_ifp a j1t)))), by simp⟩
    by_cases c : ((L[i]).size : Int) > 12
    · exact ⟨false, Ev.step (fun k => by rw [laws_names9.l0, hr]) (ev_ifp (by omega) (ev_ifp (by omega) (ev_ifp (by omega) (ev_ifn a (ev_ifp c j1t))))), by simp⟩
    obtain ⟨sb, e1, t1⟩ := small_tells L[i] (by omega)
    cases sb with
    | false => exact ⟨false, Ev.step (fun k => by rw [laws_names9.l0, hr]) (ev_ifp (by omega) (ev_ifp (by omega) (ev_ifp (by omega) (ev_ifn a (ev_ifn c (ev_bind e1 j1t)))))), by simp⟩
    | true =>
      have hin : ∀ d2 m : Nat, m + d2 = i → ∃ b2, Ev (fun k => laws_names9.l1 k L (i : Int) (L.length : Int) (i : Int) (i : Int) (m : Int)) b2 ∧ (b2 = true → b = true) := by
        intro d2
        induction d2 with
        | zero => intro m hm; exact ⟨b, Ev.step (fun k => by rw [laws_names9.l1, w64 (x := (i : Int) + 1) (by omega) (by omega)]) (ev_ifn (by omega) h1), id⟩
        | succ d2 ih2 =>
          intro m hm
          obtain ⟨b2, e2, t2⟩ := ih2 (m + 1) (by omega)
          rw [show ((m + 1 : Nat) : Int) = (m : Int) + 1 from by omega] at e2
          by_cases q : (rdOf ByteArray.empty L (m : Int)).toList = (rdOf ByteArray.empty L (i : Int)).toList
          · exact ⟨false, Ev.step (fun k => by rw [laws_names9.l1]) (ev_ifp (by omega) (ev_ifp (by omega) (ev_ifp (by omega) (ev_ifp (by omega) (ev_ifp (by omega) (ev_ifp q (Ev.now _))))))), by simp⟩
          · exact ⟨b2, Ev.step (fun k => by rw [laws_names9.l1, w64 (x := (m : Int) + 1) (by omega) (by omega)]) (ev_ifp (by omega) (ev_ifp (by omega) (ev_ifp (by omega) (ev_ifp (by omega) (ev_ifp (by omega) (ev_ifn q e2)))))), t2⟩
      obtain ⟨b2, e2, t2⟩ := hin i 0 (by omega)
      have e2' : Ev (fun k => laws_names9.l1 k L (i : Int) (L.length : Int) (i : Int) (i : Int) 0) b2 := e2
      refine ⟨b2, Ev.step (fun k => by rw [laws_names9.l0, hr]) (ev_ifp (by omega) (ev_ifp (by omega) (ev_ifp (by omega) (ev_ifn a (ev_ifn c (ev_bind e1 (Ev.step (fun k => by rw [laws_names9.j1]) (ev_ifn (c := ((!true) = true)) (by decide) e2')))))))), fun hb => ⟨(h2 (t2 hb)).1, fun j hj hij => ?_⟩⟩
      rcases Nat.eq_or_lt_of_le hij with rfl | hlt
      · exact ⟨by omega, asc_of (t1 rfl)⟩
      · exact (h2 (t2 hb)).2 j hj hlt
/-- The words as a completer has them. -/
def treeL (w : Nat) (th : List ByteArray) : Nat → List ByteArray → List S88
  | _, [] => []
  | i, x :: r => if i = w then (⟨x, 1 + (th.length : Int)⟩ : S88) :: (th.map (fun s => (⟨s, 1⟩ : S88)) ++ treeL w th (i + 1) r) else (⟨x, 1⟩ : S88) :: treeL w th (i + 1) r
theorem tree_tells (L : List ByteArray) (w : Nat) (th : List ByteArray) (hL : L.length ≤ 8) (ht : th.length ≤ 8) : Ev (fun k => spec_Tree.f k L (w : Int) th) (treeL w th 0 L) := by
  unfold spec_Tree.f
  suffices h : ∀ d i : Nat, i + d = L.length → ∀ acc : List S88, acc.length ≤ 100 * i → Ev (fun k => spec_Tree.l0 k L (w : Int) th acc (L.length : Int) (i : Int)) (acc ++ treeL w th i (L.drop i)) by
    simpa using h L.length 0 (by omega) [] (by simp)
  intro d
  induction d with
  | zero =>
    intro i hi acc ha
    refine Ev.step (fun k => by rw [spec_Tree.l0]) (ev_ifn (by omega) (ev_some ?_))
    rw [List.drop_of_length_le (by omega)]
    simp [treeL]
  | succ d ih =>
    intro i hi acc ha
    have hil : i < L.length := by omega
    have hr := rdS L i hil
    have hD := List.drop_eq_getElem_cons hil
    by_cases hw : i = w
    · subst hw
      have hin : ∀ d2 m : Nat, m + d2 = th.length → ∀ acc2 : List S88, acc2.length ≤ 100 * i + 1 + m → Ev (fun k => spec_Tree.l1 k L (i : Int) th acc2 (i : Int) (m : Int) (L.length : Int) (i : Int)) (acc2 ++ ((th.drop m).map (fun s => (⟨s, 1⟩ : S88)) ++ treeL i th (i + 1) (L.drop (i + 1)))) := by
        intro d2
        induction d2 with
        | zero =>
          intro m hm acc2 ha2
          have h2 := ih (i + 1) (by omega) acc2 (by omega)
          rw [show ((i + 1 : Nat) : Int) = (i : Int) + 1 by omega] at h2
          refine Ev.step (fun k => by rw [spec_Tree.l1, w64 (x := (i : Int) + 1) (by omega) (by omega)]) (ev_ifp rfl (ev_ifn (by omega) ?_))
          rw [List.drop_of_length_le (by omega)]
          simpa using h2
        | succ d2 ih2 =>
          intro m hm acc2 ha2
          have hml : m < th.length := by omega
          have h2 := ih2 (m + 1) (by omega) (acc2 ++ [(⟨th[m], 1⟩ : S88)]) (by simp; omega)
          rw [show ((m + 1 : Nat) : Int) = (m : Int) + 1 by omega] at h2
          refine Ev.step (fun k => by rw [spec_Tree.l1, rdS th m hml, w64 (x := (m : Int) + 1) (by omega) (by omega)]) (ev_ifp rfl (ev_ifp (by omega) (ev_ifp (by omega) (ev_ifp (by omega) ?_))))
          rw [List.drop_eq_getElem_cons hml, List.map_cons]
          rw [List.append_assoc] at h2
          exact h2
      have h2 := hin th.length 0 (by omega) (acc ++ [(⟨L[i], 1 + (th.length : Int)⟩ : S88)]) (by simp; omega)
      refine Ev.step (fun k => by rw [spec_Tree.l0, hr, w64 (x := 1 + (th.length : Int)) (by omega) (by omega)]) (ev_ifp (by omega) (ev_ifp (by omega) (ev_ifp (by omega) (ev_ifp rfl (Ev.step (fun k => by rw [spec_Tree.j1]) (ev_ifp (by omega) ?_))))))
      rw [hD, treeL, if_pos rfl]
      simpa using h2
    · have h2 := ih (i + 1) (by omega) (acc ++ [(⟨L[i], 1⟩ : S88)]) (by simp; omega)
      rw [show ((i + 1 : Nat) : Int) = (i : Int) + 1 by omega] at h2
      refine Ev.step (fun k => by rw [spec_Tree.l0, hr]) (ev_ifp (by omega) (ev_ifp (by omega) (ev_ifp (by omega) (ev_ifn (by omega) (Ev.step (fun k => by rw [spec_Tree.j1]) (ev_ifp (by omega) (Ev.step (fun k => by rw [spec_Tree.l1, w64 (x := (i : Int) + 1) (by omega) (by omega)]) (ev_ifn (by omega) ?_))))))))
      rw [hD, treeL, if_neg hw]
      simpa using h2
theorem parse_ones : ∀ (th : List ByteArray) (k : Nat), th.length < k → ∃ F, parseF k (th.map (fun s => (⟨s, 1⟩ : S88))) = some F
  | [], 0, h => absurd h (by simp)
  | [], k + 1, _ => ⟨[], rfl⟩
  | x :: r, 0, h => absurd h (by simp)
  | x :: r, k + 1, h => by
    simp only [List.length_cons] at h
    obtain ⟨F, hF⟩ := parse_ones r k (by omega)
    have h0 : ∃ k', k = k' + 1 := ⟨k - 1, by omega⟩
    obtain ⟨k', rfl⟩ := h0
    refine ⟨.node false [nmOf x] [] :: F, ?_⟩
    rw [List.map_cons, parseF, if_pos ⟨by show (1 : Int) ≤ 1; omega, by show (1 : Int) ≤ _; simp; omega⟩]
    simp [parseF, hF]
theorem parse_tree (w : Nat) (th : List ByteArray) : ∀ (L : List ByteArray) (i k : Nat), (treeL w th i L).length < k → ∃ F, parseF k (treeL w th i L) = some F
  | _, _, 0, h => absurd h (by simp)
  | [], i, k + 1, _ => ⟨[], rfl⟩
  | x :: r, i, k + 1, h => by
    unfold treeL at h ⊢
    by_cases hi : i = w
    · rw [if_pos hi] at h ⊢
      simp only [List.length_cons, List.length_append, List.length_map] at h
      obtain ⟨F1, h1⟩ := parse_ones th k (by omega)
      obtain ⟨F2, h2⟩ := parse_tree w th r (i + 1) k (by omega)
      refine ⟨.node false [nmOf x] F1 :: F2, ?_⟩
      have e : (1 + (th.length : Int)).toNat - 1 = th.length := by omega
      rw [parseF, if_pos ⟨by show (1 : Int) ≤ 1 + (th.length : Int); omega, by show 1 + (th.length : Int) ≤ _; simp; omega⟩]
      show (parseF k (List.take ((1 + (th.length : Int)).toNat - 1) _)).bind _ = _
      rw [e, List.take_left' (by simp), h1]
      simp only [Option.bind_some]
      rw [List.drop_left' (by simp), h2]
      rfl
    · rw [if_neg hi] at h ⊢
      simp only [List.length_cons] at h
      obtain ⟨F2, h2⟩ := parse_tree w th r (i + 1) k (by omega)
      have h0 : ∃ k', k = k' + 1 := ⟨k - 1, by omega⟩
      obtain ⟨k', rfl⟩ := h0
      refine ⟨.node false [nmOf x] [] :: F2, ?_⟩
      rw [parseF, if_pos ⟨by show (1 : Int) ≤ 1; omega, by show (1 : Int) ≤ _; omega⟩]
      simp [parseF, h2]
theorem parse_sm : ∀ (k : Nat) (l : List S88) (F : List Tr), parseF k l = some F → l.length ≤ 1000000 → ∀ D, ∀ t ∈ F, t.names.length = 1 ∧ Sm D t
  | 0, _, _, h, _ => by simp [parseF] at h
  | k + 1, [], F, h, _ => by simp [parseF] at h; subst h; simp
  | k + 1, x :: r, F, h, hl => by
    unfold parseF at h
    by_cases hc : 1 ≤ x.f1 ∧ x.f1 ≤ (r.length : Int) + 1
    case neg => rw [if_neg hc] at h; cases h
    rw [if_pos hc] at h
    obtain ⟨ks, h1, h⟩ := Option.bind_eq_some_iff.mp h
    obtain ⟨more, h2, h⟩ := Option.bind_eq_some_iff.mp h
    obtain rfl := Option.some.inj h
    simp only [List.length_cons] at hl
    intro D t ht
    have hk := parseF_len k _ _ h1
    rw [List.length_take] at hk
    rcases List.mem_cons.1 ht with rfl | ht
    · refine ⟨rfl, ?_⟩
      cases D with
      | zero => trivial
      | succ D => exact ⟨by show ks.length ≤ 1000000; omega, fun u hu => parse_sm k _ _ h1 (by rw [List.length_take]; omega) D u hu⟩
    · exact parse_sm k _ _ h2 (by rw [List.length_drop]; omega) D t ht
theorem same_tells (L : List ByteArray) (hL : L.length ≤ 1000000) : Ev (fun k => spec_SameTexts9.f k L L) true := by
  unfold spec_SameTexts9.f
  suffices h : ∀ d i : Nat, i + d = L.length → Ev (fun k => spec_SameTexts9.l0 k L L (L.length : Int) (i : Int)) true from ev_ifp rfl (h L.length 0 (by omega))
  intro d
  induction d with
  | zero => intro i hi; exact Ev.step (fun k => by rw [spec_SameTexts9.l0]) (ev_ifn (by omega) (Ev.now _))
  | succ d ih =>
    intro i hi
    have h2 := ih (i + 1) (by omega)
    rw [show ((i + 1 : Nat) : Int) = (i : Int) + 1 by omega] at h2
    exact Ev.step (fun k => by rw [spec_SameTexts9.l0, w64 (x := (i : Int) + 1) (by omega) (by omega)]) (ev_ifp (by omega) (ev_ifp (by omega) (ev_ifp (by omega) (ev_ifp (by omega) (ev_ifp rfl h2)))))
theorem wd_tree (w : Nat) (th : List ByteArray) (ht : ∀ s ∈ th, Wd s) : ∀ (L : List ByteArray) (i : Nat), (∀ s ∈ L, Wd s) → (treeL w th i L).length ≤ L.length * (th.length + 1) ∧ ∀ x ∈ treeL w th i L, Wd x.f0
  | [], i, _ => ⟨by simp [treeL], by simp [treeL]⟩
  | x :: r, i, h => by
    obtain ⟨h1, h2⟩ := wd_tree w th ht r (i + 1) (fun s hs => h s (by simp [hs]))
    unfold treeL
    have hm : (r.length + 1) * (th.length + 1) = r.length * (th.length + 1) + (th.length + 1) := Nat.succ_mul _ _
    by_cases hi : i = w
    · rw [if_pos hi]
      refine ⟨by simp only [List.length_cons, List.length_append, List.length_map]; omega, fun y hy => ?_⟩
      rcases List.mem_cons.1 hy with rfl | hy
      · exact h x (by simp)
      · rcases List.mem_append.1 hy with hy | hy
        · obtain ⟨s, hs, rfl⟩ := List.mem_map.1 hy
          exact ht s hs
        · exact h2 y hy
    · rw [if_neg hi]
      refine ⟨by simp only [List.length_cons]; omega, fun y hy => ?_⟩
      rcases List.mem_cons.1 hy with rfl | hy
      · exact h x (by simp)
      · exact h2 y hy
theorem comp_tells (l : List S88) (F : List Tr) (s : ByteArray) (n : Nat) (hl : l.length ≤ 1000000) (hF : parseF (l.length + 1) l = some F) (hw : ∀ x ∈ l, Wd x.f0) (hs : s.size ≤ 1000000) (ha : ∀ b ∈ s.data.toList, b.toNat < 128) (hn : n ≤ s.size) :
    impl_Completed.f l s (n : Int) = some ((compT (l.length + 1) F ((ints s).take n)).1.map runesBytes, ((compT (l.length + 1) F ((ints s).take n)).2 : Int), true) := by
  unfold impl_Completed.f
  rw [if_pos ⟨by omega, by omega, hs, ha, hl, fun x hx => ⟨(hw x hx).2, by have := (hw x hx).1; omega⟩⟩, hF, Int.toNat_natCast]
  rfl
theorem law_true (first th : List ByteArray) (which : Int) (line : ByteArray) (at_ : Int) (h0 : first.length ≤ 8) (h1 : ∀ s ∈ first, Wd s) (h2 : th.length ≤ 8) (h3 : ∀ s ∈ th, Wd s) (hne : first.length ≠ 0) (hl : line.size ≤ 300) (ha : ∀ b ∈ line.data.toList, b.toNat < 128) (ht0 : 0 ≤ at_) (ht1 : at_ ≤ line.size) (hw0 : 0 ≤ which) (hw1 : which ≤ 255) : Ev (fun k => laws_FnCompletedCursor.j1 k first which th line at_ false) true := by
  obtain ⟨W, hW⟩ := Int.eq_ofNat_of_zero_le (show 0 ≤ Int.tmod (wrap64 which) (first.length : Int) by rw [w64 (by omega) (by omega)]; exact Int.tmod_nonneg _ hw0)
  have hT := tree_tells first W th h0 h2
  obtain ⟨hlen, hwd⟩ := wd_tree W th h3 first 0 h1
  have hmul : first.length * (th.length + 1) ≤ 8 * 9 := Nat.mul_le_mul h0 (by omega)
  obtain ⟨F, hF⟩ := parse_tree W th first 0 ((treeL W th 0 first).length + 1) (by omega)
  obtain ⟨l, hll⟩ : ∃ l, l = treeL W th 0 first := ⟨_, rfl⟩
  rw [← hll] at hT hlen hwd hF
  clear hll
  obtain ⟨n, rfl⟩ := Int.eq_ofNat_of_zero_le ht0
  have hn : n ≤ line.size := by omega
  have hFl := parseF_len _ _ _ hF
  have hext : ints (line.extract 0 n) = (ints line).take n := by rw [ints_extract]; simp
  have hexs : (line.extract 0 n).size = n := by rw [← ints_length, hext, List.length_take, ints_length]; omega
  have hexa : ∀ b ∈ (line.extract 0 n).data.toList, b.toNat < 128 := asc_extract (s := line) ha 0 n
  have c1 := comp_tells l F line n (by omega) hF hwd (by omega) ha hn
  have c2 := comp_tells l F (line.extract 0 n) n (by omega) hF hwd (by omega) hexa (by omega)
  have c3 := comp_tells l F (⟨#[]⟩ : ByteArray) 0 (by omega) hF hwd (by decide) (by intro b hb; simp at hb) (Nat.zero_le _)
  rw [hext, List.take_take, Nat.min_self] at c2
  have hsm : Sm (l.length + 1 + 1) (.node false [[32]] F) := ⟨by show F.length ≤ 1000000; omega, fun t ht => parse_sm _ _ _ hF (by omega) (l.length + 1) t ht⟩
  have hlim := comp_lim _ _ ((ints line).take n) hsm
  have hsame := same_tells ((compT (l.length + 1) F ((ints line).take n)).1.map runesBytes) (by rw [List.length_map]; exact hlim)
  obtain ⟨r, hr⟩ : ∃ r, r = compT (l.length + 1) F ((ints line).take n) := ⟨_, rfl⟩
  rw [← hr] at c1 c2 hsame
  have c3' : impl_Completed.f l (⟨#[]⟩ : ByteArray) 0 = some ((compT (l.length + 1) F ((ints (⟨#[]⟩ : ByteArray)).take 0)).1.map runesBytes, ((compT (l.length + 1) F ((ints (⟨#[]⟩ : ByteArray)).take 0)).2 : Int), true) := c3
  refine Ev.step (fun k => by rw [laws_FnCompletedCursor.j1, hW, Int.toNat_natCast]) (ev_ifn (by simp) (ev_ifn (by omega) (ev_bind hT ?_)))
  refine ev_bind (ev_const c1) (ev_ifp (by omega) (ev_ifp (by omega) (ev_bind (ev_const c2) (ev_bind (ev_const c3') (ev_ifp rfl (ev_ifp (by rfl) (ev_bind hsame (ev_ifp rfl (ev_some (by simp))))))))))
theorem FnCompletedCursor : laws_FnCompletedCursor.Pure := by
  intro first which th line at_ g0 g1 g2 g3 g4 g5 g6
  suffices h : Ev (fun k => laws_FnCompletedCursor.f k first which th line at_) true from h.rounds
  unfold laws_FnCompletedCursor.f
  have j1t : Ev (fun k => laws_FnCompletedCursor.j1 k first which th line at_ true) true := Ev.step (fun k => by rw [laws_FnCompletedCursor.j1]) (ev_ifp rfl (Ev.now _))
  have j0t : Ev (fun k => laws_FnCompletedCursor.j0 k first which th line at_ true) true := Ev.step (fun k => by rw [laws_FnCompletedCursor.j0]) (ev_ifp rfl (Ev.now _))
  have hwh : 0 ≤ which ∧ which ≤ 255 := by
    simp only [Lit.wf, Bool.and_eq_true, decide_eq_true_eq] at g2
    have hmin : IntKind.u8.min = 0 := by decide
    have hmax : IntKind.u8.max = 255 := by decide
    omega
  obtain ⟨b0, e0, t0⟩ := fits_tells first
  cases b0 with
  | false => exact ev_bind e0 (ev_ifn (by simp) j0t)
  | true =>
  obtain ⟨b1, e1, t1⟩ := fits_tells th
  cases b1 with
  | false => exact ev_bind e0 (ev_ifp rfl (ev_bind e1 (ev_ifn (by simp) j0t)))
  | true =>
  refine ev_bind e0 (ev_ifp rfl (ev_bind e1 (ev_ifp rfl ?_)))
  by_cases hz : (line.size : Int) > 2147483647
  · rw [decide_eq_true hz]; exact j0t
  rw [decide_eq_false hz]
  obtain ⟨b2, e2, t2⟩ := names_tells first (t0 rfl)
  refine Ev.step (fun k => by rw [laws_FnCompletedCursor.j0]) (ev_ifn (by simp) (ev_bind e2 ?_))
  cases b2 with
  | false => exact ev_ifn (by simp) j1t
  | true =>
  obtain ⟨b3, e3, t3⟩ := names_tells th (t1 rfl)
  refine ev_ifp rfl (ev_bind e3 ?_)
  cases b3 with
  | false => exact ev_ifn (by simp) j1t
  | true =>
  refine ev_ifp rfl ?_
  by_cases hn : (first.length : Int) = 0
  · exact ev_ifp hn j1t
  refine ev_ifn hn ?_
  obtain ⟨b4, e4, t4⟩ := ascii_tells line (by omega)
  refine ev_bind e4 ?_
  cases b4 with
  | false => exact ev_ifn (by simp) j1t
  | true =>
  refine ev_ifp rfl ?_
  by_cases ha : at_ < 0
  · exact ev_ifp ha j1t
  refine ev_ifn ha ?_
  by_cases hb : at_ > (line.size : Int)
  · rw [decide_eq_true hb]; exact j1t
  rw [decide_eq_false hb]
  exact law_true first th which line at_ (t2 rfl).1 (t2 rfl).2 (t3 rfl).1 (t3 rfl).2 (by omega) (t4 rfl).1 (asc_of (t4 rfl).2) (by omega) (by omega) hwh.1 hwh.2
end Go.Proofs.YthbdaoapjnofkaaDoor.Pure
