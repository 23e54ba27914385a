/- The pure part of FnCompletedBy: what a completer whose first words a function tells offers is what the reference offers; no condition. -/
import Derived.Test.YthbdaoapjnofkaaDoorQPFnCompletedByx2
import Derived.Test.YthbdaoapjnofkaaDoorQXPure
namespace Go.Proofs.YthbdaoapjnofkaaDoor.Pure
open Go.RowKit Go.Proofs.YthbdaoapjnofkaaDoor.PFnCompletedBy Go.Proofs.YthbdaoapjnofkaaDoorW.PrintWords Go.Proofs.YthbdaoapjnofkaaDoorW.PrintLast Go.Proofs.YthbdaoapjnofkaaDoor.R Go.Proofs.YthbdaoapjnofkaaDoor.X Go.Proofs.YthbdaoapjnofkaaDoor.H
set_option linter.unusedVariables false
set_option linter.unusedSimpArgs false
theorem rdS (L : List ByteArray) (i : Nat) (h : i < L.length) : rdOf ByteArray.empty L (i : Int) = L[i] := by
  unfold rdOf
  rw [Int.toNat_natCast, List.getD_eq_getElem?_getD, List.getElem?_eq_getElem h]; rfl
theorem fits_tells (L : List ByteArray) : ∃ b, Ev (fun k => laws_zzFits1.f k L) b ∧ (b = true → L.length ≤ 2147483647) := by
  unfold laws_zzFits1.f
  by_cases h0 : (L.length : Int) > 2147483647
  · exact ⟨false, ev_ifp h0 (Ev.now _), by simp⟩
  suffices h : ∀ d i : Nat, i + d = L.length → ∃ b, Ev (fun k => laws_zzFits1.l0 k L (L.length : Int) (i : Int)) b by
    obtain ⟨b, hb⟩ := h L.length 0 (by omega)
    exact ⟨b, ev_ifn h0 hb, fun _ => by omega⟩
  intro d
  induction d with
  | zero => intro i hi; exact ⟨true, Ev.step (fun k => by rw [laws_zzFits1.l0]) (ev_ifn (by omega) (Ev.now _))⟩
  | succ d ih =>
    intro i hi
    obtain ⟨b, hb⟩ := ih (i + 1) (by omega)
    rw [show ((i + 1 : Nat) : Int) = (i : Int) + 1 by omega] at hb
    by_cases a : ((rdOf ByteArray.empty L (i : Int)).size : Int) > 2147483647
    · exact ⟨false, Ev.step (fun k => by rw [laws_zzFits1.l0]) (ev_ifp (by omega) (ev_ifp (by omega) (ev_ifp (by omega) (ev_ifp a (Ev.now _)))))⟩
    · exact ⟨b, Ev.step (fun k => by rw [laws_zzFits1.l0, w64 (x := (i : Int) + 1) (by omega) (by omega)]) (ev_ifp (by omega) (ev_ifp (by omega) (ev_ifp (by omega) (ev_ifn a hb))))⟩
theorem small_tells (s : ByteArray) (hs : s.size ≤ 300) : ∃ b, Ev (fun k => spec_Small.f k s) b ∧ (b = true → ∀ x ∈ ints s, 97 ≤ x ∧ x ≤ 122) := by
  unfold spec_Small.f
  suffices h : ∀ d i : Nat, i + d = s.size → ∃ b, Ev (fun k => spec_Small.l0 k s (s.size : Int) (i : Int)) b ∧ (b = true → ∀ j (hj : j < s.size), i ≤ j → 97 ≤ bt s (j : Int) ∧ bt s (j : Int) ≤ 122) by
    obtain ⟨b, h1, h2⟩ := h s.size 0 (by omega)
    refine ⟨b, h1, fun hb x hx => ?_⟩
    obtain ⟨j, hj, rfl⟩ := List.getElem_of_mem hx
    rw [ints_length] at hj
    have := h2 hb j hj (by omega)
    rwa [bt_ints s j hj] at this
  intro d
  induction d with
  | zero => intro i hi; exact ⟨true, Ev.step (fun k => by rw [spec_Small.l0]) (ev_ifn (by omega) (Ev.now _)), fun _ j hj hij => by omega⟩
  | succ d ih =>
    intro i hi
    obtain ⟨b, h1, h2⟩ := ih (i + 1) (by omega)
    rw [show ((i + 1 : Nat) : Int) = (i : Int) + 1 from by omega] at h1
    by_cases a : bt s (i : Int) < 97
    · exact ⟨false, Ev.step (fun k => by rw [spec_Small.l0]) (ev_ifp (by omega) (ev_ifp (by omega) (ev_ifp (by omega) (ev_ifp a (Ev.now _))))), by simp⟩
    · by_cases c : bt s (i : Int) > 122
      · exact ⟨false, Ev.step (fun k => by rw [spec_Small.l0]) (ev_ifp (by omega) (ev_ifp (by omega) (ev_ifp (by omega) (ev_ifn a (ev_ifp c (Ev.now _)))))), by simp⟩
      · refine ⟨b, Ev.step (fun k => by rw [spec_Small.l0, w64 (x := (i : Int) + 1) (by omega) (by omega)]) (ev_ifp (by omega) (ev_ifp (by omega) (ev_ifp (by omega) (ev_ifn a (ev_ifn c h1))))), fun hb j hj hij => ?_⟩
        rcases Nat.eq_or_lt_of_le hij with rfl | hlt
        · omega
        · exact h2 hb j hj hlt
theorem asc_of {s : ByteArray} (h : ∀ x ∈ ints s, 97 ≤ x ∧ x ≤ 122) : Asc s := fun b hb => by
  have := (h (b.toNat : Int) (List.mem_map.2 ⟨b, hb, rfl⟩)).2
  omega
/-- Words that the laws look at. -/
def Wd (s : ByteArray) : Prop := s.size ≤ 12 ∧ 0 < s.size ∧ ∀ x ∈ ints s, 97 ≤ x ∧ x ≤ 122
theorem names_tells (L : List ByteArray) (hL : L.length ≤ 2147483647) : ∃ b, Ev (fun k => laws_names9.f k L) b ∧ (b = true → L.length ≤ 8 ∧ (∀ s ∈ L, Wd s) ∧ ∀ m j (hm : m < j) (hj : j < L.length), L[m] ≠ L[j]) := by
  unfold laws_names9.f
  suffices h : ∀ d i : Nat, i + d = L.length → ∃ b, Ev (fun k => laws_names9.l0 k L (L.length : Int) (i : Int)) b ∧ (b = true → L.length ≤ 8 ∧ ∀ j (hj : j < L.length), i ≤ j → Wd L[j] ∧ ∀ m (hm : m < j), L[m] ≠ L[j]) by
    obtain ⟨b, h1, h2⟩ := h L.length 0 (by omega)
    refine ⟨b, h1, fun hb => ⟨(h2 hb).1, fun s hs => ?_, fun m j hm hj => ((h2 hb).2 j hj (by omega)).2 m hm⟩⟩
    obtain ⟨j, hj, rfl⟩ := List.getElem_of_mem hs
    exact ((h2 hb).2 j hj (by omega)).1
  intro d
  induction d with
  | zero => intro i hi; exact ⟨decide ((L.length : Int) ≤ 8), Ev.step (fun k => by rw [laws_names9.l0]) (ev_ifn (by omega) (Ev.now _)), fun hb => ⟨by have := of_decide_eq_true hb; omega, fun j hj hij => by omega⟩⟩
  | succ d ih =>
    intro i hi
    have hil : i < L.length := by omega
    obtain ⟨b, h1, h2⟩ := ih (i + 1) (by omega)
    rw [show ((i + 1 : Nat) : Int) = (i : Int) + 1 from by omega] at h1
    have hr := rdS L i hil
    have j1t : Ev (fun k => laws_names9.j1 k L (i : Int) (L.length : Int) (i : Int) true) false := Ev.step (fun k => by rw [laws_names9.j1]) (ev_ifp rfl (Ev.now _))
    by_cases a : (L[i]).toList = ([] : List UInt8)
    · exact ⟨false, Ev.step (fun k => by rw [laws_names9.l0, hr]) (ev_ifp (by omega) (ev_ifp (by omega) (ev_ifp (by omega) (ev_ifp a j1t)))), by simp⟩
    by_cases c : ((L[i]).size : Int) > 12
    · exact ⟨false, Ev.step (fun k => by rw [laws_names9.l0, hr]) (ev_ifp (by omega) (ev_ifp (by omega) (ev_ifp (by omega) (ev_ifn a (ev_ifp c j1t))))), by simp⟩
    obtain ⟨sb, e1, t1⟩ := small_tells L[i] (by omega)
    cases sb with
    | false => exact ⟨false, Ev.step (fun k => by rw [laws_names9.l0, hr]) (ev_ifp (by omega) (ev_ifp (by omega) (ev_ifp (by omega) (ev_ifn a (ev_ifn c (ev_bind e1 j1t)))))), by simp⟩
    | true =>
      have hin : ∀ d2 m : Nat, m + d2 = i → ∃ b2, Ev (fun k => laws_names9.l1 k L (i : Int) (L.length : Int) (i : Int) (i : Int) (m : Int)) b2 ∧ (b2 = true → b = true ∧ ∀ m' (hm' : m' < i), m ≤ m' → L[m'] ≠ L[i]) := by
        intro d2
        induction d2 with
        | zero => intro m hm; exact ⟨b, Ev.step (fun k => by rw [laws_names9.l1, w64 (x := (i : Int) + 1) (by omega) (by omega)]) (ev_ifn (by omega) h1), fun hb => ⟨hb, fun m' hm' hle => by omega⟩⟩
        | succ d2 ih2 =>
          intro m hm
          obtain ⟨b2, e2, t2⟩ := ih2 (m + 1) (by omega)
          rw [show ((m + 1 : Nat) : Int) = (m : Int) + 1 from by omega] at e2
          by_cases q : (rdOf ByteArray.empty L (m : Int)).toList = (rdOf ByteArray.empty L (i : Int)).toList
          · exact ⟨false, Ev.step (fun k => by rw [laws_names9.l1]) (ev_ifp (by omega) (ev_ifp (by omega) (ev_ifp (by omega) (ev_ifp (by omega) (ev_ifp (by omega) (ev_ifp q (Ev.now _))))))), by simp⟩
          · exact ⟨b2, Ev.step (fun k => by rw [laws_names9.l1, w64 (x := (m : Int) + 1) (by omega) (by omega)]) (ev_ifp (by omega) (ev_ifp (by omega) (ev_ifp (by omega) (ev_ifp (by omega) (ev_ifp (by omega) (ev_ifn q e2)))))), fun hb => ⟨(t2 hb).1, fun m' hm' hle => by
            rcases Nat.eq_or_lt_of_le hle with rfl | hlt
            · intro e
              apply q
              rw [rdS L m (by omega), hr, e]
            · exact (t2 hb).2 m' hm' hlt⟩⟩
      obtain ⟨b2, e2, t2⟩ := hin i 0 (by omega)
      have e2' : Ev (fun k => laws_names9.l1 k L (i : Int) (L.length : Int) (i : Int) (i : Int) 0) b2 := e2
      refine ⟨b2, Ev.step (fun k => by rw [laws_names9.l0, hr]) (ev_ifp (by omega) (ev_ifp (by omega) (ev_ifp (by omega) (ev_ifn a (ev_ifn c (ev_bind e1 (Ev.step (fun k => by rw [laws_names9.j1]) (ev_ifn (c := ((!true) = true)) (by decide) e2')))))))), fun hb => ⟨(h2 (t2 hb).1).1, fun j hj hij => ?_⟩⟩
      rcases Nat.eq_or_lt_of_le hij with rfl | hlt
      · refine ⟨⟨by omega, ?_, t1 rfl⟩, fun m hm => (t2 hb).2 m hm (Nat.zero_le _)⟩
        rcases Nat.eq_zero_or_pos (L[i]).size with h0 | h0
        · exfalso
          apply a
          have : L[i] = (⟨#[]⟩ : ByteArray) := str_ext (by have := dlen L[i]; rw [h0] at this; rw [List.length_eq_zero_iff.1 this])
          rw [this]; simp
        · exact h0
      · exact (h2 (t2 hb).1).2 j hj hlt
theorem same_tells (L : List ByteArray) (hL : L.length ≤ 1000000) : Ev (fun k => spec_SameTexts9.f k L L) true := by
  unfold spec_SameTexts9.f
  suffices h : ∀ d i : Nat, i + d = L.length → Ev (fun k => spec_SameTexts9.l0 k L L (L.length : Int) (i : Int)) true from ev_ifp rfl (h L.length 0 (by omega))
  intro d
  induction d with
  | zero => intro i hi; exact Ev.step (fun k => by rw [spec_SameTexts9.l0]) (ev_ifn (by omega) (Ev.now _))
  | succ d ih =>
    intro i hi
    have h2 := ih (i + 1) (by omega)
    rw [show ((i + 1 : Nat) : Int) = (i : Int) + 1 by omega] at h2
    exact Ev.step (fun k => by rw [spec_SameTexts9.l0, w64 (x := (i : Int) + 1) (by omega) (by omega)]) (ev_ifp (by omega) (ev_ifp (by omega) (ev_ifp (by omega) (ev_ifp (by omega) (ev_ifp rfl h2)))))
/-- What is offered of a word. -/
def off1 (b : List Int) (nm : List Int) : List (List Int) := if b.length ≤ nm.length ∧ nm.take b.length = b then [nm.drop b.length ++ [32]] else []
def Let (l : List Int) : Prop := ∀ x ∈ l, 97 ≤ x ∧ x ≤ 122
theorem Let.no {l : List Int} (h : Let l) : (32 : Int) ∉ l := fun hm => by have := h 32 hm; omega
structure Lt (b : List Int) (s : Cs) (L : List (List Int)) : Prop where
  nl : s.nl = L
  gn : s.gn = false
  none_ : L = [] → s.off = 0
  some_ : L ≠ [] → s.off = b.length ∧ ∃ c, s.cur = some c
theorem Lt.step {b : List Int} {s : Cs} {L : List (List Int)} (h : Lt b s L) (c : Tr) (nm : List Int) (hb : Let b) : Lt b (oneName b c s (nm ++ [32])) (L ++ off1 b nm) := by
  unfold oneName off1
  have hlen : (nm ++ [32]).length = nm.length + 1 := by simp
  by_cases h1 : (nm ++ [32]).length ≤ b.length
  · rw [if_pos h1, if_neg, if_neg]
    · simpa using h
    · intro h2; omega
    · intro h2
      have : (32 : Int) ∈ b.take (nm ++ [32]).length := by rw [h2]; simp
      exact hb.no (List.mem_of_mem_take this)
  · rw [if_neg h1]
    have hle : b.length ≤ nm.length := by omega
    have e : (nm ++ [32]).take b.length = nm.take b.length := List.take_append_of_le_length hle
    rw [e]
    by_cases h2 : nm.take b.length = b
    · rw [if_pos h2, if_pos ⟨hle, h2⟩, List.drop_append_of_le_length hle]
      exact ⟨by rw [h.nl], h.gn, fun h0 => by simp at h0, fun _ => ⟨rfl, c, rfl⟩⟩
    · rw [if_neg h2, if_neg (fun h3 => h2 h3.2)]
      simpa using h
theorem Lt.names {b : List Int} (hb : Let b) (c : Tr) : ∀ (l : List (List Int)) {s : Cs} {L : List (List Int)}, Lt b s L → Lt b ((l.map (fun nm => nm ++ [32])).foldl (oneName b c) s) (L ++ l.flatMap (off1 b))
  | [], s, L, h => by simpa using h
  | nm :: l, s, L, h => by
    rw [List.map_cons, List.foldl_cons, List.flatMap_cons, ← List.append_assoc]
    exact Lt.names hb c l (h.step c nm hb)
theorem Lt.kids {b : List Int} (hb : Let b) : ∀ (l : List ByteArray) {s : Cs} {L : List (List Int)}, Lt b s L → Lt b ((l.map leaf).foldl (oneKid b) s) (L ++ (l.map ints).flatMap (off1 b))
  | [], s, L, h => by simpa using h
  | x :: l, s, L, h => by
    rw [List.map_cons, List.foldl_cons, List.map_cons, List.flatMap_cons, ← List.append_assoc]
    exact Lt.kids hb l (h.step (leaf x) (ints x) hb)
theorem Lt.start (b : List Int) : Lt b ⟨[], 0, none, false⟩ [] := ⟨rfl, rfl, fun _ => rfl, fun h => absurd rfl h⟩
theorem drop_let {b : List Int} (h : Let b) : b.dropWhile isSp = b := by
  cases b with
  | nil => rfl
  | cons x r =>
    have hx := h x (by simp)
    rw [List.dropWhile_cons_of_neg]
    unfold isSp Lib.isSpaceL
    simp
    omega
theorem drop_bl {b : List Int} (h : Let b) : b.dropWhile isBl = b := by
  cases b with
  | nil => rfl
  | cons x r =>
    have hx := h x (by simp)
    rw [List.dropWhile_cons_of_neg]
    unfold isBl
    simp
    omega
theorem comp_lt {d : Nat} {t : Tr} {b : List Int} {s : Cs} {L : List (List Int)} (hs : s = t.kids.foldl (oneKid b) ⟨[], 0, none, false⟩) (h : Lt b s L) (hb : Let b) : comp (d + 1) t b = (L, if L = [] then 0 else b.length) := by
  show compL d t (b.dropWhile isSp) = _
  rw [drop_let hb]
  by_cases h1 : s.nl.length = 1
  · have hne : L ≠ [] := by rintro rfl; rw [h.nl] at h1; simp at h1
    obtain ⟨h2, c, h3⟩ := h.some_ hne
    rw [compL_end hs h1 h3 (by rw [h2, List.drop_length]; rfl), h.gn, h.nl, h2, if_neg hne]
    rfl
  · rw [compL_many hs h1, h.nl]
    by_cases hn : L = []
    · rw [if_pos hn, h.none_ hn]
    · rw [if_neg hn, (h.some_ hn).1]
/-- A word that is begun. -/
theorem compB_begun (names thens : List ByteArray) (b : List Int) (hb : Let b) : compB names thens b = ((names.map ints).flatMap (off1 b), if (names.map ints).flatMap (off1 b) = [] then 0 else b.length) := by
  unfold compB
  refine comp_lt (s := ((names.map ints).map (fun nm => nm ++ [32])).foldl (oneName b (.node true (names.map nmOf) (thens.map leaf))) ⟨[], 0, none, false⟩) ?_ (by simpa using Lt.names hb _ (names.map ints) (Lt.start b)) hb
  rw [List.map_map]
  rfl
theorem tw (p : List Int) (Y : List Int) (h : Let p) : (p ++ 32 :: Y).takeWhile (fun x => x != 32) = p := by
  induction p with
  | nil => simp
  | cons x r ih =>
    have hx := h x (by simp)
    rw [List.cons_append, List.takeWhile_cons_of_pos (by simp; omega), ih (fun y hy => h y (by simp [hy]))]
theorem not_whole (nm p b : List Int) (hn : Let nm) (hp : Let p) (hne : nm ≠ p) (hb : b ≠ []) (c : Tr) (s : Cs) : oneName (p ++ 32 :: b) c s (nm ++ [32]) = s := by
  unfold oneName
  by_cases h1 : (nm ++ [32]).length ≤ (p ++ 32 :: b).length
  · rw [if_pos h1, if_neg]
    intro h2
    apply hne
    have h3 : p ++ 32 :: b = nm ++ 32 :: (p ++ 32 :: b).drop (nm ++ [32]).length := by
      conv => lhs; rw [← List.take_append_drop (nm ++ [32]).length (p ++ 32 :: b), h2]
      simp
    have h4 := tw p b hp
    rw [h3, tw nm _ hn] at h4
    exact h4
  · rw [if_neg h1, if_neg]
    intro h2
    have hlen : (p ++ 32 :: b).length ≤ nm.length := by simp at h1 ⊢; omega
    rw [List.take_append_of_le_length hlen] at h2
    have : (32 : Int) ∈ nm.take (p ++ 32 :: b).length := by rw [h2]; simp
    exact hn.no (List.mem_of_mem_take this)
theorem whole (p b : List Int) (hb : b ≠ []) (c : Tr) (s : Cs) : oneName (p ++ 32 :: b) c s (p ++ [32]) = ⟨s.nl ++ [p ++ [32]], p.length + 1, some c, true⟩ := by
  unfold oneName
  have hb1 : 0 < b.length := List.length_pos_iff.2 hb
  have e : p ++ 32 :: b = (p ++ [32]) ++ b := by simp
  rw [if_pos (by simp), if_pos (by rw [e, List.take_left']; rfl), if_neg (by simp; omega)]
  simp
theorem fold_none (p b : List Int) (hp : Let p) (hb : b ≠ []) (c : Tr) : ∀ (l : List ByteArray) (s : Cs), (∀ x ∈ l, Let (ints x) ∧ ints x ≠ p) → (l.map nmOf).foldl (oneName (p ++ 32 :: b) c) s = s
  | [], s, _ => rfl
  | x :: l, s, h => by
    rw [List.map_cons, List.foldl_cons]
    obtain ⟨h1, h2⟩ := h x (by simp)
    rw [show oneName (p ++ 32 :: b) c s (nmOf x) = s from not_whole (ints x) p b h1 hp h2 hb c s]
    exact fold_none p b hp hb c l s (fun y hy => h y (by simp [hy]))
/-- A whole word, and one that is begun. -/
theorem compB_next (names thens : List ByteArray) (b : List Int) (hb : Let b) (hne : b ≠ []) (W : Nat) (hW : W < names.length) (hn : ∀ s ∈ names, Let (ints s)) (hd : ∀ m j (hm : m < j) (hj : j < names.length), names[m] ≠ names[j]) (h0 : 0 < (names[W]).size) :
    compB names thens (ints names[W] ++ 32 :: b) = ((thens.map ints).flatMap (off1 b), if (thens.map ints).flatMap (off1 b) = [] then 0 else b.length) := by
  have hp : Let (ints names[W]) := hn _ (List.getElem_mem hW)
  unfold compB
  obtain ⟨t, ht⟩ : ∃ t, t = Tr.node true (names.map nmOf) (thens.map leaf) := ⟨_, rfl⟩
  rw [← ht]
  show compL 2 (.node false [[32]] [t]) ((ints names[W] ++ 32 :: b).dropWhile isSp) = _
  have hdw : (ints names[W] ++ 32 :: b).dropWhile isSp = ints names[W] ++ 32 :: b := by
    cases hi : ints names[W] with
    | nil => have := ints_length names[W]; rw [hi] at this; simp at this; omega
    | cons x r =>
      have hx := hp x (by rw [hi]; simp)
      rw [List.cons_append, List.dropWhile_cons_of_neg]
      unfold isSp Lib.isSpaceL
      simp
      omega
  rw [hdw]
  obtain ⟨p, hpe⟩ : ∃ p, p = ints names[W] := ⟨_, rfl⟩
  have hs : (⟨[p ++ [32]], p.length + 1, some t, true⟩ : Cs) = (Tr.node false [[32]] [t]).kids.foldl (oneKid (p ++ 32 :: b)) ⟨[], 0, none, false⟩ := by
    show _ = (t.names.foldl (oneName (p ++ 32 :: b) t) ⟨[], 0, none, false⟩)
    have hnm : t.names = names.map nmOf := by rw [ht]; rfl
    have hsp : names = names.take W ++ names[W] :: names.drop (W + 1) := by rw [← List.drop_eq_getElem_cons hW, List.take_append_drop]
    rw [hnm, hsp, List.map_append, List.map_cons, List.foldl_append, List.foldl_cons]
    rw [fold_none p b (hpe ▸ hp) hne t (names.take W) _ (fun x hx => ⟨hn x (List.mem_of_mem_take hx), fun e => by
      obtain ⟨m, hm, rfl⟩ := List.getElem_of_mem hx
      rw [List.length_take] at hm
      rw [List.getElem_take] at e
      exact hd m W (by omega) hW (ints_inj (e.trans hpe))⟩)]
    rw [show oneName (p ++ 32 :: b) t ⟨[], 0, none, false⟩ (nmOf names[W]) = ⟨[p ++ [32]], p.length + 1, some t, true⟩ from by
      have := whole p b hne t ⟨[], 0, none, false⟩
      rw [nmOf, ← hpe]
      exact this]
    rw [fold_none p b (hpe ▸ hp) hne t (names.drop (W + 1)) _ (fun x hx => ⟨hn x (List.mem_of_mem_drop hx), fun e => by
      obtain ⟨m, hm, rfl⟩ := List.getElem_of_mem hx
      rw [List.length_drop] at hm
      rw [List.getElem_drop] at e
      exact hd W (W + 1 + m) (by omega) (by omega) (ints_inj (e.trans hpe)).symm⟩)]
  rw [← hpe]
  cases hbc : b with
  | nil => exact absurd hbc hne
  | cons x r =>
    have hdrop : ((p ++ 32 :: b).drop (p.length + 1)).dropWhile isBl = x :: r := by
      have e : p ++ 32 :: b = (p ++ [32]) ++ b := by simp
      rw [e, List.drop_left' (by simp), drop_bl hb, hbc]
    rw [← hbc, compL_go hs rfl rfl (hdrop), ← hbc]
    exact comp_lt (s := (thens.map leaf).foldl (oneKid b) ⟨[], 0, none, false⟩) (by rw [ht]; rfl) (by simpa using Lt.kids hb thens (Lt.start b)) hb
theorem toList_iff (a b : ByteArray) : a.toList = b.toList ↔ ints a = ints b := by
  constructor
  · intro h
    have h2 : a.data.toList = b.data.toList := by simpa [ByteArray.toList_eq] using h
    rw [ints, ints, h2]
  · intro h; rw [ints_inj h]
/-- What the reference offers. -/
def offS (b : ByteArray) (x : ByteArray) : List ByteArray := if b.size ≤ x.size ∧ ints (x.extract 0 b.size) = ints b then [x.extract b.size x.size ++ ⟨#[32]⟩] else []
theorem offers_tells (L : List ByteArray) (b : ByteArray) (hL : L.length ≤ 8) (hs : ∀ x ∈ L, x.size ≤ 12) (hb : b.size ≤ 12) : Ev (fun k => spec_Offers.f k L b) (L.flatMap (offS b)) := by
  unfold spec_Offers.f
  suffices h : ∀ d i : Nat, i + d = L.length → ∀ acc : List ByteArray, acc.length ≤ i → Ev (fun k => spec_Offers.l0 k L b acc (L.length : Int) (i : Int)) (acc ++ (L.drop i).flatMap (offS b)) by
    simpa using h L.length 0 (by omega) [] (by simp)
  intro d
  induction d with
  | zero =>
    intro i hi acc ha
    refine Ev.step (fun k => by rw [spec_Offers.l0]) (ev_ifn (by omega) (ev_some ?_))
    rw [List.drop_of_length_le (by omega)]
    simp
  | succ d ih =>
    intro i hi acc ha
    have hil : i < L.length := by omega
    have hr := rdS L i hil
    have hxs := hs L[i] (List.getElem_mem hil)
    rw [List.drop_eq_getElem_cons hil, List.flatMap_cons]
    by_cases hle : b.size ≤ (L[i]).size
    · by_cases hpre : ints ((L[i]).extract 0 b.size) = ints b
      · have h2 := ih (i + 1) (by omega) (acc ++ [(L[i]).extract b.size (L[i]).size ++ ⟨#[32]⟩]) (by simp; omega)
        rw [show ((i + 1 : Nat) : Int) = (i : Int) + 1 by omega] at h2
        have hex : ((L[i]).extract b.size (L[i]).size).size ≤ 12 := by rw [ByteArray.size_extract]; omega
        refine Ev.step (fun k => by rw [spec_Offers.l0, hr, w64 (x := (i : Int) + 1) (by omega) (by omega)]) (ev_ifp (by omega) (ev_ifp (by omega) (ev_ifp (by omega) (ev_ifp (by omega) (ev_ifp (by omega) (ev_ifp (by omega) (ev_ifp ?_ (ev_ifp ?_ (ev_ifp (by omega) ?_)))))))))
        · rw [Int.toNat_natCast]; exact (toList_iff _ _).2 hpre
        · rw [Int.toNat_natCast]; omega
        · rw [Int.toNat_natCast, offS, if_pos ⟨hle, hpre⟩]
          rw [List.append_assoc] at h2
          exact h2
      · have h2 := ih (i + 1) (by omega) acc (by omega)
        rw [show ((i + 1 : Nat) : Int) = (i : Int) + 1 by omega] at h2
        refine Ev.step (fun k => by rw [spec_Offers.l0, hr, w64 (x := (i : Int) + 1) (by omega) (by omega)]) (ev_ifp (by omega) (ev_ifp (by omega) (ev_ifp (by omega) (ev_ifp (by omega) (ev_ifp (by omega) (ev_ifp (by omega) (ev_ifn ?_ ?_)))))))
        · rw [Int.toNat_natCast]; exact fun e => hpre ((toList_iff _ _).1 e)
        · rw [offS, if_neg (fun h => hpre h.2)]; simpa using h2
    · have h2 := ih (i + 1) (by omega) acc (by omega)
      rw [show ((i + 1 : Nat) : Int) = (i : Int) + 1 by omega] at h2
      refine Ev.step (fun k => by rw [spec_Offers.l0, hr, w64 (x := (i : Int) + 1) (by omega) (by omega)]) (ev_ifp (by omega) (ev_ifp (by omega) (ev_ifp (by omega) (ev_ifn (by omega) ?_))))
      rw [offS, if_neg (fun h => hle h.1)]; simpa using h2
theorem off_same (b : ByteArray) : ∀ (L : List ByteArray), (∀ x ∈ L, Asc x) → ((L.map ints).flatMap (off1 (ints b))).map runesBytes = L.flatMap (offS b)
  | [], _ => rfl
  | x :: L, h => by
    rw [List.map_cons, List.flatMap_cons, List.map_append, List.flatMap_cons, off_same b L (fun y hy => h y (by simp [hy]))]
    congr 1
    unfold off1 offS
    rw [ints_extract, ints_length, ints_length, List.drop_zero, Nat.sub_zero]
    by_cases hc : b.size ≤ x.size ∧ (ints x).take b.size = ints b
    · rw [if_pos hc, if_pos hc, List.map_cons, List.map_nil]
      have ha := asc_blank (asc_extract (h x (by simp)) b.size x.size)
      have e : ints (x.extract b.size x.size ++ ⟨#[32]⟩) = (ints x).drop b.size ++ [32] := by
        rw [ints_append, ints_extract, List.take_of_length_le (by rw [List.length_drop, ints_length]; omega)]
        rfl
      rw [← e, runesBytes_ints ha]
    · rw [if_neg hc, if_neg hc]; rfl
theorem by_tells (names thens : List ByteArray) (s : ByteArray) (h1 : names.length ≤ 8) (h0 : 0 < names.length) (h2 : ∀ x ∈ names, Wd x) (h3 : thens.length ≤ 8) (h4 : ∀ x ∈ thens, Wd x) (hs : s.size ≤ 100) (ha : Asc s) :
    impl_CompletedBy.f names thens s (s.size : Int) = some ((compB names thens (ints s)).1.map runesBytes, ((compB names thens (ints s)).2 : Int), true) := by
  unfold impl_CompletedBy.f
  rw [if_pos ⟨by omega, by omega, by omega, ha, h0, by omega, fun x hx => ⟨asc_of (h2 x hx).2.2, by have := (h2 x hx).1; omega⟩, by omega, fun x hx => ⟨asc_of (h4 x hx).2.2, by have := (h4 x hx).1; omega⟩⟩, Int.toNat_natCast, List.take_of_length_le (by rw [ints_length]; omega)]
theorem law_true (names thens : List ByteArray) (which : Int) (b : ByteArray) (h1 : names.length ≤ 8) (h0 : 0 < names.length) (h2 : ∀ x ∈ names, Wd x) (hd : ∀ m j (hm : m < j) (hj : j < names.length), names[m] ≠ names[j]) (h3 : thens.length ≤ 8) (h4 : ∀ x ∈ thens, Wd x) (hb : b.size ≤ 12) (hl : Let (ints b)) (hne : 0 < b.size) (hw0 : 0 ≤ which) (hw1 : which ≤ 255) : Ev (fun k => laws_FnCompletedBy.j1 k names thens which b false) true := by
  have hbn : ints b ≠ [] := fun e => by have := ints_length b; rw [e] at this; simp at this; omega
  have c1 := by_tells names thens b h1 h0 h2 h3 h4 (by omega) (asc_of hl)
  rw [compB_begun names thens (ints b) hl] at c1
  simp only [off_same b names (fun x hx => asc_of (h2 x hx).2.2), ints_length] at c1
  have o1 := offers_tells names b h1 (fun x hx => (h2 x hx).1) hb
  have hflat : ∀ (L : List ByteArray), L.length ≤ 8 → (L.flatMap (offS b)).length ≤ 1000000 := fun L hL => by
    have : ∀ (M : List ByteArray), (M.flatMap (offS b)).length ≤ M.length := by
      intro M
      induction M with
      | nil => simp
      | cons x M ih =>
        rw [List.flatMap_cons, List.length_append]
        have : (offS b x).length ≤ 1 := by unfold offS; split <;> simp
        simp only [List.length_cons]; omega
    have := this L; omega
  have hs1 := same_tells (names.flatMap (offS b)) (hflat names h1)
  obtain ⟨W, hW⟩ := Int.eq_ofNat_of_zero_le (show 0 ≤ Int.tmod (wrap64 which) (names.length : Int) by rw [w64 (by omega) (by omega)]; exact Int.tmod_nonneg _ hw0)
  have hWl : W < names.length := by
    have : Int.tmod (wrap64 which) (names.length : Int) < (names.length : Int) := by rw [w64 (by omega) (by omega)]; exact Int.tmod_lt_of_pos _ (by omega)
    omega
  have hx := h2 names[W] (List.getElem_mem hWl)
  have hline : ints ((names[W] ++ ⟨#[32]⟩) ++ b) = ints names[W] ++ 32 :: ints b := by
    rw [ints_append, ints_append]
    show (ints names[W] ++ [32]) ++ ints b = _
    simp
  have hsz : ((names[W] ++ ⟨#[32]⟩) ++ b : ByteArray).size = (names[W]).size + 1 + b.size := by rw [ByteArray.size_append, ByteArray.size_append]; rfl
  have hasc : Asc ((names[W] ++ ⟨#[32]⟩) ++ b) := fun c hc => by
    have : (c.toNat : Int) ∈ ints ((names[W] ++ ⟨#[32]⟩) ++ b) := List.mem_map.2 ⟨c, hc, rfl⟩
    rw [hline] at this
    rcases List.mem_append.1 this with h | h
    · have := (hx.2.2 _ h).2; omega
    · rcases List.mem_cons.1 h with h | h
      · omega
      · have := (hl _ h).2; omega
  have c2 := by_tells names thens ((names[W] ++ ⟨#[32]⟩) ++ b) h1 h0 h2 h3 h4 (by have := hx.1; omega) hasc
  rw [hline, compB_next names thens (ints b) hl hbn W hWl (fun s hs => (h2 s hs).2.2) hd hx.2.1] at c2
  simp only [off_same b thens (fun x hx => asc_of (h4 x hx).2.2), ints_length] at c2
  have o2 := offers_tells thens b h3 (fun x hx => (h4 x hx).1) hb
  have hs2 := same_tells (thens.flatMap (offS b)) (hflat thens h3)
  have key : ∀ L : List ByteArray, (L.map ints).flatMap (off1 (ints b)) = [] ↔ L.flatMap (offS b) = [] := by
    intro L
    have hb0 : ∀ x, off1 (ints b) (ints x) = [] ↔ offS b x = [] := fun x => by
      unfold off1 offS
      rw [ints_extract, ints_length, ints_length, List.drop_zero, Nat.sub_zero]
      split <;> simp
    induction L with
    | nil => simp
    | cons x L ih => rw [List.map_cons, List.flatMap_cons, List.flatMap_cons, List.append_eq_nil_iff, List.append_eq_nil_iff]; exact and_congr (hb0 x) ih
  have last : Ev (fun k => laws_FnCompletedBy.j2 k names thens which b false) true := by
    refine Ev.step (fun k => by rw [laws_FnCompletedBy.j2, hW, rdS names W hWl]) (ev_ifn (by simp) (ev_ifn (by omega) (ev_ifp (by omega) (ev_ifp (by omega) (ev_ifp (by have := hx.1; omega) (ev_ifp ?_ ?_))))))
    · rw [ByteArray.size_append]
      have h9 : (⟨#[32]⟩ : ByteArray).size = 1 := rfl
      have := hx.1
      omega
    · refine ev_bind (ev_const c2) (ev_bind o2 (ev_ifp rfl (ev_bind hs2 (ev_ifp rfl ?_))))
      by_cases hz : ((thens.flatMap (offS b)).length : Int) = 0
      · exact ev_ifp hz (Ev.now _)
      · refine ev_ifn hz (ev_some ?_)
        have hnn : ¬ (thens.map ints).flatMap (off1 (ints b)) = [] := fun e => hz (by rw [(key thens).1 e]; rfl)
        simp only [if_neg hnn]
        simp
  refine Ev.step (fun k => by rw [laws_FnCompletedBy.j1]) (ev_ifn (by simp) (ev_bind (ev_const c1) (ev_bind o1 (ev_ifp rfl (ev_bind hs1 (ev_ifp rfl ?_))))))
  by_cases hz : ((names.flatMap (offS b)).length : Int) > 0
  · refine ev_ifp hz ?_
    have hnn : ¬ (names.map ints).flatMap (off1 (ints b)) = [] := fun e => by rw [(key names).1 e] at hz; simp at hz
    simp only [if_neg hnn]
    have e : (((b.size : Int)) != (b.size : Int)) = false := by simp
    rw [e]
    exact last
  · exact ev_ifn hz last
theorem FnCompletedBy : laws_FnCompletedBy.Pure := by
  intro names thens which b g0 g1 g2 g3 g4 g5
  suffices h : Ev (fun k => laws_FnCompletedBy.f k names thens which b) true from h.rounds
  unfold laws_FnCompletedBy.f
  have j1t : Ev (fun k => laws_FnCompletedBy.j1 k names thens which b true) true := Ev.step (fun k => by rw [laws_FnCompletedBy.j1]) (ev_ifp rfl (Ev.now _))
  have j0t : Ev (fun k => laws_FnCompletedBy.j0 k names thens which b true) true := Ev.step (fun k => by rw [laws_FnCompletedBy.j0]) (ev_ifp rfl (Ev.now _))
  have hwh : 0 ≤ which ∧ which ≤ 255 := by
    simp only [Lit.wf, Bool.and_eq_true, decide_eq_true_eq] at g4
    have hmin : IntKind.u8.min = 0 := by decide
    have hmax : IntKind.u8.max = 255 := by decide
    omega
  obtain ⟨b0, e0, t0⟩ := fits_tells names
  cases b0 with
  | false => exact ev_bind e0 (ev_ifn (by simp) j0t)
  | true =>
  obtain ⟨b1, e1, t1⟩ := fits_tells thens
  cases b1 with
  | false => exact ev_bind e0 (ev_ifp rfl (ev_bind e1 (ev_ifn (by simp) j0t)))
  | true =>
  refine ev_bind e0 (ev_ifp rfl (ev_bind e1 (ev_ifp rfl ?_)))
  by_cases hz : (b.size : Int) > 2147483647
  · rw [decide_eq_true hz]; exact j0t
  rw [decide_eq_false hz]
  obtain ⟨b2, e2, t2⟩ := names_tells names (t0 rfl)
  refine Ev.step (fun k => by rw [laws_FnCompletedBy.j0]) (ev_ifn (by simp) (ev_bind e2 ?_))
  cases b2 with
  | false => exact ev_ifn (by simp) j1t
  | true =>
  obtain ⟨b3, e3, t3⟩ := names_tells thens (t1 rfl)
  refine ev_ifp rfl (ev_bind e3 ?_)
  cases b3 with
  | false => exact ev_ifn (by simp) j1t
  | true =>
  refine ev_ifp rfl ?_
  by_cases hn : (names.length : Int) = 0
  · exact ev_ifp hn j1t
  refine ev_ifn hn ?_
  by_cases hb0 : b.toList = ([] : List UInt8)
  · exact ev_ifp hb0 j1t
  refine ev_ifn hb0 ?_
  by_cases hb1 : (b.size : Int) > 12
  · exact ev_ifp hb1 j1t
  refine ev_ifn hb1 ?_
  obtain ⟨b4, e4, t4⟩ := small_tells b (by omega)
  refine ev_bind e4 ?_
  cases b4 with
  | false => exact j1t
  | true =>
  have hpos : 0 < b.size := by
    rcases Nat.eq_zero_or_pos b.size with h0 | h0
    · exfalso
      apply hb0
      have : b = (⟨#[]⟩ : ByteArray) := str_ext (by have := dlen b; rw [h0] at this; rw [List.length_eq_zero_iff.1 this])
      rw [this]; simp
    · exact h0
  exact law_true names thens which b (t2 rfl).1 (by omega) (t2 rfl).2.1 (t2 rfl).2.2 (t3 rfl).1 (t3 rfl).2.1 (by omega) (t4 rfl) hpos hwh.1 hwh.2
end Go.Proofs.YthbdaoapjnofkaaDoor.Pure
