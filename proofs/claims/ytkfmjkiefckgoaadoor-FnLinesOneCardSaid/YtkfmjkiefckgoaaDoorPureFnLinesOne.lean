/- A text whose lines are joined one after the other has one line: the pure statement behind the law FnLinesOne; no condition. -/
import Derived.Test.YtkfmjkiefckgoaaDoorPFnLinesOnex3
namespace Go.Proofs.YtkfmjkiefckgoaaDoor.Pure
open Go.RowKit Go.Proofs.YtkfmjkiefckgoaaDoor.R Go.Proofs.YtkfmjkiefckgoaaDoor.X Go.Proofs.YtkfmjkiefckgoaaDoor.PFnLinesOne Go.Proofs.YtkfmjkiefckgoaaDoor.H Go.Proofs.YtkfmjkiefckgoaaDoorW.PrintWords Go.Proofs.YtkfmjkiefckgoaaDoorW.PrintLast
set_option linter.unusedVariables false

theorem newline_tells (c : Int) : Ev (fun k => spec_hasByte.f k (⟨#[10]⟩ : ByteArray) c) (decide (c = 10)) := by
  have hb : bt (⟨#[10]⟩ : ByteArray) 0 = 10 := by decide
  have hz : ((⟨#[10]⟩ : ByteArray).size : Int) = 1 := rfl
  unfold spec_hasByte.f
  refine Ev.step (fun k => by rw [spec_hasByte.l0, hb, hz, w64 (x := (0 : Int) + 1) (by omega) (by omega)]) (ev_ifp (by omega) (ev_ifp (by omega) ?_))
  by_cases h : c = 10
  · rw [decide_eq_true h]; exact ev_ifp h.symm (ev_some rfl)
  · rw [decide_eq_false h]
    refine ev_ifn (fun h' => h h'.symm) (Ev.step (fun k => by rw [spec_hasByte.l0, hz]) (ev_ifn (by omega) (Ev.now _)))
theorem first_tells (s : ByteArray) (hs : s.size ≤ 4611686018427387904) : Ev (fun k => spec_first.f k s (⟨#[10]⟩ : ByteArray) false) (firstI (nlp s) s.size 0) := by
  unfold spec_first.f
  suffices h : ∀ d i : Nat, i + d = s.size → Ev (fun k => spec_first.l0 k s (⟨#[10]⟩ : ByteArray) false (i : Int)) (firstI (nlp s) d i) from h s.size 0 (by omega)
  intro d
  induction d with
  | zero => intro i hi; exact Ev.step (fun k => by rw [spec_first.l0]) (ev_ifn (by omega) (ev_some (r := (-1 : Int)) rfl))
  | succ d ih =>
    intro i hi
    have h := ih (i + 1) (by omega)
    rw [show ((i + 1 : Nat) : Int) = (i : Int) + 1 from by omega] at h
    refine Ev.step (fun k => by rw [spec_first.l0, w64 (x := (i : Int) + 1) (by omega) (by omega)]) (ev_ifp (by omega) (ev_ifp (by omega) (ev_bind (newline_tells _) ?_)))
    unfold firstI
    cases h2 : nlp s i with
    | true => exact ev_ifp (by unfold nlp at h2; rw [h2]; rfl) (Ev.now _)
    | false => exact ev_ifn (by unfold nlp at h2; rw [h2]; simp) h
theorem extract_sz (s : ByteArray) (a b : Nat) (h : b ≤ s.size) : (s.extract a b).size = b - a := by
  rw [← ints_length, ints_extract, List.length_take, List.length_drop, ints_length]; omega
theorem specLines_tells : ∀ (n : Nat) (s : ByteArray) (acc : List ByteArray), s.size ≤ n → s.size + acc.length ≤ 8796093022207 → ∃ L : List ByteArray, L.map ints = linesL (ints s) ∧ Ev (fun k => spec_Lines.l0 k s acc) (acc ++ L) := by
  intro n
  induction n with
  | zero =>
    intro s acc hn hb
    have hz : s.size = 0 := by omega
    refine ⟨[s], ?_, ?_⟩
    · have : ints s = [] := List.eq_nil_of_length_eq_zero (by rw [ints_length]; exact hz)
      simp [this, linesL]
    · refine Ev.step (fun k => by rw [spec_Lines.l0]) (ev_bind (first_tells s (by omega)) ?_)
      rw [hz]
      exact ev_ifp (by simp [firstI]) (ev_ifp (by omega) (Ev.now _))
  | succ n ih =>
    intro s acc hn hb
    rcases lines_step s with ⟨h1, h2⟩ | ⟨j, h1, h3, h2⟩
    · refine ⟨[s], by simp [h2], Ev.step (fun k => by rw [spec_Lines.l0]) (ev_bind (first_tells s (by omega)) ?_)⟩
      rw [h1]
      exact ev_ifp (by omega) (ev_ifp (by omega) (Ev.now _))
    · have hz := extract_sz s (j + 1) s.size (Nat.le_refl _)
      obtain ⟨L, hL, hE⟩ := ih (s.extract (j + 1) s.size) (acc ++ [s.extract 0 j]) (by omega) (by rw [List.length_append]; simp; omega)
      refine ⟨s.extract 0 j :: L, by rw [List.map_cons, hL, h2], Ev.step (fun k => by rw [spec_Lines.l0]) (ev_bind (first_tells s (by omega)) ?_)⟩
      rw [h1, w64 (x := (j : Int) + 1) (by omega) (by omega)]
      refine ev_ifn (by omega) (ev_ifp (by omega) (ev_ifp (by omega) (ev_ifp (by omega) (ev_ifp (by omega) (ev_ifp (by omega) ?_)))))
      rw [show ((j : Int) + 1).toNat = j + 1 from by omega, show ((j : Int)).toNat = j from by omega]
      rw [List.append_assoc] at hE
      exact hE
theorem ascii_loop (s : ByteArray) (hs : s.size ≤ 4611686018427387904) (d : Nat) : ∀ i : Nat, i + d = s.size →
    ∃ b, Ev (fun k => spec_ASCII.l0 k s (i : Int)) b ∧ (b = true → s.size ≤ 1000 ∧ ∀ j (hj : j < s.size), i ≤ j → (s.data.toList[j]'(by rw [dlen]; exact hj)).toNat < 128) := by
  induction d with
  | zero =>
    intro i hi
    exact ⟨decide ((s.size : Int) ≤ 1000), Ev.step (fun k => by rw [spec_ASCII.l0]) (ev_ifn (by omega) (Ev.now _)), fun h => ⟨by have := of_decide_eq_true h; omega, fun j hj h => by omega⟩⟩
  | succ d ih =>
    intro i hi
    obtain ⟨b, hb, hq⟩ := ih (i + 1) (by omega)
    rw [show ((i + 1 : Nat) : Int) = (i : Int) + 1 from by omega] at hb
    have e1 := bt_nat s i (by omega)
    by_cases h : (128 : Int) ≤ bt s (i : Int)
    · exact ⟨false, Ev.step (fun k => by rw [spec_ASCII.l0]) (ev_ifp (by omega) (ev_ifp (by omega) (ev_ifp h (Ev.now _)))), fun h => by cases h⟩
    · refine ⟨b, Ev.step (fun k => by rw [spec_ASCII.l0, w64 (x := (i : Int) + 1) (by omega) (by omega)]) (ev_ifp (by omega) (ev_ifp (by omega) (ev_ifn h hb))), fun hbt => ⟨(hq hbt).1, fun j hj hij => ?_⟩⟩
      rcases Nat.eq_or_lt_of_le hij with rfl | hlt
      · omega
      · exact (hq hbt).2 j hj hlt
theorem one7_tells {s : ByteArray} {n : Nat} (hok : OkT s n) {op nn : Int} {text : ByteArray} {flag : Bool} {r : ES × ByteArray} (h : estep ⟨s, n, -1⟩ ⟨op, nn, text, flag⟩ = some r) : laws_one7.f s (n : Int) op nn text flag = some (r.1.t, (r.1.p : Int), r.2, true) := by
  unfold laws_one7.f impl_EditedFrom.f
  rw [if_pos ⟨by omega, by rw [Int.toNat_natCast]; exact hok, by simp⟩]
  have e : erun ⟨s, (n : Int).toNat, -1⟩ ([(⟨op, nn, text, flag⟩ : S30)].map ed_of) = some (r.1, [r.2]) := by
    rw [Int.toNat_natCast]
    simp only [List.map_cons, List.map_nil, ed_of, erun, h, Option.bind_some]
  rw [e]
  simp only [Option.bind_some, if_true, List.length_cons, List.length_nil]
  rfl

/-- Lines with a line feed ahead of each. -/
def tl (M : List (List Int)) : List Int := M.flatMap fun l => 10 :: l
theorem tl_cons (a : List Int) (M : List (List Int)) : tl (a :: M) = 10 :: (a ++ tl M) := by simp [tl]
theorem tl_join (M : List (List Int)) : 10 :: joinL M = tl M ++ [10] := by
  induction M with
  | nil => simp [tl, joinL]
  | cons a M ih => rw [joinL_cons, tl_cons, List.cons_append, List.append_assoc, ← ih]
theorem lines_tl {l h : List Int} {B : List (List Int)} (e : linesL l = h :: B) : l = h ++ tl B := by
  have h1 := linesL_join l
  rw [e, joinL_cons, tl_join, ← List.append_assoc] at h1
  exact (List.append_cancel_right h1).symm
def isb (x : Int) : Bool := decide (x = 32)
theorem drop_lead (l : List Int) : l.drop (l.takeWhile isb).length = l.dropWhile isb := by
  have h := List.takeWhile_append_dropWhile (p := isb) (l := l)
  calc l.drop (l.takeWhile isb).length = (l.takeWhile isb ++ l.dropWhile isb).drop (l.takeWhile isb).length := by rw [h]
    _ = l.dropWhile isb := List.drop_left
theorem dropWhile_app (b : List Int) (hb : ∀ x, b.head? = some x → x ≠ 32) : ∀ a : List Int, (a ++ b).dropWhile isb = a.dropWhile isb ++ b := by
  intro a
  induction a with
  | nil =>
    cases b with
    | nil => rfl
    | cons x b =>
      have := hb x rfl
      simp [isb, this]
  | cons x a ih =>
    by_cases h : x = 32
    · simp [isb, h]; simpa [isb] using ih
    · simp [isb, h]
theorem tl_head (M : List (List Int)) : ∀ x, (tl M).head? = some x → x ≠ 32 := by
  intro x hx
  cases M with
  | nil => simp [tl] at hx
  | cons a M => rw [tl_cons] at hx; simp at hx; omega
theorem strip_ints (s : ByteArray) : ints (s.extract (lead s) s.size) = (ints s).dropWhile isb := by
  have hl := ints_length s
  rw [ints_extract, List.take_of_length_le (by rw [List.length_drop]; omega)]
  exact drop_lead (ints s)
/-- What stands in the loop's body behind the blanks. -/
def cont (k : Nat) (x1 : ByteArray) (x5 : List ByteArray) (x6 : ByteArray) (x8 : Int) (x9 x133000 : ByteArray) (x133001 : Int) : Option Bool :=
  if x1.size + x9.size ≤ 9223372036854775807 then (if x6.size + (x1 ++ x9).size ≤ 9223372036854775807 then ((laws_one7.f x133000 x133001 10 0 x1 false).bind fun bt139 => (if bt139.2.2.2 = true then (laws_FnLinesOne.l0 k x1 x5 (x6 ++ (x1 ++ x9)) (wrap64 (x8 + 1)) bt139.1 bt139.2.1) else (some false))) else (none)) else (none)
theorem strip_tells (x1 : ByteArray) (x5 : List ByteArray) (x6 : ByteArray) (x8 : Int) (u : ByteArray) (v : Int) : ∀ (n : Nat) (x9 : ByteArray), x9.size ≤ n → x9.size ≤ 1000000 → (∀ y : ByteArray, ints y = (ints x9).dropWhile isb → Ev (fun k => cont k x1 x5 x6 x8 y u v) true) → Ev (fun k => laws_FnLinesOne.l1 k x1 x5 x6 x8 x9 u v) true := by
  intro n
  induction n with
  | zero =>
    intro x9 hn hz hy
    have h0 : ints x9 = [] := List.eq_nil_of_length_eq_zero (by rw [ints_length]; omega)
    refine Ev.step (fun k => by rw [laws_FnLinesOne.l1]) (ev_ifn (by omega) ?_)
    exact hy x9 (by rw [h0]; rfl)
  | succ n ih =>
    intro x9 hn hz hy
    by_cases h : (x9.size : Int) > 0
    · have hb := bt_ints x9 0 (by omega)
      have hlen := ints_length x9
      obtain ⟨a, l, hal⟩ : ∃ a l, ints x9 = a :: l := by
        cases hc : ints x9 with
        | nil => rw [hc] at hlen; simp at hlen; omega
        | cons a l => exact ⟨a, l, rfl⟩
      have hb2 : bt x9 0 = a := by
        have := hb
        simp only [hal, List.getElem_cons_zero] at this
        exact this
      refine Ev.step (fun k => by rw [laws_FnLinesOne.l1]) (ev_ifp h (ev_ifp (by omega) ?_))
      by_cases h32 : bt x9 0 = 32
      · refine ev_ifp h32 (ev_ifp (by omega) (ih (x9.extract 1 x9.size) (by rw [extract_sz _ _ _ (Nat.le_refl _)]; omega) (by rw [extract_sz _ _ _ (Nat.le_refl _)]; omega) (fun y hyy => hy y ?_)))
        rw [hyy, ints_extract, hal]
        rw [hb2] at h32
        subst h32
        rw [List.take_of_length_le (by rw [List.length_drop]; rw [hal] at hlen; simp at hlen ⊢; omega)]
        simp [isb]
      · refine ev_ifn h32 ?_
        exact hy x9 (by rw [hal]; rw [hb2] at h32; simp [isb, h32])
    · have h0 : ints x9 = [] := List.eq_nil_of_length_eq_zero (by rw [ints_length]; omega)
      refine Ev.step (fun k => by rw [laws_FnLinesOne.l1]) (ev_ifn h ?_)
      exact hy x9 (by rw [h0]; rfl)
theorem row_zero {t W : ByteArray} {M : List (List Int)} {n : Nat} (hW : 10 ∉ ints W) (hn : n ≤ W.size) (ht : ints t = ints W ++ tl M) : rowB t n = 0 ∧ rowsB t = (linesL (ints W ++ tl M)).length ∧ tailB t n = W.size - n := by
  have hl := ints_length W
  have h1 : (ints t).take n = (ints W).take n := by rw [ht, List.take_append_of_le_length (by omega)]
  have h2 : (ints t).drop n = (ints W).drop n ++ tl M := by rw [ht, List.drop_append_of_le_length (by omega)]
  have h3 : 10 ∉ (ints W).take n := fun h => hW (List.mem_of_mem_take h)
  have h4 : 10 ∉ (ints W).drop n := fun h => hW (List.mem_of_mem_drop h)
  refine ⟨by unfold rowB; rw [h1, linesL_one _ h3]; rfl, by unfold rowsB; rw [ht], ?_⟩
  unfold tailB
  rw [h2]
  cases M with
  | nil => rw [show tl [] = [] from rfl, List.append_nil, linesL_one _ h4]; simp; omega
  | cons a M => rw [tl_cons, linesL_cut _ _ h4]; simp; omega
theorem loop_tells (sep : ByteArray) (hsa : Asc sep) (hsn : 10 ∉ ints sep) (hsz : sep.size ≤ 20) (L : List ByteArray) (hL : L.length ≤ 20) (hfree : ∀ l ∈ L, 10 ∉ ints l) (hLz : ∀ l ∈ L, l.size ≤ 1000) : ∀ (d i : Nat) (W t : ByteArray) (n : Nat), i + d = L.length → 10 ∉ ints W → n ≤ W.size → Asc t → ints t = ints W ++ tl ((L.drop i).map ints) → t.size ≤ 1000 + 20 * i →
    Ev (fun k => laws_FnLinesOne.l0 k sep L W (i : Int) t (n : Int)) true := by
  intro d
  induction d with
  | zero =>
    intro i W t n hi hW hn hta ht htz
    obtain ⟨r1, r2, r3⟩ := row_zero hW hn ht
    have hd : L.drop i = [] := List.drop_eq_nil_of_le (by omega)
    rw [hd, List.map_nil, show tl [] = [] from rfl, List.append_nil] at ht r2
    have htW : t = W := ints_inj ht
    rw [linesL_one _ hW] at r2
    have hok : OkT t n := ⟨by omega, hta, by rw [htW]; exact hn⟩
    have e10 : estep ⟨t, n, -1⟩ ⟨10, 0, sep, false⟩ = some (⟨t, n, -1⟩, ⟨#[]⟩) := by
      unfold estep
      rw [if_pos ⟨hok, by simp, by simp, by show sep.size ≤ 5000; omega, hsa⟩]
      show (if rowB t n + 1 < rowsB t then _ else _) = _
      rw [if_neg (by rw [r1, r2]; simp)]
    refine Ev.step (fun k => by rw [laws_FnLinesOne.l0]) (ev_ifn (by omega) ?_)
    refine ev_bind (ev_const (one7_tells hok e10)) (ev_ifp rfl (ev_ifp (by simp) (ev_some ?_)))
    rw [htW]; simp
  | succ d ih =>
    intro i W t n hi hW hn hta ht htz
    have hlt : i < L.length := by omega
    obtain ⟨r1, r2, r3⟩ := row_zero hW hn ht
    have hd : L.drop i = L[i] :: L.drop (i + 1) := List.drop_eq_getElem_cons hlt
    rw [hd, List.map_cons, tl_cons] at ht r2
    rw [linesL_cut _ _ hW] at r2
    have hr2 : 1 < rowsB t := by
      rw [r2, List.length_cons]
      have := List.length_pos_iff.2 (linesL_ne (ints L[i] ++ tl ((L.drop (i + 1)).map ints)))
      omega
    have hWl := ints_length W
    have hWt : W.size ≤ t.size := by
      have := congrArg List.length ht
      rw [ints_length, List.length_append, hWl] at this
      omega
    have hok : OkT t n := ⟨by omega, hta, by omega⟩
    have he : n + tailB t n = W.size := by rw [r3]; omega
    have e10 : estep ⟨t, n, -1⟩ ⟨10, 0, sep, false⟩ = some (⟨joinT t (n + tailB t n) sep, n + tailB t n, -1⟩, ⟨#[]⟩) := by
      unfold estep
      rw [if_pos ⟨hok, by simp, by simp, by show sep.size ≤ 5000; omega, hsa⟩]
      show (if rowB t n + 1 < rowsB t then _ else _) = _
      rw [if_pos (by rw [r1]; omega)]
    rw [he] at e10
    have hrd : rdOf ByteArray.empty L (i : Int) = L[i] := by
      unfold rdOf
      rw [Int.toNat_natCast, List.getD_eq_getElem?_getD, List.getElem?_eq_getElem hlt]; rfl
    have hmem : L[i] ∈ L := List.getElem_mem hlt
    refine Ev.step (fun k => by rw [laws_FnLinesOne.l0, hrd]) (ev_ifp (by omega) (ev_ifp (by omega) ?_))
    have hLi := hLz _ hmem
    refine strip_tells sep L W (i : Int) t (n : Int) L[i].size L[i] (Nat.le_refl _) (by omega) (fun y hy => ?_)
    have hyz : y.size ≤ L[i].size := by
      rw [← ints_length, hy, ← ints_length]
      exact (List.dropWhile_sublist _).length_le
    have hWz : W.size ≤ 1400 := by omega
    unfold cont
    refine ev_ifp (by omega) (ev_ifp (by rw [ByteArray.size_append]; omega) (ev_bind (ev_const (one7_tells hok e10)) (ev_ifp rfl ?_)))
    rw [w64 (x := (i : Int) + 1) (by omega) (by omega), show (i : Int) + 1 = ((i + 1 : Nat) : Int) from by omega]
    have hyf : 10 ∉ ints y := fun h => hfree _ hmem ((List.dropWhile_sublist _).subset (hy ▸ h))
    have hj : ints (joinT t W.size sep) = ints W ++ (ints sep ++ (ints y ++ tl ((L.drop (i + 1)).map ints))) := by
      unfold joinT
      rw [ints_append, ints_append, strip_ints, ints_extract, ints_extract, List.drop_zero, Nat.sub_zero]
      have hx1 : (ints t).take W.size = ints W := by rw [ht, ← hWl, List.take_left']; rfl
      have hx2 : (ints t).drop (W.size + 1) = ints L[i] ++ tl ((L.drop (i + 1)).map ints) := by
        rw [ht, ← List.drop_drop, ← hWl, List.drop_left' rfl]
        rfl
      rw [hx1, hx2, List.take_of_length_le (by
        have := congrArg List.length hx2
        rw [List.length_drop, ints_length] at this
        omega), dropWhile_app _ (tl_head _), ← hy, List.append_assoc]
    refine ih (i + 1) (W ++ (sep ++ y)) (joinT t W.size sep) W.size (by omega) ?_ (by rw [ByteArray.size_append]; omega) ?_ ?_ ?_
    · rw [ints_append, ints_append]
      simp only [List.mem_append, not_or]
      exact ⟨hW, hsn, hyf⟩
    · unfold joinT
      exact asc_append (asc_append (asc_extract hta _ _) hsa) (asc_extract (asc_extract hta _ _) _ _)
    · rw [hj, ints_append, ints_append]; simp
    · have h1 := congrArg List.length hj
      have h2 := congrArg List.length ht
      have h3 := ints_length sep
      have h4 := ints_length y
      have h5 := ints_length L[i]
      rw [ints_length] at h1 h2
      simp only [List.length_append, List.length_cons] at h1 h2
      omega
theorem FnLinesOne : laws_FnLinesOne.Pure := by
  intro s sep hs hsp
  refine Ev.rounds (r := true) ?_
  have out : ∀ (x5 : List ByteArray), Ev (fun k => laws_FnLinesOne.j1 k s sep x5 true) true := fun x5 => Ev.step (fun k => by rw [laws_FnLinesOne.j1]) (ev_ifp rfl (Ev.now _))
  have far : Ev (fun k => laws_FnLinesOne.j0 k s sep true) true := Ev.step (fun k => by rw [laws_FnLinesOne.j0]) (ev_ifp rfl (Ev.now _))
  unfold laws_FnLinesOne.f
  by_cases g0 : (s.size : Int) > 2147483647
  · exact ev_ifp g0 far
  refine ev_ifn g0 ?_
  by_cases g1 : (sep.size : Int) > 2147483647
  · rw [decide_eq_true g1]; exact far
  rw [decide_eq_false g1]
  obtain ⟨b1, hb1, q1⟩ := ascii_loop s (by omega) s.size 0 (by omega)
  obtain ⟨b2, hb2, q2⟩ := ascii_loop sep (by omega) sep.size 0 (by omega)
  · obtain ⟨L, hL, hE⟩ := specLines_tells s.size s [] (Nat.le_refl _) (by simp; omega)
    obtain ⟨L2, hL2, hE2⟩ := specLines_tells sep.size sep [] (Nat.le_refl _) (by simp; omega)
    rw [List.nil_append] at hE hE2
    replace hE : Ev (fun k => spec_Lines.f k s) L := hE
    replace hE2 : Ev (fun k => spec_Lines.f k sep) L2 := hE2
    replace hb1 : Ev (fun k => spec_ASCII.f k s) b1 := hb1
    replace hb2 : Ev (fun k => spec_ASCII.f k sep) b2 := hb2
    refine Ev.step (fun k => by rw [laws_FnLinesOne.j0]) (ev_ifn Bool.false_ne_true ?_)
    refine ev_bind hE ?_
    refine ev_bind hb1 ?_
    cases b1 with
    | false => exact ev_ifn (by simp) (out _)
    | true =>
      refine ev_ifp rfl ?_
      refine ev_bind hb2 ?_
      cases b2 with
      | false => exact ev_ifn (by simp) (out _)
      | true =>
        refine ev_ifp rfl ?_
        refine ev_bind hE2 ?_
        by_cases c1 : (L2.length : Int) > 1
        · exact ev_ifp c1 (out _)
        refine ev_ifn c1 ?_
        by_cases c2 : (L.length : Int) > 20
        · exact ev_ifp c2 (out _)
        refine ev_ifn c2 ?_
        by_cases c3 : (sep.size : Int) > 20
        · rw [decide_eq_true c3]; exact out _
        rw [decide_eq_false c3]
        have asc : ∀ (u : ByteArray), (∀ j (hj : j < u.size), 0 ≤ j → (u.data.toList[j]'(by rw [dlen]; exact hj)).toNat < 128) → Asc u := fun u h x hx => by
          obtain ⟨j, hj, rfl⟩ := List.getElem_of_mem hx
          exact h j (by rw [← dlen]; exact hj) (Nat.zero_le _)
        have hsa := asc s (q1 rfl).2
        have hspa := asc sep (q2 rfl).2
        have hs1 := (q1 rfl).1
        have hsn : 10 ∉ ints sep := by
          intro h
          have h1 := congrArg List.length hL2
          rw [List.length_map, linesL_count] at h1
          have := List.count_pos_iff.2 h
          omega
        have hfree : ∀ l ∈ L, 10 ∉ ints l := fun l hl => linesL_free (ints s) (ints l) (hL ▸ List.mem_map.2 ⟨l, hl, rfl⟩)
        have hlen : 0 < L.length := by
          have h1 := congrArg List.length hL
          rw [List.length_map, linesL_count] at h1
          omega
        have hL0 : L = L[0] :: L.drop 1 := by
          have := List.drop_eq_getElem_cons (l := L) (i := 0) hlen
          simpa using this
        have hts : ints s = ints L[0] ++ tl ((L.drop 1).map ints) := by
          have h1 := hL
          rw [hL0, List.map_cons] at h1
          exact lines_tl h1.symm
        have hLz : ∀ l ∈ L, l.size ≤ 1000 := by
          intro l hl
          have h1 := linesL_join (ints s)
          rw [← hL] at h1
          obtain ⟨a, b, hab⟩ := List.append_of_mem (List.mem_map.2 ⟨l, hl, rfl⟩ : ints l ∈ L.map ints)
          rw [hab, joinL_append, joinL_cons] at h1
          have h2 := congrArg List.length h1
          simp only [List.length_append, List.length_cons, List.length_nil, ints_length] at h2
          omega
        refine Ev.step (fun k => by rw [laws_FnLinesOne.j1]) (ev_ifn (by simp) (ev_ifp (by omega) ?_))
        have hrd : rdOf ByteArray.empty L 0 = L[0] := by
          unfold rdOf
          rw [show (0 : Int).toNat = 0 from rfl, List.getD_eq_getElem?_getD, List.getElem?_eq_getElem hlen]; rfl
        rw [hrd]
        exact loop_tells sep hspa hsn (by omega) L (by omega) hfree hLz (L.length - 1) 1 L[0] s 0 (by omega) (hfree _ (List.getElem_mem hlen)) (Nat.zero_le _) hsa hts (by omega)
end Go.Proofs.YtkfmjkiefckgoaaDoor.Pure
