/- Whether two texts are the same, and whether one begins with the other one: the pure statement behind the law FnSameRunes; no condition. -/
import Derived.Test.YthkblefeifdhaaaDoorPFnSameRunesx3
import Derived.Test.YthkblefeifdhaaaDoorXPure
namespace Go.Proofs.YthkblefeifdhaaaDoor.Pure
open Go.RowKit Go.Proofs.YthkblefeifdhaaaDoor.R Go.Proofs.YthkblefeifdhaaaDoor.X Go.Proofs.YthkblefeifdhaaaDoor.H Go.Proofs.YthkblefeifdhaaaDoor.PFnSameRunes Go.Proofs.YthkblefeifdhaaaDoorW.PrintWords Go.Proofs.YthkblefeifdhaaaDoorW.PrintLast
set_option linter.unusedVariables false

theorem ascii_loop (s : ByteArray) (hs : s.size ≤ 2147483647) (d : Nat) : ∀ i : Nat, i + d = s.size →
    ∃ b, Ev (fun k => laws_ascii9.l0 k s (s.size : Int) (i : Int)) b ∧ (b = true → s.size ≤ 300 ∧ ∀ j (hj : j < s.size), i ≤ j → (s.data.toList[j]'(by rw [dlen]; exact hj)).toNat < 128) := by
  induction d with
  | zero =>
    intro i hi
    exact ⟨decide ((s.size : Int) ≤ 300), Ev.step (fun k => by rw [laws_ascii9.l0]) (ev_ifn (by omega) (Ev.now _)), fun h => ⟨by have := of_decide_eq_true h; omega, fun j hj h => by omega⟩⟩
  | succ d ih =>
    intro i hi
    obtain ⟨b, hb, hq⟩ := ih (i + 1) (by omega)
    rw [show ((i + 1 : Nat) : Int) = (i : Int) + 1 from by omega] at hb
    have e1 := bt_nat s i (by omega)
    by_cases h : (128 : Int) ≤ bt s (i : Int)
    · exact ⟨false, Ev.step (fun k => by rw [laws_ascii9.l0]) (ev_ifp (by omega) (ev_ifp (by omega) (ev_ifp (by omega) (ev_ifp h (Ev.now _))))), fun h => by cases h⟩
    · refine ⟨b, Ev.step (fun k => by rw [laws_ascii9.l0, w64 (x := (i : Int) + 1) (by omega) (by omega)]) (ev_ifp (by omega) (ev_ifp (by omega) (ev_ifp (by omega) (ev_ifn h hb)))), fun hbt => ⟨(hq hbt).1, fun j hj hij => ?_⟩⟩
      rcases Nat.eq_or_lt_of_le hij with rfl | hlt
      · omega
      · exact (hq hbt).2 j hj hlt
theorem ascii_tells (s : ByteArray) (hs : s.size ≤ 2147483647) : ∃ b, Ev (fun k => laws_ascii9.f k s) b ∧ (b = true → s.size ≤ 300 ∧ Asc s) := by
  obtain ⟨b, hb, hq⟩ := ascii_loop s hs s.size 0 (by omega)
  refine ⟨b, hb, fun h => ⟨(hq h).1, fun x hx => ?_⟩⟩
  obtain ⟨j, hj, rfl⟩ := List.getElem_of_mem hx
  exact (hq h).2 j (by rw [← dlen]; exact hj) (Nat.zero_le _)


theorem whole_tells (l : List ByteArray) (hl : l.length ≤ 1000) (hs : ∀ s ∈ l, s.size ≤ 4611686018427387904) : ∃ b, Ev (fun k => laws_whole9.f k l) b := by
  suffices h : ∀ (d i : Nat), i + d = l.length → ∃ b, Ev (fun k => laws_whole9.l0 k l (l.length : Int) (i : Int)) b from h l.length 0 (by omega)
  intro d
  induction d with
  | zero => intro i hi; exact ⟨true, Ev.step (fun k => by rw [laws_whole9.l0]) (ev_ifn (by omega) (Ev.now _))⟩
  | succ d ih =>
    intro i hi
    have hlt : i < l.length := by omega
    obtain ⟨b, hb⟩ := ih (i + 1) (by omega)
    rw [show ((i + 1 : Nat) : Int) = (i : Int) + 1 from by omega] at hb
    have er : rdOf ByteArray.empty l (i : Int) = l[i] := by
      unfold rdOf
      rw [List.getD_eq_getElem?_getD]
      simp [List.getElem?_eq_getElem hlt]
    have hz := hs _ (List.getElem_mem hlt)
    generalize l[i] = s at *
    have ew : spec_Whole.f s = some (wholeB s) := by unfold spec_Whole.f; rw [if_pos hz]
    by_cases h3 : (s.size : Int) > 300
    · exact ⟨false, Ev.step (fun k => by rw [laws_whole9.l0, er]) (ev_ifp (by omega) (ev_ifp (by omega) (ev_ifp (by omega) (ev_ifp h3 (Ev.now _)))))⟩
    · cases hw : wholeB s with
      | false => exact ⟨false, Ev.step (fun k => by rw [laws_whole9.l0, er, ew, hw]) (ev_ifp (by omega) (ev_ifp (by omega) (ev_ifp (by omega) (ev_ifn h3 (by simp only [Option.bind_some]; exact ev_ifn (by simp) (Ev.now _))))))⟩
      | true => exact ⟨b, Ev.step (fun k => by rw [laws_whole9.l0, er, ew, hw, w64 (x := (i : Int) + 1) (by omega) (by omega)]) (ev_ifp (by omega) (ev_ifp (by omega) (ev_ifp (by omega) (ev_ifn h3 (by simp only [Option.bind_some]; exact ev_ifp trivial hb)))))⟩

def fld (fold : Bool) (c : Int) : Int := if fold = true ∧ 65 ≤ c ∧ c ≤ 90 then c + 32 else c
/-- l begins with p. -/
def beg (fold : Bool) : List Int → List Int → Bool
  | _, [] => true
  | [], _ :: _ => false
  | x :: l, y :: p => (fld fold x == fld fold y) && beg fold l p
theorem folded_tells (c : Int) (fold : Bool) : spec_folded.f c fold = some (fld fold c) := by
  unfold spec_folded.f fld
  cases fold
  · simp
  · by_cases h1 : c ≥ 65 <;> by_cases h2 : c ≤ 90
    · rw [if_pos rfl, if_pos h1, if_pos h2, if_pos ⟨rfl, h1, h2⟩, w32 (x := c + 97) (by omega) (by omega), w32 (by omega) (by omega)]; congr 1; omega
    all_goals simp [h1, h2] <;> omega
theorem drop_rd (l : List Int) (i : Nat) (h : i < l.length) : l.drop i = rd l (i : Int) :: l.drop (i + 1) := by
  rw [rd_nat l i h, List.drop_eq_getElem_cons h]

theorem same_loop (l p : List Int) (fold : Bool) (hl : p.length ≤ l.length) (hl2 : l.length ≤ 4611686018427387904) (d : Nat) : ∀ i : Nat, i + d = p.length →
    Ev (fun k => spec_SameAt.l0 k l p 0 fold (p.length : Int) (i : Int)) (beg fold (l.drop i) (p.drop i)) := by
  induction d with
  | zero =>
    intro i hi
    rw [List.drop_of_length_le (show p.length ≤ i by omega)]
    have : beg fold (l.drop i) [] = true := by cases l.drop i <;> rfl
    rw [this]
    exact Ev.step (fun k => by rw [spec_SameAt.l0]) (ev_ifn (by omega) (Ev.now _))
  | succ d ih =>
    intro i hi
    have h := ih (i + 1) (by omega)
    rw [show ((i + 1 : Nat) : Int) = (i : Int) + 1 from by omega] at h
    rw [drop_rd l i (by omega), drop_rd p i (by omega), beg]
    refine Ev.step (fun k => by rw [spec_SameAt.l0, w64 (x := (0 : Int) + i) (by omega) (by omega), w64 (x := (i : Int) + 1) (by omega) (by omega), Int.zero_add, folded_tells, folded_tells]) ?_
    refine ev_ifp (by omega) (ev_ifp (by omega) (ev_ifp (by omega) ?_))
    simp only [Option.bind_some]
    refine ev_ifp (by omega) (ev_ifp (by omega) ?_)
    by_cases he : fld fold (rd l i) = fld fold (rd p i)
    · rw [beq_iff_eq.2 he, Bool.true_and]; exact ev_ifp he h
    · rw [beq_eq_false_iff_ne.2 he, Bool.false_and]; exact ev_ifn he (Ev.now _)
theorem same_tells (l p : List Int) (fold : Bool) (hl2 : l.length ≤ 4611686018427387904) (hp2 : p.length ≤ 4611686018427387904) : Ev (fun k => spec_SameAt.f k l p 0 fold) (decide (p.length ≤ l.length) && beg fold l p) := by
  unfold spec_SameAt.f
  refine ev_ifn (by omega) (Ev.step (fun k => by rw [spec_SameAt.j0, w64 (x := (0 : Int) + p.length) (by omega) (by omega)]) ?_)
  by_cases h : p.length ≤ l.length
  · rw [decide_eq_true h, Bool.true_and]
    refine ev_ifn (by simp; omega) ?_
    exact same_loop l p fold h hl2 p.length 0 (by omega)
  · rw [decide_eq_false h, Bool.false_and]
    exact ev_ifp (by simp; omega) (Ev.now _)

theorem equal_loop (l p : List Int) (hl : p.length = l.length) (hl2 : l.length ≤ 4611686018427387904) (d : Nat) : ∀ i : Nat, i + d = l.length →
    Ev (fun k => readline_Runes_Equal.l0 k l p (i : Int)) (beg false (l.drop i) (p.drop i)) := by
  induction d with
  | zero =>
    intro i hi
    rw [List.drop_of_length_le (show p.length ≤ i by omega)]
    have : beg false (l.drop i) [] = true := by cases l.drop i <;> rfl
    rw [this]
    exact Ev.step (fun k => by rw [readline_Runes_Equal.l0]) (ev_ifn (by omega) (Ev.now _))
  | succ d ih =>
    intro i hi
    have h := ih (i + 1) (by omega)
    rw [show ((i + 1 : Nat) : Int) = (i : Int) + 1 from by omega] at h
    rw [drop_rd l i (by omega), drop_rd p i (by omega), beg]
    refine Ev.step (fun k => by rw [readline_Runes_Equal.l0, w64 (x := (i : Int) + 1) (by omega) (by omega)]) ?_
    refine ev_ifp (by omega) (ev_ifp (by omega) (ev_ifp (by omega) ?_))
    simp only [fld, Bool.false_eq_true, false_and, if_false]
    by_cases he : rd l i = rd p i
    · rw [beq_iff_eq.2 he, Bool.true_and]; exact ev_ifp he h
    · rw [beq_eq_false_iff_ne.2 he, Bool.false_and]; exact ev_ifn he (Ev.now _)
theorem rune_tells (a b : Int) (ha : 0 ≤ a ∧ a < 128) (hb : 0 ≤ b ∧ b < 128) : Ev (fun k => readline_Runes_EqualRuneFold.f k a b) (fld true a == fld true b) := by
  have inner : ∀ x y : Int, 0 ≤ x → x < y → y < 128 → Ev (fun k => readline_Runes_EqualRune.j0 k x y) (fld true x == fld true y) := by
    intro x y h0 h1 h2
    have j1 : Ev (fun k => readline_Runes_EqualRune.j1 k x y (decide (65 ≤ x ∧ x ≤ 90))) (fld true x == fld true y) := by
      by_cases hx : 65 ≤ x ∧ x ≤ 90
      · rw [decide_eq_true hx]
        refine Ev.step (fun k => by rw [readline_Runes_EqualRune.j1, w32 (x := x + 97) (by omega) (by omega), w32 (x := x + 97 - 65) (by omega) (by omega)]) (ev_ifp rfl ?_)
        by_cases he : y = x + 97 - 65
        · refine ev_ifp he (ev_some ?_)
          symm; rw [beq_iff_eq]; unfold fld
          rw [if_pos ⟨rfl, hx⟩, if_neg (by omega)]; omega
        · refine ev_ifn he (ev_some ?_)
          symm; rw [beq_eq_false_iff_ne]; unfold fld
          rw [if_pos ⟨rfl, hx⟩]; split <;> omega
      · rw [decide_eq_false hx]
        refine Ev.step (fun k => by rw [readline_Runes_EqualRune.j1]) (ev_ifn (by simp) (ev_some ?_))
        symm; rw [beq_eq_false_iff_ne]; unfold fld
        rw [if_neg (by omega)]; split <;> omega
    refine Ev.step (fun k => by rw [readline_Runes_EqualRune.j0]) (ev_ifp h2 ?_)
    by_cases h65 : 65 ≤ x
    · refine ev_ifp h65 ?_
      simpa [h65] using j1
    · refine ev_ifn h65 ?_
      simpa [h65] using j1
  unfold readline_Runes_EqualRuneFold.f
  refine ev_bind (a := (fld true a == fld true b)) ?_ (Ev.now _)
  unfold readline_Runes_EqualRune.f
  by_cases he : a = b
  · refine ev_ifp he (ev_some ?_); rw [he]; simp
  refine ev_ifn he (ev_ifp rfl ?_)
  by_cases hg : a > b
  · refine ev_ifp hg ?_
    have := inner b a hb.1 hg ha.2
    rwa [show (fld true a == fld true b) = (fld true b == fld true a) from by rw [Bool.eq_iff_iff]; simp only [beq_iff_eq]; exact eq_comm]
  · exact ev_ifn hg (inner a b ha.1 (by omega) hb.2)
theorem fold_loop (l p : List Int) (hal : ∀ x ∈ l, 0 ≤ x ∧ x < 128) (hap : ∀ x ∈ p, 0 ≤ x ∧ x < 128) (hl : p.length = l.length) (hl2 : l.length ≤ 4611686018427387904) (d : Nat) : ∀ i : Nat, i + d = l.length →
    Ev (fun k => readline_Runes_EqualFold.l0 k l p (i : Int)) (beg true (l.drop i) (p.drop i)) := by
  induction d with
  | zero =>
    intro i hi
    rw [List.drop_of_length_le (show p.length ≤ i by omega)]
    have : beg true (l.drop i) [] = true := by cases l.drop i <;> rfl
    rw [this]
    exact Ev.step (fun k => by rw [readline_Runes_EqualFold.l0]) (ev_ifn (by omega) (Ev.now _))
  | succ d ih =>
    intro i hi
    have h := ih (i + 1) (by omega)
    rw [show ((i + 1 : Nat) : Int) = (i : Int) + 1 from by omega] at h
    have g1 := hal _ (List.getElem_mem (show i < l.length by omega))
    have g2 := hap _ (List.getElem_mem (show i < p.length by omega))
    rw [← rd_nat l i (by omega)] at g1
    rw [← rd_nat p i (by omega)] at g2
    rw [drop_rd l i (by omega), drop_rd p i (by omega), beg]
    refine Ev.step (fun k => by rw [readline_Runes_EqualFold.l0, w64 (x := (i : Int) + 1) (by omega) (by omega)]) ?_
    refine ev_ifp (by omega) (ev_ifp (by omega) (ev_ifp (by omega) ?_))
    refine ev_bind (rune_tells _ _ g1 g2) ?_
    cases he : (fld true (rd l i) == fld true (rd p i)) with
    | true => rw [Bool.true_and]; exact ev_ifp rfl h
    | false => rw [Bool.false_and]; exact ev_ifn (by simp) (Ev.now _)
theorem beg_take (fold : Bool) : ∀ l p : List Int, beg fold (l.take p.length) p = beg fold l p
  | [], [] => rfl
  | _ :: _, [] => rfl
  | [], _ :: _ => rfl
  | x :: l, y :: p => by simp [beg, beg_take fold l p]

/-- The texts' code points are of ASCII, if cases do not count. -/
def Fit (fold : Bool) (l : List Int) : Prop := l.length ≤ 2147483647 ∧ (fold = true → ∀ x ∈ l, 0 ≤ x ∧ x < 128)
theorem equal_tells (fold : Bool) (l p : List Int) (hl : Fit fold l) (hp : Fit fold p) :
    (fold = true → Ev (fun k => readline_Runes_EqualFold.f k l p) (decide (l.length = p.length) && beg fold l p)) ∧ (fold = false → Ev (fun k => readline_Runes_Equal.f k l p) (decide (l.length = p.length) && beg fold l p)) := by
  constructor
  · rintro rfl
    unfold readline_Runes_EqualFold.f
    by_cases h : l.length = p.length
    · rw [decide_eq_true h, Bool.true_and]
      exact ev_ifp (by omega) (fold_loop l p (hl.2 rfl) (hp.2 rfl) h.symm (by have := hl.1; omega) l.length 0 (by omega))
    · rw [decide_eq_false h, Bool.false_and]
      exact ev_ifn (by omega) (Ev.now _)
  · rintro rfl
    unfold readline_Runes_Equal.f
    by_cases h : l.length = p.length
    · rw [decide_eq_true h, Bool.true_and]
      exact ev_ifp (by omega) (equal_loop l p h.symm (by have := hl.1; omega) l.length 0 (by omega))
    · rw [decide_eq_false h, Bool.false_and]
      exact ev_ifn (by omega) (Ev.now _)
theorem sameRunes_tells (a b : ByteArray) (fold : Bool) (hl : Fit fold (runesOf a)) (hp : Fit fold (runesOf b)) : Ev (fun k => impl_SameRunes.f k a b fold) (decide ((runesOf a).length = (runesOf b).length) && beg fold (runesOf a) (runesOf b)) := by
  have h := equal_tells fold _ _ hl hp
  have h1 := hl.1
  have h2 := hp.1
  unfold impl_SameRunes.f
  cases fold with
  | true => exact ev_ifp rfl (ev_ifp (by omega) (ev_ifp (by omega) (ev_bind (h.1 rfl) (Ev.now _))))
  | false => exact ev_ifn (by simp) (ev_ifp (by omega) (ev_ifp (by omega) (ev_bind (h.2 rfl) (Ev.now _))))
theorem beginsRunes_tells (a b : ByteArray) (fold : Bool) (hl : Fit fold (runesOf a)) (hp : Fit fold (runesOf b)) : Ev (fun k => impl_BeginsRunes.f k a b fold) (decide ((runesOf b).length ≤ (runesOf a).length) && beg fold (runesOf a) (runesOf b)) := by
  have h1 := hl.1
  have h2 := hp.1
  have ht : Fit fold ((runesOf a).take (((runesOf b).length : Int) : Int).toNat) := ⟨by simp; omega, fun hf x hx => hl.2 hf x (List.mem_of_mem_take hx)⟩
  have h := equal_tells fold _ _ ht hp
  rw [Int.toNat_natCast] at h
  rw [beg_take] at h
  unfold impl_BeginsRunes.f
  cases fold with
  | true =>
    refine ev_ifp rfl (ev_ifp (by omega) (ev_ifp (by omega) (ev_bind (a := decide ((runesOf b).length ≤ (runesOf a).length) && beg true (runesOf a) (runesOf b)) ?_ (Ev.now _))))
    unfold readline_Runes_HasPrefixFold.f
    by_cases hle : (runesOf b).length ≤ (runesOf a).length
    · rw [decide_eq_true hle, Bool.true_and]
      rw [decide_eq_true (show ((runesOf a).take (runesOf b).length).length = (runesOf b).length by simp; omega), Bool.true_and] at h
      refine ev_ifn (by omega) (ev_ifp (by omega) (ev_ifp (by omega) (ev_bind ?_ (Ev.now _))))
      simpa using h.1 rfl
    · rw [decide_eq_false hle, Bool.false_and]
      exact ev_ifp (by omega) (Ev.now _)
  | false =>
    refine ev_ifn (by simp) (ev_ifp (by omega) (ev_ifp (by omega) (ev_bind (a := decide ((runesOf b).length ≤ (runesOf a).length) && beg false (runesOf a) (runesOf b)) ?_ (Ev.now _))))
    unfold readline_Runes_HasPrefix.f
    by_cases hle : (runesOf b).length ≤ (runesOf a).length
    · rw [decide_eq_true hle, Bool.true_and]
      rw [decide_eq_true (show ((runesOf a).take (runesOf b).length).length = (runesOf b).length by simp; omega), Bool.true_and] at h
      refine ev_ifn (by omega) (ev_ifp (by omega) (ev_ifp (by omega) (ev_bind ?_ (Ev.now _))))
      simpa using h.2 rfl
    · rw [decide_eq_false hle, Bool.false_and]
      exact ev_ifp (by omega) (Ev.now _)

theorem FnSameRunes : laws_FnSameRunes.Pure := by
  intro a b fold ha0 hb0
  refine Ev.rounds (r := true) ?_
  have over : Ev (fun k => laws_FnSameRunes.j1 k a b fold true) true := Ev.step (fun k => by rw [laws_FnSameRunes.j1]) (ev_ifp rfl (Ev.now _))
  have one : Ev (fun k => impl_SameRunes.f k (⟨#[97]⟩ : ByteArray) (⟨#[97]⟩ : ByteArray) false) true := by
    have hr : runesOf (⟨#[97]⟩ : ByteArray) = [97] := by
      rw [runesOf_asc (by intro x hx; simp at hx; subst hx; decide)]
      rfl
    have := sameRunes_tells (⟨#[97]⟩ : ByteArray) (⟨#[97]⟩ : ByteArray) false ⟨by rw [hr]; simp, by simp⟩ ⟨by rw [hr]; simp, by simp⟩
    rw [hr] at this
    simpa [beg] using this
  have main : a.size ≤ 2147483647 → b.size ≤ 2147483647 → (fold = true → Asc a ∧ Asc b) → Ev (fun k => laws_FnSameRunes.j1 k a b fold false) true := by
    intro ha hb hf
    have la := runesOf_length a
    have lb := runesOf_length b
    have fa : Fit fold (runesOf a) := ⟨by omega, fun h => by rw [runesOf_asc (hf h).1]; exact asc_ints (hf h).1⟩
    have fb : Fit fold (runesOf b) := ⟨by omega, fun h => by rw [runesOf_asc (hf h).2]; exact asc_ints (hf h).2⟩
    have e1 := sameRunes_tells a b fold fa fb
    have e2 := beginsRunes_tells a b fold fa fb
    have e3 := same_tells (runesOf a) (runesOf b) fold (by omega) (by omega)
    have last : ∀ t, t = (decide ((runesOf a).length = (runesOf b).length) && beg fold (runesOf a) (runesOf b)) → Ev (fun k => laws_FnSameRunes.j2 k a b fold (runesOf a) (runesOf b) t) true := by
      rintro t rfl
      refine Ev.step (fun k => by rw [laws_FnSameRunes.j2]) (ev_bind e1 (ev_ifp (beq_self_eq_true _) ?_))
      by_cases hne : b.toList = ([] : List UInt8)
      · exact ev_ifp hne (ev_bind one (Ev.now _))
      · exact ev_ifn hne (ev_bind e2 (ev_bind e3 (ev_ifp (beq_self_eq_true _) (ev_bind one (Ev.now _)))))
    refine Ev.step (fun k => by rw [laws_FnSameRunes.j1]) (ev_ifn (by simp) (ev_ifp (by omega) ?_))
    simp only [Option.bind_some]
    refine ev_ifp (by omega) ?_
    by_cases hle : (runesOf a).length = (runesOf b).length
    · refine ev_ifp (by omega) (ev_bind e3 (last _ ?_))
      rw [decide_eq_true hle, decide_eq_true (show (runesOf b).length ≤ (runesOf a).length by omega)]
    · refine ev_ifn (by omega) (last _ ?_)
      rw [decide_eq_false hle]; rfl
  have start : ∀ c : Bool, (c = false → a.size ≤ 2147483647 ∧ b.size ≤ 2147483647) → Ev (fun k => laws_FnSameRunes.j0 k a b fold c) true := by
    intro c hc
    refine Ev.step (fun k => by rw [laws_FnSameRunes.j0]) ?_
    cases c with
    | true => exact ev_ifp rfl (Ev.now _)
    | false =>
      obtain ⟨ha, hb⟩ := hc rfl
      refine ev_ifn (by simp) ?_
      obtain ⟨t, ht⟩ := whole_tells [a, b] (by simp) (by intro s hs; simp at hs; rcases hs with rfl | rfl <;> omega)
      refine ev_bind ht ?_
      cases t with
      | false => exact ev_ifn (by simp) over
      | true =>
        refine ev_ifp rfl ?_
        cases fold with
        | false => exact ev_ifn (by simp) (main ha hb (by simp))
        | true =>
          refine ev_ifp rfl ?_
          obtain ⟨b1, h1, q1⟩ := ascii_tells a ha
          refine ev_bind h1 ?_
          cases b1 with
          | false => exact ev_ifn (by simp) over
          | true =>
            refine ev_ifp rfl ?_
            obtain ⟨b2, h2, q2⟩ := ascii_tells b hb
            refine ev_bind h2 ?_
            cases b2 with
            | false => exact over
            | true => exact main ha hb (fun _ => ⟨(q1 rfl).2, (q2 rfl).2⟩)
  unfold laws_FnSameRunes.f
  by_cases g0 : (a.size : Int) > 2147483647
  · exact ev_ifp g0 (start true (by simp))
  refine ev_ifn g0 (start _ fun h => ?_)
  have := of_decide_eq_false h
  omega
end Go.Proofs.YthkblefeifdhaaaDoor.Pure
