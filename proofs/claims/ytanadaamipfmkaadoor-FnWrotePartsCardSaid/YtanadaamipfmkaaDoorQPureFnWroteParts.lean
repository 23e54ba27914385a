/- What a writer has of two rows of steps is what it has of both: the pure statement behind the law FnWroteParts; no condition. -/
import Derived.Test.YtanadaamipfmkaaDoorQPFnWrotePartsx2
import Derived.Test.YtanadaamipfmkaaDoorQXPure
namespace Go.Proofs.YtanadaamipfmkaaDoor.Pure
open Go.RowKit Go.Proofs.YtanadaamipfmkaaDoor.R Go.Proofs.YtanadaamipfmkaaDoor.X Go.Proofs.YtanadaamipfmkaaDoor.PFnWroteParts Go.Proofs.YtanadaamipfmkaaDoor.H Go.Proofs.YtanadaamipfmkaaDoorW.PrintWords Go.Proofs.YtanadaamipfmkaaDoorW.PrintLast
set_option linter.unusedVariables false
theorem rd_at (l : List S38) (i : Nat) (h : i < l.length) : rd_T38 l (i : Int) = l[i] := by
  unfold rd_T38
  rw [Int.toNat_natCast, List.getD_eq_getElem?_getD, List.getElem?_eq_getElem h]
  rfl
theorem fits_tells (l : List S38) (hl : l.length ≤ maxLen) : ∃ b, Ev (fun k => laws_zzFits9.f k l) b ∧ (b = true → ∀ x ∈ l, x.f3.size ≤ 2147483647) := by
  unfold maxLen at hl
  unfold laws_zzFits9.f
  by_cases hz : (l.length : Int) > 2147483647
  · exact ⟨false, ev_ifp hz (Ev.now _), by simp⟩
  suffices h : ∀ d i : Nat, i + d = l.length → ∃ b, Ev (fun k => laws_zzFits9.l0 k l (l.length : Int) (i : Int)) b ∧ (b = true → ∀ j (hj : j < l.length), i ≤ j → l[j].f3.size ≤ 2147483647) by
    obtain ⟨b, h1, h2⟩ := h l.length 0 (by omega)
    refine ⟨b, ev_ifn hz h1, fun hb x hx => ?_⟩
    obtain ⟨j, hj, rfl⟩ := List.getElem_of_mem hx
    exact h2 hb j hj (by omega)
  intro d
  induction d with
  | zero => intro i hi; exact ⟨true, Ev.step (fun k => by rw [laws_zzFits9.l0]) (ev_ifn (by omega) (Ev.now _)), fun _ j hj hij => by omega⟩
  | succ d ih =>
    intro i hi
    obtain ⟨b, h1, h2⟩ := ih (i + 1) (by omega)
    rw [show ((i + 1 : Nat) : Int) = (i : Int) + 1 from by omega] at h1
    have hr := rd_at l i (by omega)
    by_cases hs : ((l[i]'(by omega)).f3.size : Int) > 2147483647
    · have hf : laws_zzFits10.f (l[i]'(by omega)).f0 (l[i]'(by omega)).f1 (l[i]'(by omega)).f2 (l[i]'(by omega)).f3 = some false := if_pos hs
      refine ⟨false, Ev.step (fun k => by rw [laws_zzFits9.l0, hr, hf, Option.bind_some]) (ev_ifp (by omega) (ev_ifp (by omega) (ev_ifp (by omega) (ev_ifn (show ¬ (false = true) by decide) (Ev.now _))))), by simp⟩
    · have hf : laws_zzFits10.f (l[i]'(by omega)).f0 (l[i]'(by omega)).f1 (l[i]'(by omega)).f2 (l[i]'(by omega)).f3 = some true := if_neg hs
      refine ⟨b, Ev.step (fun k => by rw [laws_zzFits9.l0, hr, w64 (x := (i : Int) + 1) (by omega) (by omega)]) (ev_ifp (by omega) (ev_ifp (by omega) (ev_ifp (by omega) (ev_bind (ev_const hf) (ev_ifp rfl h1))))), fun hb j hj hij => ?_⟩
      rcases Nat.eq_or_lt_of_le hij with rfl | hlt
      · omega
      · exact h2 hb j hj hlt
theorem has_tells (s : ByteArray) (c : Int) (hs : s.size ≤ 1000) : ∃ b, Ev (fun k => spec_hasByte.f k s c) b := by
  unfold spec_hasByte.f
  suffices h : ∀ d i : Nat, i + d = s.size → ∃ b, Ev (fun k => spec_hasByte.l0 k s c (i : Int)) b from h s.size 0 (by omega)
  intro d
  induction d with
  | zero => intro i hi; exact ⟨false, Ev.step (fun k => by rw [spec_hasByte.l0]) (ev_ifn (by omega) (Ev.now _))⟩
  | succ d ih =>
    intro i hi
    obtain ⟨b, h⟩ := ih (i + 1) (by omega)
    rw [show ((i + 1 : Nat) : Int) = (i : Int) + 1 from by omega] at h
    by_cases hb : bt s (i : Int) = c
    · exact ⟨true, Ev.step (fun k => by rw [spec_hasByte.l0]) (ev_ifp (by omega) (ev_ifp (by omega) (ev_ifp hb (Ev.now _))))⟩
    · exact ⟨b, Ev.step (fun k => by rw [spec_hasByte.l0, w64 (x := (i : Int) + 1) (by omega) (by omega)]) (ev_ifp (by omega) (ev_ifp (by omega) (ev_ifn hb h)))⟩
theorem first_tells (s t : ByteArray) (no : Bool) (hs : s.size ≤ 1000) (ht : t.size ≤ 1000) : ∃ b, Ev (fun k => spec_first.f k s t no) b := by
  unfold spec_first.f
  suffices h : ∀ d i : Nat, i + d = s.size → ∃ b, Ev (fun k => spec_first.l0 k s t no (i : Int)) b from h s.size 0 (by omega)
  intro d
  induction d with
  | zero => intro i hi; exact ⟨-1, Ev.step (fun k => by rw [spec_first.l0]) (ev_ifn (by omega) (Ev.now _))⟩
  | succ d ih =>
    intro i hi
    obtain ⟨b, h⟩ := ih (i + 1) (by omega)
    rw [show ((i + 1 : Nat) : Int) = (i : Int) + 1 from by omega] at h
    obtain ⟨q, hq⟩ := has_tells t (bt s (i : Int)) ht
    by_cases hb : (q != no) = true
    · exact ⟨(i : Int), Ev.step (fun k => by rw [spec_first.l0]) (ev_ifp (by omega) (ev_ifp (by omega) (ev_bind hq (ev_ifp hb (Ev.now _)))))⟩
    · exact ⟨b, Ev.step (fun k => by rw [spec_first.l0, w64 (x := (i : Int) + 1) (by omega) (by omega)]) (ev_ifp (by omega) (ev_ifp (by omega) (ev_bind hq (ev_ifn hb h))))⟩
/-- A step that is looked at. -/
structure Right (x : S38) : Prop where
  size : x.f3.size ≤ 1000
  op0 : 1 ≤ x.f0
  op1 : x.f0 ≤ 22
  n0 : -9999 ≤ x.f1
  n1 : x.f1 ≤ 9999
  m0 : 0 ≤ x.f2
  m1 : x.f2 ≤ 9999
  goto : x.f0 = 7 → 0 ≤ x.f1
theorem right_tells (x : S38) (hs : x.f3.size ≤ 2147483647) : ∃ b, Ev (fun k => spec_OutRight.f k x.f0 x.f1 x.f2 x.f3) b ∧ (b = true → Right x) := by
  unfold spec_OutRight.f
  by_cases h1 : x.f0 < 1
  · exact ⟨false, ev_ifp h1 (Ev.now _), by simp⟩
  by_cases h2 : x.f0 > 22
  · exact ⟨false, ev_ifn h1 (ev_ifp h2 (Ev.now _)), by simp⟩
  have e0 : spec_UTF8.f x.f3 = some (utf8B x.f3) := if_pos (by omega)
  by_cases hu : utf8B x.f3 = true
  · have hsz := utf8_size hu
    have e1 : spec_UTF8.f x.f3 = some true := by rw [e0, hu]
    by_cases h3 : x.f1 < -9999
    · exact ⟨false, ev_ifn h1 (ev_ifn h2 (ev_bind (ev_const e1) (ev_ifp rfl (ev_ifp h3 (Ev.now _))))), by simp⟩
    by_cases h4 : x.f1 > 9999
    · exact ⟨false, ev_ifn h1 (ev_ifn h2 (ev_bind (ev_const e1) (ev_ifp rfl (ev_ifn h3 (ev_ifp h4 (Ev.now _)))))), by simp⟩
    by_cases h5 : x.f2 < 0
    · exact ⟨false, ev_ifn h1 (ev_ifn h2 (ev_bind (ev_const e1) (ev_ifp rfl (ev_ifn h3 (ev_ifn h4 (ev_ifp h5 (Ev.now _))))))), by simp⟩
    by_cases h6 : x.f2 > 9999
    · exact ⟨false, ev_ifn h1 (ev_ifn h2 (ev_bind (ev_const e1) (ev_ifp rfl (ev_ifn h3 (ev_ifn h4 (ev_ifn h5 (ev_ifp h6 (Ev.now _)))))))), by simp⟩
    obtain ⟨q, hq⟩ := first_tells x.f3 ⟨#[19, 7, 27]⟩ false hsz (by decide)
    by_cases h7 : x.f0 = 7
    · by_cases h8 : x.f1 < 0
      · exact ⟨false, ev_ifn h1 (ev_ifn h2 (ev_bind (ev_const e1) (ev_ifp rfl (ev_ifn h3 (ev_ifn h4 (ev_ifn h5 (ev_ifn h6 (ev_ifp h7 (ev_ifp h8 (Ev.now _)))))))))), by simp⟩
      · exact ⟨true, ev_ifn h1 (ev_ifn h2 (ev_bind (ev_const e1) (ev_ifp rfl (ev_ifn h3 (ev_ifn h4 (ev_ifn h5 (ev_ifn h6 (ev_ifp h7 (ev_ifn h8 (ev_ifn (by omega) (Ev.now _))))))))))), fun _ => ⟨hsz, by omega, by omega, by omega, by omega, by omega, by omega, fun _ => by omega⟩⟩
    · by_cases h9 : x.f0 = 21
      · exact ⟨decide (q < 0), ev_ifn h1 (ev_ifn h2 (ev_bind (ev_const e1) (ev_ifp rfl (ev_ifn h3 (ev_ifn h4 (ev_ifn h5 (ev_ifn h6 (ev_ifn h7 (ev_ifp h9 (ev_bind hq (Ev.now _))))))))))), fun _ => ⟨hsz, by omega, by omega, by omega, by omega, by omega, by omega, fun h => absurd h h7⟩⟩
      · exact ⟨true, ev_ifn h1 (ev_ifn h2 (ev_bind (ev_const e1) (ev_ifp rfl (ev_ifn h3 (ev_ifn h4 (ev_ifn h5 (ev_ifn h6 (ev_ifn h7 (ev_ifn h9 (Ev.now _)))))))))), fun _ => ⟨hsz, by omega, by omega, by omega, by omega, by omega, by omega, fun h => absurd h h7⟩⟩
  · exact ⟨false, ev_ifn h1 (ev_ifn h2 (ev_bind (a := false) (ev_const (by rw [e0]; simpa using hu)) (ev_ifn (by simp) (Ev.now _)))), by simp⟩
/-- A text in which one byte is another text. -/
def repL (b : UInt8) (nw : ByteArray) (l : List Int) : List Int := l.flatMap fun x => if x = (b.toNat : Int) then bytesOf nw else [x]
theorem repL_append (b : UInt8) (nw : ByteArray) (a c : List Int) : repL b nw (a ++ c) = repL b nw a ++ repL b nw c := by simp [repL]
theorem repL_length (b : UInt8) (nw : ByteArray) (hn : nw.size ≤ 1) : ∀ l, (repL b nw l).length ≤ l.length
  | [] => by simp [repL]
  | x :: l => by
    have := repL_length b nw hn l
    have hb : (bytesOf nw).length = nw.size := bytesOf_length nw
    rw [show x :: l = [x] ++ l from rfl, repL_append]
    simp only [List.length_append, List.length_cons, List.length_nil]
    have : (repL b nw [x]).length ≤ 1 := by
      unfold repL
      simp only [List.flatMap_cons, List.flatMap_nil, List.append_nil]
      split
      · omega
      · simp
    omega
theorem one_eq (s : ByteArray) (b : UInt8) (i : Nat) (h : i < s.size) : (s.extract i (i + 1)).toList = (⟨#[b]⟩ : ByteArray).toList ↔ bt s (i : Int) = (b.toNat : Int) := by
  have e : ints (s.extract i (i + 1)) = [bt s (i : Int)] := by
    rw [ints_extract, show i + 1 - i = 1 from by omega, List.drop_eq_getElem_cons (by rw [ints_length]; exact h), bt_ints s i h]
    rfl
  rw [ByteArray.toList_eq, ByteArray.toList_eq]
  constructor
  · intro h1
    have e2 : ints (s.extract i (i + 1)) = ints ⟨#[b]⟩ := by unfold ints; rw [h1]
    rw [e, show ints (⟨#[b]⟩ : ByteArray) = [(b.toNat : Int)] from rfl] at e2
    exact List.head_eq_of_cons_eq e2
  · intro h1
    rw [h1] at e
    have : s.extract i (i + 1) = ⟨#[b]⟩ := ints_inj e
    rw [this]
theorem rep_tells (s : ByteArray) (b : UInt8) (nw : ByteArray) (hn : nw.size ≤ 1) (hs : s.size ≤ 1000) : ∃ r, Ev (fun k => PzzReplaceAll.goprompt_zzReplaceAll.f k s ⟨#[b]⟩ nw) r ∧ r.size ≤ 1000 := by
  refine ⟨strOfNums (repL b nw (ints s)), ?_, ?_⟩
  · unfold PzzReplaceAll.goprompt_zzReplaceAll.f
    have hl := ints_length s
    suffices h : ∀ d i : Nat, i + d = s.size → Ev (fun k => PzzReplaceAll.goprompt_zzReplaceAll.l0 k s ⟨#[b]⟩ nw (repL b nw ((ints s).take i)) (i : Int)) (strOfNums (repL b nw (ints s))) by
      have := h s.size 0 (by omega)
      simpa [repL] using this
    intro d
    induction d with
    | zero =>
      intro i hi
      refine Ev.step (fun k => by rw [PzzReplaceAll.goprompt_zzReplaceAll.l0]) (ev_ifn (by omega) (ev_some ?_))
      rw [List.take_of_length_le (by omega)]
    | succ d ih =>
      intro i hi
      have h := ih (i + 1) (by omega)
      rw [show ((i + 1 : Nat) : Int) = (i : Int) + 1 from by omega, List.take_succ_eq_append_getElem (by omega), repL_append, ← bt_ints s i (by omega)] at h
      have hlt := repL_length b nw hn ((ints s).take i)
      have hlt2 : ((ints s).take i).length ≤ 1000 := by rw [List.length_take]; omega
      have e1 : ((⟨#[b]⟩ : ByteArray).size : Int) = 1 := rfl
      refine Ev.step (fun k => by rw [PzzReplaceAll.goprompt_zzReplaceAll.l0, e1, w64 (x := (i : Int) + 1) (by omega) (by omega), w64 (x := (s.size : Int) - (i : Int)) (by omega) (by omega), show ((i : Int) + 1).toNat = i + 1 from by omega, show ((i : Int)).toNat = i from by omega]) (ev_ifp (by omega) (ev_ifp (by omega) (ev_ifp (by omega) (ev_ifp (by omega) (ev_ifp (by omega) ?_)))))
      have ho := one_eq s b i (by omega)
      by_cases h27 : bt s (i : Int) = (b.toNat : Int)
      · rw [show repL b nw [bt s (i : Int)] = bytesOf nw by simp [repL, h27]] at h
        exact ev_ifp (ho.2 h27) (ev_ifp (by omega) h)
      · rw [show repL b nw [bt s (i : Int)] = [bt s (i : Int)] by simp [repL, h27]] at h
        exact ev_ifn (fun e => h27 (ho.1 e)) (ev_ifp (by omega) h)
  · have := repL_length b nw hn (ints s)
    rw [ints_length] at this
    rw [← dlen, strOfNums_data, List.length_map]
    omega
theorem out_tells (x : S38) (h : Right x) : ∃ o, Ev (fun k => outB k (ow_of x)) o ∧ o.length ≤ 2000 := by
  suffices hx : ∃ o, Ev (fun k => outB k (ow_of x)) o by
    obtain ⟨o, ho⟩ := hx
    obtain ⟨k, hk⟩ := ho.rounds
    exact ⟨o, ho, (does_of hk).2.1⟩
  obtain ⟨op, n, m, s⟩ := x
  obtain ⟨hs, o0, o1, n0, n1, m0, m1, hg⟩ := h
  dsimp only at *
  unfold outB ow_of
  dsimp only
  by_cases ht : op = 1 ∨ op = 2 ∨ op = 21
  · suffices hx : ∃ o, Ev (fun k => outT k ⟨op, n, m, s⟩) o by
      obtain ⟨o, ho⟩ := hx
      exact ⟨o, ev_ifp ⟨hs, n0, n1, m0, m1⟩ (ev_ifp ht ho)⟩
    unfold outT
    dsimp only
    by_cases h1 : op = 1
    · obtain ⟨r, hr, hz⟩ := rep_tells s 27 ⟨#[63]⟩ (by decide) hs
      exact ⟨_, ev_ifp h1 (ev_bind hr (ev_ifp hz (Ev.now _)))⟩
    · by_cases h2 : op = 2
      · exact ⟨_, ev_ifn h1 (ev_ifp h2 (Ev.now _))⟩
      · have h3 : op = 21 := by omega
        obtain ⟨r, hr, hz⟩ := rep_tells s 19 ⟨#[]⟩ (by decide) hs
        obtain ⟨q, hq, hy⟩ := rep_tells r 7 ⟨#[]⟩ (by decide) hz
        exact ⟨_, ev_ifn h1 (ev_ifn h2 (ev_ifp h3 (ev_bind hr (ev_bind hq (ev_ifp ⟨hz, hy⟩ (Ev.now _))))))⟩
  · by_cases h7 : op ≤ 7
    · suffices hx : ∃ o, ∀ k, outM k ⟨op, n, m, s⟩ = some o by
        obtain ⟨o, ho⟩ := hx
        exact ⟨o, ev_ifp ⟨hs, n0, n1, m0, m1⟩ (ev_ifn ht (ev_ifp h7 (Ev.congr ho (Ev.now _))))⟩
      have : op = 3 ∨ op = 4 ∨ op = 5 ∨ op = 6 ∨ op = 7 := by omega
      rcases this with rfl | rfl | rfl | rfl | rfl
      · exact ⟨_, fun k => rfl⟩
      · exact ⟨_, fun k => rfl⟩
      · exact ⟨_, fun k => rfl⟩
      · exact ⟨_, fun k => rfl⟩
      · exact ⟨_, fun k => by unfold outM; simp only [Int.reduceEq, if_false, if_true]; exact if_pos (hg rfl)⟩
    · suffices hx : ∃ o, outL op = some o by
        obtain ⟨o, ho⟩ := hx
        exact ⟨o, ev_ifp ⟨hs, n0, n1, m0, m1⟩ (ev_ifn ht (ev_ifn h7 (ev_const ho)))⟩
      have : op = 8 ∨ op = 9 ∨ op = 10 ∨ op = 11 ∨ op = 12 ∨ op = 13 ∨ op = 14 ∨ op = 15 ∨ op = 16 ∨ op = 17 ∨ op = 18 ∨ op = 19 ∨ op = 20 ∨ op = 22 := by omega
      rcases this with rfl | rfl | rfl | rfl | rfl | rfl | rfl | rfl | rfl | rfl | rfl | rfl | rfl | rfl <;> exact ⟨_, rfl⟩
theorem outs_tells : ∀ l : List S38, (∀ x ∈ l, Right x) → ∃ o, Ev (fun k => outs k (l.map ow_of)) o ∧ o.length ≤ 2000 * l.length
  | [], _ => ⟨[], Ev.now _, by simp⟩
  | x :: l, h => by
    obtain ⟨o, ho, hl⟩ := out_tells x (h x (by simp))
    obtain ⟨r, hr, hm⟩ := outs_tells l fun y hy => h y (by simp [hy])
    exact ⟨o ++ r, ev_bind ho (ev_bind hr (Ev.now _)), by simp only [List.length_append, List.length_cons]; omega⟩
theorem outs_append (k : Nat) : ∀ a b : List Ow, outs k (a ++ b) = (outs k a).bind fun x => (outs k b).bind fun y => some (x ++ y)
  | [], b => by show outs k b = (outs k b).bind fun y => some ([] ++ y); simp
  | x :: a, b => by
    show ((outB k x).bind fun o => (outs k (a ++ b)).bind fun r => some (o ++ r)) = ((outB k x).bind fun o => (outs k a).bind fun r => some (o ++ r)).bind _
    cases outB k x with
    | none => rfl
    | some o =>
      simp only [Option.bind_some]
      rw [outs_append k a b]
      cases outs k a with
      | none => rfl
      | some p =>
        simp only [Option.bind_some]
        cases outs k b with
        | none => rfl
        | some q => simp
theorem strOf_append (a b : List Int) : strOfNums (a ++ b) = strOfNums a ++ strOfNums b := str_ext (by simp [strOfNums_data])
theorem strOf_size (a : List Int) : (strOfNums a).size = a.length := by rw [← dlen, strOfNums_data, List.length_map]
theorem FnWroteParts : laws_FnWroteParts.Pure := by
  intro l0 l1 hl0 _ hl1 _
  refine Ev.rounds (r := true) ?_
  unfold laws_FnWroteParts.f
  obtain ⟨b0, e0, q0⟩ := fits_tells l0 hl0
  obtain ⟨b1, e1, q1⟩ := fits_tells l1 hl1
  refine ev_bind e0 ?_
  cases b0 with
  | false => exact ev_ifn (by simp) (Ev.step (fun k => by rw [laws_FnWroteParts.j0]) (ev_ifp rfl (Ev.now _)))
  | true =>
    refine ev_ifp rfl (ev_bind e1 ?_)
    cases b1 with
    | false => exact Ev.step (fun k => by rw [laws_FnWroteParts.j0]) (ev_ifp (show (!false) = true from rfl) (Ev.now _))
    | true =>
      unfold maxLen at hl0 hl1
      refine Ev.step (fun k => by rw [laws_FnWroteParts.j0]) (ev_ifn (by simp) ?_)
      by_cases h30 : wrap64 ((l0.length : Int) + (l1.length : Int)) > 30
      · exact ev_ifp h30 (Ev.now _)
      refine ev_ifn h30 ?_
      simp only [Option.bind_some, List.nil_append, List.length_nil]
      have hz : l0.length ≤ 2147483647 ∧ l1.length ≤ 2147483647 := by
        constructor
        · obtain ⟨k, hk⟩ := e0.rounds
          unfold laws_zzFits9.f at hk
          by_cases hh : (l0.length : Int) > 2147483647
          · rw [if_pos hh] at hk; cases hk
          · omega
        · obtain ⟨k, hk⟩ := e1.rounds
          unfold laws_zzFits9.f at hk
          by_cases hh : (l1.length : Int) > 2147483647
          · rw [if_pos hh] at hk; cases hk
          · omega
      rw [w64 (by omega) (by omega)] at h30
      refine ev_ifp (by omega) (ev_ifp (by omega) ?_)
      have hall : (l0 ++ l1).length = l0.length + l1.length := by simp
      have hsz : ∀ x ∈ l0 ++ l1, x.f3.size ≤ 2147483647 := by
        intro x hx
        rcases List.mem_append.1 hx with hx | hx
        · exact q0 rfl x hx
        · exact q1 rfl x hx
      suffices h : ∀ d i : Nat, i + d = (l0 ++ l1).length → (∀ j (hj : j < (l0 ++ l1).length), j < i → Right (l0 ++ l1)[j]) → Ev (fun k => laws_FnWroteParts.l0 k l0 l1 (l0 ++ l1) (i : Int)) true from h (l0 ++ l1).length 0 (by omega) (fun j hj h => by omega)
      intro d
      induction d with
      | zero =>
        intro i hi hr
        have hR : ∀ x ∈ l0 ++ l1, Right x := by
          intro x hx
          obtain ⟨j, hj, rfl⟩ := List.getElem_of_mem hx
          exact hr j hj (by omega)
        obtain ⟨o0, f0, g0⟩ := outs_tells l0 fun x hx => hR x (by simp [hx])
        obtain ⟨o1, f1, g1⟩ := outs_tells l1 fun x hx => hR x (by simp [hx])
        have ez : ∀ l : List S38, l.length ≤ 100 → ∀ o, Ev (fun k => outs k (l.map ow_of)) o → Ev (fun k => impl_Wrote.f k l) (strOfNums o, true) := by
          intro l hl o ho
          unfold impl_Wrote.f
          exact ev_ifp hl (ev_bind ho (Ev.now _))
        have f2 : Ev (fun k => outs k ((l0 ++ l1).map ow_of)) (o0 ++ o1) := by
          rw [List.map_append]
          exact Ev.congr (fun k => outs_append k _ _) (ev_bind f0 (ev_bind f1 (Ev.now _)))
        have f3 : Ev (fun k => outs k (([(⟨3, 1, 0, (⟨#[]⟩ : ByteArray)⟩ : S38)]).map ow_of)) [27, 91, 49, 65] := by
          refine Ev.congr (f := fun _ => some [27, 91, 49, 65]) (fun k => ?_) (Ev.now _)
          show (outB k ⟨3, 1, 0, ⟨#[]⟩⟩).bind _ = _
          have e : outB k ⟨3, 1, 0, ⟨#[]⟩⟩ = some (CursorUpO 1) := rfl
          have e2 : CursorUpO 1 = [27, 91, 49, 65] := by
            unfold CursorUpO CursorUpL
            rw [if_neg (by omega), if_neg (by omega)]
            have : numS 1 = ⟨#[49]⟩ := by
              unfold numS
              rw [show (1 : Int) = ((1 : Nat) : Int) from rfl, Lib.itoa_nonneg, Lib.decDigits]
              rfl
            rw [this]; rfl
          rw [e, e2]
          rfl
        refine Ev.step (fun k => by rw [laws_FnWroteParts.l0]) (ev_ifn (by omega) (ev_bind (ez l0 (by omega) _ f0) (ev_bind (ez l1 (by omega) _ f1) (ev_bind (ez (l0 ++ l1) (by omega) _ f2) (ev_bind (ez _ (by simp) _ f3) ?_)))))
        refine ev_ifp rfl (ev_ifp rfl (ev_ifp rfl (ev_ifp rfl (ev_ifp ?_ (ev_ifp ?_ (ev_some ?_))))))
        · simp only [strOf_size]; omega
        · rw [strOf_append]
        · rw [ByteArray.toList_eq]; rfl
      | succ d ih =>
        intro i hi hr
        have hrd := rd_at (l0 ++ l1) i (by omega)
        obtain ⟨b, eb, qb⟩ := right_tells ((l0 ++ l1)[i]'(by omega)) (hsz _ (List.getElem_mem _))
        cases b with
        | false => exact Ev.step (fun k => by rw [laws_FnWroteParts.l0, hrd]) (ev_ifp (by omega) (ev_ifp (by omega) (ev_bind eb (ev_ifn (show ¬ (false = true) by decide) (Ev.now _)))))
        | true =>
          have h := ih (i + 1) (by omega) fun j hj hji => by
            rcases Nat.lt_or_ge j i with h1 | h1
            · exact hr j hj h1
            · have : j = i := by omega
              subst this
              exact qb rfl
          rw [show ((i + 1 : Nat) : Int) = (i : Int) + 1 from by omega] at h
          exact Ev.step (fun k => by rw [laws_FnWroteParts.l0, hrd, w64 (x := (i : Int) + 1) (by omega) (by omega)]) (ev_ifp (by omega) (ev_ifp (by omega) (ev_bind eb (ev_ifp rfl h))))
end Go.Proofs.YtanadaamipfmkaaDoor.Pure
