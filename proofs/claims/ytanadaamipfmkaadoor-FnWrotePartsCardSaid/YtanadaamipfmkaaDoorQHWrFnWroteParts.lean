/- What a writer has behind steps (impl.Wrote), for the law FnWroteParts: the contract by which the law takes it, where the table of powers of ten is as it was laid; of texts of more than 1000 bytes, of numbers beyond 9999 and of more than 100 steps nothing is said. -/
import Derived.Test.YtanadaamipfmkaaDoorQHVtYT
import Derived.Test.YtanadaamipfmkaaDoorQHVtZ
import Derived.Test.YtanadaamipfmkaaDoorQHVtT
import Derived.Test.YtanadaamipfmkaaDoorQPFnWrotePartsx0
namespace Go.Proofs.YtanadaamipfmkaaDoor.H
open Go.RowKit Go.Proofs.YtanadaamipfmkaaDoorW.PrintWords Go.Proofs.YtanadaamipfmkaaDoorW.PrintLast Go.Proofs.YtanadaamipfmkaaDoor.R Go.Proofs.YtanadaamipfmkaaDoor.X
set_option linter.unusedVariables false
set_option linter.unusedSimpArgs false
def ow_of (x : PFnWroteParts.S38) : Ow := ⟨x.f0, x.f1, x.f2, x.f3⟩
theorem cell_lt {w : World} {p : Addr} {v : Value} (h : w.cell? p = some v) : p.block < w.heap.size := by
  rcases Nat.lt_or_ge p.block w.heap.size with h1 | h1
  · exact h1
  · unfold World.cell? at h
    rw [Array.getElem?_eq_none h1] at h
    simp at h
theorem ord_of {w : World} {A : Option Addr} {l : List PFnWroteParts.S38} (h : Kd.C PFnWroteParts.k38 w A l.length l) : ORd w w.heap.size A (l.map ow_of) := by
  intro j k hj
  rw [List.getElem?_map] at hj
  obtain ⟨x, hx, rfl⟩ := Option.map_eq_some_iff.1 hj
  obtain ⟨hlt, rfl⟩ := List.getElem?_eq_some_iff.1 hx
  obtain ⟨ad, e, h0, h1, h2, h3⟩ := PFnWroteParts.at_T38 h (j : Int) (by omega) (by omega)
  have hrd : PFnWroteParts.rd_T38 l (j : Int) = l[j] := by unfold PFnWroteParts.rd_T38; rw [Int.toNat_natCast, List.getD_eq_getElem?_getD, List.getElem?_eq_getElem hlt]; rfl
  rw [hrd] at h0 h1 h2 h3
  rw [Int.toNat_natCast] at h0 h1 h2 h3
  exact ⟨ad, e, cell_lt h0, h0, h1, h2, h3⟩
/-- The bytes of a step with a number. -/
def outM (k : Nat) (x : Ow) : Option (List Int) :=
  if x.op = 3 then some (CursorUpO x.n) else
  if x.op = 4 then some (CursorDownO x.n) else
  if x.op = 5 then some (CursorForwardO x.n) else
  if x.op = 6 then some (CursorBackwardO x.n) else
  if x.op = 7 then (if 0 ≤ x.n then some (CursorGoToO x.n x.m) else none) else none
/-- The bytes of a step without arguments. -/
def outL (op : Int) : Option (List Int) :=
  if op = 8 then some [27, 91, 50, 74] else
  if op = 9 then some [27, 91, 49, 74] else
  if op = 10 then some [27, 91, 74] else
  if op = 11 then some [27, 91, 49, 75] else
  if op = 12 then some [27, 91, 75] else
  if op = 13 then some [27, 91, 50, 75] else
  if op = 14 then some [27, 91, 63, 49, 50, 108, 27, 91, 63, 50, 53, 104] else
  if op = 15 then some [27, 91, 63, 50, 53, 108] else
  if op = 16 then some [27, 91, 54, 110] else
  if op = 17 then some [27, 91, 115] else
  if op = 18 then some [27, 91, 117] else
  if op = 19 then some [27, 68] else
  if op = 20 then some [27, 77] else
  if op = 22 then some [27, 93, 50, 59, 7] else
  none
/-- The bytes of a step with a text. -/
def outT (k : Nat) (x : Ow) : Option (List Int) :=
  if x.op = 1 then (PzzReplaceAll.goprompt_zzReplaceAll.f k x.text ⟨#[27]⟩ ⟨#[63]⟩).bind fun r => (if r.size ≤ 1000 then some (ints r) else none) else
  if x.op = 2 then some (ints x.text) else
  if x.op = 21 then (PzzReplaceAll.goprompt_zzReplaceAll.f k x.text ⟨#[19]⟩ ⟨#[]⟩).bind fun r => (PzzReplaceAll.goprompt_zzReplaceAll.f k r ⟨#[7]⟩ ⟨#[]⟩).bind fun q => (if r.size ≤ 1000 ∧ q.size ≤ 1000 then some ([27, 93, 50, 59] ++ ints q ++ [7]) else none) else none
/-- The bytes of one step. -/
def outB (k : Nat) (x : Ow) : Option (List Int) :=
  if x.text.size ≤ 1000 ∧ -9999 ≤ x.n ∧ x.n ≤ 9999 ∧ 0 ≤ x.m ∧ x.m ≤ 9999 then
    (if x.op = 1 ∨ x.op = 2 ∨ x.op = 21 then outT k x else if x.op ≤ 7 then outM k x else outL x.op)
  else none
theorem numS_len (n : Int) (h0 : -1000000 ≤ n) (h1 : n ≤ 1000000) : (ints (numS n)).length ≤ 21 := by rw [ints_length]; exact numS_size n h0 h1
theorem CursorUpO_len (n : Int) (h0 : -9999 ≤ n) (h1 : n ≤ 9999) : (CursorUpO n).length ≤ 2000 := by
  have a := numS_len n (by omega) (by omega)
  have b := numS_len (-n) (by omega) (by omega)
  unfold CursorUpO CursorUpL CursorDownL
  split
  · simp
  · split
    · simp only [List.length_append, List.length_cons, List.length_nil]; omega
    · simp only [List.length_append, List.length_cons, List.length_nil]; omega
theorem CursorDownO_len (n : Int) (h0 : -9999 ≤ n) (h1 : n ≤ 9999) : (CursorDownO n).length ≤ 2000 := by
  have a := numS_len n (by omega) (by omega)
  have b := numS_len (-n) (by omega) (by omega)
  unfold CursorDownO CursorDownL CursorUpL
  split
  · simp
  · split
    · simp only [List.length_append, List.length_cons, List.length_nil]; omega
    · simp only [List.length_append, List.length_cons, List.length_nil]; omega
theorem CursorForwardO_len (n : Int) (h0 : -9999 ≤ n) (h1 : n ≤ 9999) : (CursorForwardO n).length ≤ 2000 := by
  have a := numS_len n (by omega) (by omega)
  have b := numS_len (-n) (by omega) (by omega)
  unfold CursorForwardO CursorForwardL CursorBackwardL
  split
  · simp
  · split
    · simp only [List.length_append, List.length_cons, List.length_nil]; omega
    · simp only [List.length_append, List.length_cons, List.length_nil]; omega
theorem CursorBackwardO_len (n : Int) (h0 : -9999 ≤ n) (h1 : n ≤ 9999) : (CursorBackwardO n).length ≤ 2000 := by
  have a := numS_len n (by omega) (by omega)
  have b := numS_len (-n) (by omega) (by omega)
  unfold CursorBackwardO CursorBackwardL CursorForwardL
  split
  · simp
  · split
    · simp only [List.length_append, List.length_cons, List.length_nil]; omega
    · simp only [List.length_append, List.length_cons, List.length_nil]; omega
theorem CursorGoToO_len (n m : Int) (h0 : 0 ≤ n) (h1 : n ≤ 9999) (h2 : 0 ≤ m) (h3 : m ≤ 9999) : (CursorGoToO n m).length ≤ 2000 := by
  have a := numS_len n (by omega) (by omega)
  have b := numS_len m (by omega) (by omega)
  unfold CursorGoToO
  split
  · simp
  · simp only [List.length_append, List.length_cons, List.length_nil]; omega
theorem does_L {x : Ow} {o : List Int} (h : outL x.op = some o) : Does x o ∧ o.length ≤ 2000 := by
  obtain ⟨op, n, m, s⟩ := x
  unfold outL at h
  dsimp only at h
  by_cases h8 : op = 8
  · rw [if_pos h8] at h
    obtain rfl := Option.some.inj h
    subst h8
    exact ⟨fun N mm c T w bs hV hb hT => wrote_EraseScreen hV n m s hb, by decide⟩
  rw [if_neg h8] at h
  by_cases h9 : op = 9
  · rw [if_pos h9] at h
    obtain rfl := Option.some.inj h
    subst h9
    exact ⟨fun N mm c T w bs hV hb hT => wrote_EraseUp hV n m s hb, by decide⟩
  rw [if_neg h9] at h
  by_cases h10 : op = 10
  · rw [if_pos h10] at h
    obtain rfl := Option.some.inj h
    subst h10
    exact ⟨fun N mm c T w bs hV hb hT => wrote_EraseDown hV n m s hb, by decide⟩
  rw [if_neg h10] at h
  by_cases h11 : op = 11
  · rw [if_pos h11] at h
    obtain rfl := Option.some.inj h
    subst h11
    exact ⟨fun N mm c T w bs hV hb hT => wrote_EraseStartOfLine hV n m s hb, by decide⟩
  rw [if_neg h11] at h
  by_cases h12 : op = 12
  · rw [if_pos h12] at h
    obtain rfl := Option.some.inj h
    subst h12
    exact ⟨fun N mm c T w bs hV hb hT => wrote_EraseEndOfLine hV n m s hb, by decide⟩
  rw [if_neg h12] at h
  by_cases h13 : op = 13
  · rw [if_pos h13] at h
    obtain rfl := Option.some.inj h
    subst h13
    exact ⟨fun N mm c T w bs hV hb hT => wrote_EraseLine hV n m s hb, by decide⟩
  rw [if_neg h13] at h
  by_cases h14 : op = 14
  · rw [if_pos h14] at h
    obtain rfl := Option.some.inj h
    subst h14
    exact ⟨fun N mm c T w bs hV hb hT => wrote_ShowCursor hV n m s hb, by decide⟩
  rw [if_neg h14] at h
  by_cases h15 : op = 15
  · rw [if_pos h15] at h
    obtain rfl := Option.some.inj h
    subst h15
    exact ⟨fun N mm c T w bs hV hb hT => wrote_HideCursor hV n m s hb, by decide⟩
  rw [if_neg h15] at h
  by_cases h16 : op = 16
  · rw [if_pos h16] at h
    obtain rfl := Option.some.inj h
    subst h16
    exact ⟨fun N mm c T w bs hV hb hT => wrote_AskForCPR hV n m s hb, by decide⟩
  rw [if_neg h16] at h
  by_cases h17 : op = 17
  · rw [if_pos h17] at h
    obtain rfl := Option.some.inj h
    subst h17
    exact ⟨fun N mm c T w bs hV hb hT => wrote_SaveCursor hV n m s hb, by decide⟩
  rw [if_neg h17] at h
  by_cases h18 : op = 18
  · rw [if_pos h18] at h
    obtain rfl := Option.some.inj h
    subst h18
    exact ⟨fun N mm c T w bs hV hb hT => wrote_UnSaveCursor hV n m s hb, by decide⟩
  rw [if_neg h18] at h
  by_cases h19 : op = 19
  · rw [if_pos h19] at h
    obtain rfl := Option.some.inj h
    subst h19
    exact ⟨fun N mm c T w bs hV hb hT => wrote_ScrollDown hV n m s hb, by decide⟩
  rw [if_neg h19] at h
  by_cases h20 : op = 20
  · rw [if_pos h20] at h
    obtain rfl := Option.some.inj h
    subst h20
    exact ⟨fun N mm c T w bs hV hb hT => wrote_ScrollUp hV n m s hb, by decide⟩
  rw [if_neg h20] at h
  by_cases h22 : op = 22
  · rw [if_pos h22] at h
    obtain rfl := Option.some.inj h
    subst h22
    exact ⟨fun N mm c T w bs hV hb hT => wrote_ClearTitle hV n m s hb, by decide⟩
  rw [if_neg h22] at h
  cases h
theorem does_M {k : Nat} {x : Ow} {o : List Int} (h : outM k x = some o) (h0 : -9999 ≤ x.n) (h1 : x.n ≤ 9999) (h2 : 0 ≤ x.m) (h3 : x.m ≤ 9999) : Does x o ∧ o.length ≤ 2000 := by
  obtain ⟨op, n, m, s⟩ := x
  unfold outM at h
  dsimp only at *
  by_cases e3 : op = 3
  · rw [if_pos e3] at h
    obtain rfl := Option.some.inj h
    subst e3
    exact ⟨fun N mm c T w bs hV hb hT => wrote_CursorUp hV n m s (by omega) (by omega) hb hT, CursorUpO_len n h0 h1⟩
  rw [if_neg e3] at h
  by_cases e4 : op = 4
  · rw [if_pos e4] at h
    obtain rfl := Option.some.inj h
    subst e4
    exact ⟨fun N mm c T w bs hV hb hT => wrote_CursorDown hV n m s (by omega) (by omega) hb hT, CursorDownO_len n h0 h1⟩
  rw [if_neg e4] at h
  by_cases e5 : op = 5
  · rw [if_pos e5] at h
    obtain rfl := Option.some.inj h
    subst e5
    exact ⟨fun N mm c T w bs hV hb hT => wrote_CursorForward hV n m s (by omega) (by omega) hb hT, CursorForwardO_len n h0 h1⟩
  rw [if_neg e5] at h
  by_cases e6 : op = 6
  · rw [if_pos e6] at h
    obtain rfl := Option.some.inj h
    subst e6
    exact ⟨fun N mm c T w bs hV hb hT => wrote_CursorBackward hV n m s (by omega) (by omega) hb hT, CursorBackwardO_len n h0 h1⟩
  rw [if_neg e6] at h
  by_cases e7 : op = 7
  · rw [if_pos e7] at h
    by_cases e8 : 0 ≤ n
    · rw [if_pos e8] at h
      obtain rfl := Option.some.inj h
      subst e7
      exact ⟨fun N mm c T w bs hV hb hT => wrote_CursorGoTo hV n m s e8 (by omega) h2 (by omega) hb hT, CursorGoToO_len n m e8 h1 h2 h3⟩
    · rw [if_neg e8] at h; cases h
  rw [if_neg e7] at h
  cases h
theorem does_T {k : Nat} {x : Ow} {o : List Int} (h : outT k x = some o) (hs : x.text.size ≤ 1000) : Does x o ∧ o.length ≤ 2000 := by
  obtain ⟨op, n, m, s⟩ := x
  unfold outT at h
  dsimp only at *
  by_cases h1 : op = 1
  · rw [if_pos h1] at h
    obtain ⟨r, hr, h⟩ := Option.bind_eq_some_iff.1 h
    by_cases hrs : r.size ≤ 1000
    · rw [if_pos hrs] at h
      obtain rfl := Option.some.inj h
      subst h1
      exact ⟨fun N mm c T w bs hV hb hT => wrote_text hV n m s r (by omega) hb hr (by omega), by rw [ints_length]; omega⟩
    · rw [if_neg hrs] at h; cases h
  rw [if_neg h1] at h
  by_cases h2 : op = 2
  · rw [if_pos h2] at h
    obtain rfl := Option.some.inj h
    subst h2
    exact ⟨fun N mm c T w bs hV hb hT => wrote_raw hV n m s (by omega) hb, by rw [ints_length]; omega⟩
  rw [if_neg h2] at h
  by_cases h3 : op = 21
  · rw [if_pos h3] at h
    obtain ⟨r, hr, h⟩ := Option.bind_eq_some_iff.1 h
    obtain ⟨q, hq, h⟩ := Option.bind_eq_some_iff.1 h
    by_cases hrs : r.size ≤ 1000 ∧ q.size ≤ 1000
    · rw [if_pos hrs] at h
      obtain rfl := Option.some.inj h
      subst h3
      refine ⟨fun N mm c T w bs hV hb hT => ?_, by have := ints_length q; simp only [List.length_append, List.length_cons, List.length_nil]; omega⟩
      have := wrote_title hV n m s r q hs hb hr hq hrs.1 hrs.2
      simpa [List.append_assoc] using this
    · rw [if_neg hrs] at h; cases h
  rw [if_neg h3] at h
  cases h
theorem does_of {k : Nat} {x : Ow} {o : List Int} (h : outB k x = some o) : Does x o ∧ o.length ≤ 2000 ∧ -9999 ≤ x.n ∧ x.n ≤ 9999 := by
  unfold outB at h
  by_cases hg : x.text.size ≤ 1000 ∧ -9999 ≤ x.n ∧ x.n ≤ 9999 ∧ 0 ≤ x.m ∧ x.m ≤ 9999
  · rw [if_pos hg] at h
    obtain ⟨g0, g1, g2, g3, g4⟩ := hg
    suffices hx : Does x o ∧ o.length ≤ 2000 from ⟨hx.1, hx.2, g1, g2⟩
    by_cases h1 : x.op = 1 ∨ x.op = 2 ∨ x.op = 21
    · rw [if_pos h1] at h; exact does_T h g0
    · rw [if_neg h1] at h
      by_cases h2 : x.op ≤ 7
      · rw [if_pos h2] at h; exact does_M h g1 g2 g3 g4
      · rw [if_neg h2] at h; exact does_L h
  · rw [if_neg hg] at h; cases h
/-- The bytes of steps. -/
def outs (k : Nat) : List Ow → Option (List Int)
  | [] => some []
  | x :: l => (outB k x).bind fun o => (outs k l).bind fun r => some (o ++ r)
theorem outB_mono (k : Nat) (x : Ow) : LeO (outB k x) (outB (k + 1) x) := by
  unfold outB outT
  exact LeO.ite (LeO.ite (LeO.ite (LeO.bind (PzzReplaceAll.goprompt_zzReplaceAll.mono _ _ _ _) fun _ => LeO.refl _) (LeO.ite (LeO.refl _) (LeO.ite (LeO.bind (PzzReplaceAll.goprompt_zzReplaceAll.mono _ _ _ _) fun _ => LeO.bind (PzzReplaceAll.goprompt_zzReplaceAll.mono _ _ _ _) fun _ => LeO.refl _) (LeO.refl _)))) (LeO.refl _)) (LeO.refl _)
theorem outs_mono (k : Nat) : ∀ l, LeO (outs k l) (outs (k + 1) l)
  | [] => LeO.refl _
  | x :: l => LeO.bind (outB_mono k x) fun _ => LeO.bind (outs_mono k l) fun _ => LeO.refl _
theorem outs_at {k : Nat} : ∀ {l : List Ow} {o : List Int}, outs k l = some o → (∀ x ∈ l, outB k x = some ((outB k x).getD [])) ∧ l.flatMap (fun x => (outB k x).getD []) = o
  | [], o, h => ⟨fun x hx => by simp at hx, by obtain rfl := Option.some.inj h; rfl⟩
  | x :: l, o, h => by
    obtain ⟨o1, h1, h⟩ := Option.bind_eq_some_iff.1 h
    obtain ⟨r, hr, h⟩ := Option.bind_eq_some_iff.1 h
    obtain rfl := Option.some.inj h
    obtain ⟨a, b⟩ := outs_at hr
    refine ⟨fun y hy => ?_, by simp [h1, b]⟩
    rcases List.mem_cons.1 hy with rfl | hy
    · rw [h1]; rfl
    · exact a y hy
theorem flat_len {f : Ow → List Int} : ∀ {l : List Ow}, (∀ x ∈ l, (f x).length ≤ 2000) → ∀ i, ((l.take i).flatMap f).length ≤ 2000 * l.length
  | [], _, i => by simp
  | x :: l, h, 0 => by simp
  | x :: l, h, i + 1 => by
    have a := h x (by simp)
    have b := flat_len (fun y hy => h y (by simp [hy])) i (l := l)
    simp only [List.take_succ_cons, List.flatMap_cons, List.length_append, List.length_cons]
    omega
/-- For at most 100 steps. -/
def impl_Wrote.f (k : Nat) (l : List PFnWroteParts.S38) : Option (ByteArray × Bool) := if l.length ≤ 100 then (outs k (l.map ow_of)).bind fun o => some (strOfNums o, true) else none
theorem impl_Wrote.mono : ∀ (l : List PFnWroteParts.S38) (k : Nat), LeO (impl_Wrote.f k l) (impl_Wrote.f (k + 1) l) := by
  intro l k
  unfold impl_Wrote.f
  exact LeO.ite (LeO.bind (outs_mono k _) fun _ => LeO.refl _) (LeO.refl _)
theorem impl_Wrote.calls (k : Nat) (A : Option Addr) (c : Nat) (l : List PFnWroteParts.S38) (r1 : ByteArray) (r2 : Bool) (w : World) (hr : Kd.C PFnWroteParts.k38 w A l.length l) (hc : l.length ≤ c) (h : impl_Wrote.f k l = some (r1, r2)) (hT : TabH w) :
    Calls Tryd.prog 20 #[.slice A l.length c] w fun e w' => e = .returned (.tuple #[.string r1, .bool r2]) ∧ Below w.heap.size w w' := by
  unfold impl_Wrote.f at h
  by_cases hn : l.length ≤ 100
  · rw [if_pos hn] at h
    obtain ⟨o, ho, h⟩ := Option.bind_eq_some_iff.1 h
    have h' := Option.some.inj h
    simp only [Prod.mk.injEq] at h'
    obtain ⟨rfl, rfl⟩ := h'
    obtain ⟨ha, hf⟩ := outs_at ho
    have hd : ∀ x ∈ l.map ow_of, Does x ((outB k x).getD []) ∧ ((outB k x).getD []).length ≤ 2000 ∧ -9999 ≤ x.n ∧ x.n ≤ 9999 := fun x hx => does_of (ha x hx)
    have := Wrote_calls A c (l.map ow_of) (fun x => (outB k x).getD []) w (by rw [List.length_map]; omega) (by rw [List.length_map]; exact hc) (ord_of hr) (fun x hx => by have := hd x hx; omega) (fun x hx => (hd x hx).1) (fun i => by have := flat_len (fun x hx => (hd x hx).2.1) i; rw [List.length_map] at this; omega) hT
    rw [List.length_map, hf] at this
    exact this
  · rw [if_neg hn] at h; cases h
end Go.Proofs.YtanadaamipfmkaaDoor.H
