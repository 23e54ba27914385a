/- Where the word ahead of a cursor begins, and the one behind it ends: the pure statement behind the law FnWordPlaces; no condition. -/
import Derived.Test.YthkblefeifdhaaaPFnWordPlacesx2
import Derived.Test.YthkblefeifdhaaaXPure
namespace Go.Proofs.Ythkblefeifdhaaa.Pure
open Go.RowKit Go.Proofs.Ythkblefeifdhaaa.R Go.Proofs.Ythkblefeifdhaaa.X Go.Proofs.Ythkblefeifdhaaa.PFnWordPlaces Go.Proofs.Ythkblefeifdhaaa.H Go.Proofs.YthkblefeifdhaaaW.PrintWords Go.Proofs.YthkblefeifdhaaaW.PrintLast
set_option linter.unusedVariables false

/-- The last place below n (the first one from i on, of d) where p holds; -1 if there is none. -/
def lastI (p : Nat → Bool) : Nat → Int
  | 0 => -1
  | n + 1 => if p n then (n : Int) else lastI p n
def firstI (p : Nat → Bool) : Nat → Nat → Int
  | 0, _ => -1
  | d + 1, i => if p i then (i : Int) else firstI p d (i + 1)
theorem lastI_le (p : Nat → Bool) : ∀ n, -1 ≤ lastI p n ∧ lastI p n < n
  | 0 => by simp [lastI]
  | n + 1 => by
    have := lastI_le p n
    unfold lastI; split <;> omega
theorem firstI_le (p : Nat → Bool) : ∀ d i, firstI p d i = -1 ∨ ((i : Int) ≤ firstI p d i ∧ firstI p d i < i + d)
  | 0, i => by simp [firstI]
  | d + 1, i => by
    have := firstI_le p d (i + 1)
    unfold firstI; split <;> omega
theorem lastI_congr {p q : Nat → Bool} : ∀ n, (∀ i, i < n → p i = q i) → lastI p n = lastI q n
  | 0, _ => rfl
  | n + 1, h => by unfold lastI; rw [h n (by omega), lastI_congr n fun i hi => h i (by omega)]
theorem firstI_congr {p q : Nat → Bool} : ∀ d i, (∀ j, i ≤ j → j < i + d → p j = q j) → firstI p d i = firstI q d i
  | 0, _, _ => rfl
  | d + 1, i, h => by unfold firstI; rw [h i (by omega) (by omega), firstI_congr d (i + 1) fun j h1 h2 => h j (by omega) (by omega)]
def sp (s : ByteArray) (flag : Bool) (i : Nat) : Bool := decide (bt s (i : Int) = 32) != flag

theorem lastByte_tells (s : ByteArray) (hs : s.size ≤ 4611686018427387904) : Ev (fun k => PWordPlaces.strings_LastIndexByte.f k s 32) (lastI (sp s false) s.size) := by
  unfold PWordPlaces.strings_LastIndexByte.f
  refine ev_bind (a := lastI (sp s false) s.size) ?_ (Ev.now _)
  unfold PWordPlaces.bytealg_LastIndexByteString.f
  rw [w64 (x := (s.size : Int) - 1) (by omega) (by omega)]
  suffices h : ∀ n : Nat, n ≤ s.size → Ev (fun k => PWordPlaces.bytealg_LastIndexByteString.l0 k s 32 ((n : Int) - 1)) (lastI (sp s false) n) from h s.size (Nat.le_refl _)
  intro n
  induction n with
  | zero => intro _; exact Ev.step (fun k => by rw [PWordPlaces.bytealg_LastIndexByteString.l0]) (ev_ifn (by omega) (ev_some (r := (-1 : Int)) rfl))
  | succ n ih =>
    intro hn
    rw [show ((n + 1 : Nat) : Int) - 1 = (n : Int) from by omega]
    refine Ev.step (fun k => by rw [PWordPlaces.bytealg_LastIndexByteString.l0, w64 (x := (n : Int) - 1) (by omega) (by omega)]) (ev_ifp (by omega) (ev_ifp (by omega) (ev_ifp (by omega) ?_)))
    unfold lastI sp
    by_cases h : bt s (n : Int) = 32
    · rw [decide_eq_true h]; exact ev_ifp h (ev_some rfl)
    · rw [decide_eq_false h]; exact ev_ifn h (ih (by omega))
theorem lastNot_tells (s : ByteArray) (hs : s.size ≤ 4611686018427387904) : Ev (fun k => PWordPlaces.strings_LastIndexNotByte.f k s 32) (lastI (sp s true) s.size) := by
  unfold PWordPlaces.strings_LastIndexNotByte.f
  rw [w64 (x := (s.size : Int) - 1) (by omega) (by omega)]
  suffices h : ∀ n : Nat, n ≤ s.size → Ev (fun k => PWordPlaces.strings_LastIndexNotByte.l0 k s 32 ((n : Int) - 1)) (lastI (sp s true) n) from h s.size (Nat.le_refl _)
  intro n
  induction n with
  | zero => intro _; exact Ev.step (fun k => by rw [PWordPlaces.strings_LastIndexNotByte.l0]) (ev_ifn (by omega) (ev_some (r := (-1 : Int)) rfl))
  | succ n ih =>
    intro hn
    rw [show ((n + 1 : Nat) : Int) - 1 = (n : Int) from by omega]
    refine Ev.step (fun k => by rw [PWordPlaces.strings_LastIndexNotByte.l0, w64 (x := (n : Int) - 1) (by omega) (by omega)]) (ev_ifp (by omega) (ev_ifp (by omega) (ev_ifp (by omega) ?_)))
    unfold lastI sp
    by_cases h : bt s (n : Int) = 32
    · rw [decide_eq_true h]; exact ev_ifp h (ih (by omega))
    · rw [decide_eq_false h]; exact ev_ifn h (ev_some rfl)
theorem blank_tells (c : Int) : Ev (fun k => spec_hasByte.f k (⟨#[32]⟩ : ByteArray) c) (decide (c = 32)) := by
  have hb : bt (⟨#[32]⟩ : ByteArray) 0 = 32 := by decide
  have hz : ((⟨#[32]⟩ : ByteArray).size : Int) = 1 := rfl
  unfold spec_hasByte.f
  refine Ev.step (fun k => by rw [spec_hasByte.l0, hb, hz, w64 (x := (0 : Int) + 1) (by omega) (by omega)]) (ev_ifp (by omega) (ev_ifp (by omega) ?_))
  by_cases h : c = 32
  · rw [decide_eq_true h]; exact ev_ifp h.symm (ev_some rfl)
  · rw [decide_eq_false h]
    refine ev_ifn (fun h' => h h'.symm) (Ev.step (fun k => by rw [spec_hasByte.l0, hz]) (ev_ifn (by omega) (Ev.now _)))
theorem last_tells (s : ByteArray) (flag : Bool) (hs : s.size ≤ 4611686018427387904) : Ev (fun k => spec_last.f k s (⟨#[32]⟩ : ByteArray) flag) (lastI (sp s flag) s.size) := by
  unfold spec_last.f
  rw [w64 (x := (s.size : Int) - 1) (by omega) (by omega)]
  suffices h : ∀ n : Nat, n ≤ s.size → Ev (fun k => spec_last.l0 k s (⟨#[32]⟩ : ByteArray) flag ((n : Int) - 1)) (lastI (sp s flag) n) from h s.size (Nat.le_refl _)
  intro n
  induction n with
  | zero => intro _; exact Ev.step (fun k => by rw [spec_last.l0]) (ev_ifn (by omega) (ev_some (r := (-1 : Int)) rfl))
  | succ n ih =>
    intro hn
    rw [show ((n + 1 : Nat) : Int) - 1 = (n : Int) from by omega]
    refine Ev.step (fun k => by rw [spec_last.l0, w64 (x := (n : Int) - 1) (by omega) (by omega)]) (ev_ifp (by omega) (ev_ifp (by omega) (ev_ifp (by omega) (ev_bind (blank_tells _) ?_))))
    unfold lastI
    cases h : sp s flag n with
    | true => exact ev_ifp h (Ev.now _)
    | false => exact ev_ifn (by unfold sp at h; rw [h]; simp) (ih (by omega))
theorem first_tells (s : ByteArray) (flag : Bool) (hs : s.size ≤ 4611686018427387904) : Ev (fun k => spec_first.f k s (⟨#[32]⟩ : ByteArray) flag) (firstI (sp s flag) s.size 0) := by
  unfold spec_first.f
  suffices h : ∀ d i : Nat, i + d = s.size → Ev (fun k => spec_first.l0 k s (⟨#[32]⟩ : ByteArray) flag (i : Int)) (firstI (sp s flag) d i) from h s.size 0 (by omega)
  intro d
  induction d with
  | zero => intro i hi; exact Ev.step (fun k => by rw [spec_first.l0]) (ev_ifn (by omega) (ev_some (r := (-1 : Int)) rfl))
  | succ d ih =>
    intro i hi
    have h := ih (i + 1) (by omega)
    rw [show ((i + 1 : Nat) : Int) = (i : Int) + 1 from by omega] at h
    refine Ev.step (fun k => by rw [spec_first.l0, w64 (x := (i : Int) + 1) (by omega) (by omega)]) (ev_ifp (by omega) (ev_ifp (by omega) (ev_bind (blank_tells _) ?_)))
    unfold firstI
    cases h2 : sp s flag i with
    | true => exact ev_ifp h2 (Ev.now _)
    | false => exact ev_ifn (by unfold sp at h2; rw [h2]; simp) h
theorem firstNot_tells (s : ByteArray) (hs : s.size ≤ 4611686018427387904) : Ev (fun k => PWordPlaces.strings_IndexNotByte.f k s 32) (firstI (sp s true) s.size 0) := by
  unfold PWordPlaces.strings_IndexNotByte.f
  suffices h : ∀ d i : Nat, i + d = s.size → Ev (fun k => PWordPlaces.strings_IndexNotByte.l0 k s 32 (s.size : Int) (i : Int)) (firstI (sp s true) d i) from h s.size 0 (by omega)
  intro d
  induction d with
  | zero => intro i hi; exact Ev.step (fun k => by rw [PWordPlaces.strings_IndexNotByte.l0]) (ev_ifn (by omega) (ev_some (r := (-1 : Int)) rfl))
  | succ d ih =>
    intro i hi
    have h := ih (i + 1) (by omega)
    rw [show ((i + 1 : Nat) : Int) = (i : Int) + 1 from by omega] at h
    refine Ev.step (fun k => by rw [PWordPlaces.strings_IndexNotByte.l0, w64 (x := (i : Int) + 1) (by omega) (by omega)]) (ev_ifp (by omega) (ev_ifp (by omega) (ev_ifp (by omega) ?_)))
    unfold firstI sp
    by_cases h2 : bt s (i : Int) = 32
    · rw [decide_eq_true h2]; exact ev_ifp h2 h
    · rw [decide_eq_false h2]; exact ev_ifn h2 (ev_some rfl)
theorem find_range (q : Nat → Bool) : ∀ d i, (match (List.range' i d).find? q with | some j => (j : Int) | none => -1) = firstI q d i
  | 0, i => rfl
  | d + 1, i => by
    rw [List.range'_succ, List.find?_cons]
    unfold firstI
    cases h : q i with
    | true => simp
    | false => simpa using find_range q d (i + 1)
theorem firstByte_tells (s : ByteArray) : strings_IndexByte.f s 32 = some (firstI (sp s false) s.size 0) := by
  unfold strings_IndexByte.f firstIdx
  congr 1
  rw [List.range_eq_range']
  refine (find_range (fun i => s[i]! == (32 : Int).toNat.toUInt8) s.size 0).trans ?_
  refine firstI_congr _ _ fun j _ hj => ?_
  have hj : j < s.size := by omega
  unfold sp
  have e1 := bt_nat s j hj
  have e2 : s[j]! = s.data.toList[j]'(by rw [dlen]; exact hj) := by
    rw [getElem!_pos s j hj]; simp; rfl
  rw [e1, e2]
  generalize s.data.toList[j]'(by rw [dlen]; exact hj) = b
  rw [Bool.eq_iff_iff]
  simp only [beq_iff_eq, Bool.bne_false, decide_eq_true_eq]
  rw [show ((32 : Int).toNat.toUInt8) = (32 : UInt8) from rfl, ← UInt8.toNat_inj]
  show b.toNat = 32 ↔ _
  omega

theorem ascii_loop (s : ByteArray) (hs : s.size ≤ 4611686018427387904) (d : Nat) : ∀ i : Nat, i + d = s.size →
    ∃ b, Ev (fun k => spec_ASCII.l0 k s (i : Int)) b ∧ (b = true → s.size ≤ 1000 ∧ ∀ j (hj : j < s.size), i ≤ j → (s.data.toList[j]'(by rw [dlen]; exact hj)).toNat < 128) := by
  induction d with
  | zero =>
    intro i hi
    exact ⟨decide ((s.size : Int) ≤ 1000), Ev.step (fun k => by rw [spec_ASCII.l0]) (ev_ifn (by omega) (Ev.now _)), fun h => ⟨by have := of_decide_eq_true h; omega, fun j hj h => by omega⟩⟩
  | succ d ih =>
    intro i hi
    obtain ⟨b, hb, hq⟩ := ih (i + 1) (by omega)
    rw [show ((i + 1 : Nat) : Int) = (i : Int) + 1 from by omega] at hb
    have e1 := bt_nat s i (by omega)
    by_cases h : (128 : Int) ≤ bt s (i : Int)
    · exact ⟨false, Ev.step (fun k => by rw [spec_ASCII.l0]) (ev_ifp (by omega) (ev_ifp (by omega) (ev_ifp h (Ev.now _)))), fun h => by cases h⟩
    · refine ⟨b, Ev.step (fun k => by rw [spec_ASCII.l0, w64 (x := (i : Int) + 1) (by omega) (by omega)]) (ev_ifp (by omega) (ev_ifp (by omega) (ev_ifn h hb))), fun hbt => ⟨(hq hbt).1, fun j hj hij => ?_⟩⟩
      rcases Nat.eq_or_lt_of_le hij with rfl | hlt
      · omega
      · exact (hq hbt).2 j hj hlt
theorem right_tells (s : ByteArray) (a : Int) (hs : s.size ≤ 4611686018427387904) : ∃ b, Ev (fun k => spec_DocRight.f k s a) b ∧ (b = true → s.size ≤ 1000 ∧ Asc s ∧ 0 ≤ a ∧ a ≤ s.size) := by
  obtain ⟨b, hb, hq⟩ := ascii_loop s hs s.size 0 (by omega)
  unfold spec_DocRight.f spec_ASCII.f
  cases b with
  | false => exact ⟨false, ev_bind hb (ev_ifn (by simp) (Ev.now _)), fun h => by cases h⟩
  | true =>
    have hasc : Asc s := fun x hx => by
      obtain ⟨j, hj, rfl⟩ := List.getElem_of_mem hx
      exact (hq rfl).2 j (by rw [← dlen]; exact hj) (Nat.zero_le _)
    by_cases h0 : a ≥ 0
    · refine ⟨decide (a ≤ (s.size : Int)), ev_bind hb (ev_ifp rfl (ev_ifp h0 (Ev.now _))), fun h => ⟨(hq rfl).1, hasc, h0, of_decide_eq_true h⟩⟩
    · exact ⟨false, ev_bind hb (ev_ifp rfl (ev_ifn h0 (Ev.now _))), fun h => by cases h⟩

/-- What both tell. -/
def startOf (s : ByteArray) : Int := lastI (sp s false) s.size + 1
def startSp (s : ByteArray) : Int := if lastI (sp s true) s.size < 0 then 0 else startOf (s.extract 0 (lastI (sp s true) s.size).toNat)
def endOf (s : ByteArray) : Int := if firstI (sp s false) s.size 0 < 0 then (s.size : Int) else firstI (sp s false) s.size 0
def endSp (s : ByteArray) : Int :=
  if firstI (sp s true) s.size 0 < 0 then (s.size : Int)
  else if firstI (sp (s.extract (firstI (sp s true) s.size 0).toNat s.size) false) (s.extract (firstI (sp s true) s.size 0).toNat s.size).size 0 < 0 then (s.size : Int)
  else firstI (sp s true) s.size 0 + firstI (sp (s.extract (firstI (sp s true) s.size 0).toNat s.size) false) (s.extract (firstI (sp s true) s.size 0).toNat s.size).size 0
theorem whole_extract (s : ByteArray) : s.extract 0 s.size = s := by
  refine ints_inj ?_
  rw [ints_extract]
  simp only [List.drop_zero, Nat.sub_zero]
  exact List.take_of_length_le (by rw [ints_length]; exact Nat.le_refl _)
theorem extract_size (s : ByteArray) (a b : Nat) (h : b ≤ s.size) : (s.extract a b).size = b - a := by
  rw [← ints_length, ints_extract, List.length_take, List.length_drop, ints_length]; omega
theorem specStart_tells (s : ByteArray) (hs : s.size ≤ 1000) : Ev (fun k => spec_Start.f k s (⟨#[32]⟩ : ByteArray) false) (startOf s) ∧ Ev (fun k => spec_Start.f k s (⟨#[32]⟩ : ByteArray) true) (startSp s) := by
  have hl := lastI_le (sp s false) s.size
  have hm := lastI_le (sp s true) s.size
  constructor
  · unfold spec_Start.f startOf
    refine ev_ifn (by simp) (ev_ifp (by omega) (ev_ifp (by omega) ?_))
    rw [Int.toNat_natCast, whole_extract]
    refine ev_bind (last_tells s false (by omega)) (ev_some ?_)
    rw [w64 (by omega) (by omega)]
  · unfold spec_Start.f startSp
    refine ev_ifp rfl (ev_bind (last_tells s true (by omega)) ?_)
    by_cases h : lastI (sp s true) s.size < 0
    · rw [if_pos h]; exact ev_ifp h (Ev.now _)
    · rw [if_neg h]
      refine ev_ifn h (ev_ifp (by omega) (ev_ifp (by omega) ?_))
      have hz := extract_size s 0 (lastI (sp s true) s.size).toNat (by omega)
      refine ev_bind (last_tells _ false (by omega)) (ev_some ?_)
      have := lastI_le (sp (s.extract 0 (lastI (sp s true) s.size).toNat) false) (s.extract 0 (lastI (sp s true) s.size).toNat).size
      unfold startOf
      rw [w64 (by omega) (by omega)]
theorem specEnd_tells (s : ByteArray) (hs : s.size ≤ 1000) : Ev (fun k => spec_End.f k s (⟨#[32]⟩ : ByteArray) false) (endOf s) ∧ Ev (fun k => spec_End.f k s (⟨#[32]⟩ : ByteArray) true) (endSp s) := by
  have hl := firstI_le (sp s false) s.size 0
  have hm := firstI_le (sp s true) s.size 0
  constructor
  · unfold spec_End.f endOf
    refine ev_ifn (by simp) (ev_ifp (by omega) ?_)
    rw [whole_extract]
    refine ev_bind (first_tells s false (by omega)) ?_
    by_cases h : firstI (sp s false) s.size 0 < 0
    · rw [if_pos h]; exact ev_ifn (by omega) (Ev.now _)
    · rw [if_neg h]; refine ev_ifp (by omega) (ev_some ?_); rw [w64 (by omega) (by omega)]; omega
  · unfold spec_End.f endSp
    refine ev_ifp rfl (ev_bind (first_tells s true (by omega)) ?_)
    by_cases h : firstI (sp s true) s.size 0 < 0
    · rw [if_pos h]; exact ev_ifp h (Ev.now _)
    · rw [if_neg h]
      refine ev_ifn h (ev_ifp (by omega) (ev_ifp (by omega) ?_))
      have hz := extract_size s (firstI (sp s true) s.size 0).toNat s.size (Nat.le_refl _)
      have hb := firstI_le (sp (s.extract (firstI (sp s true) s.size 0).toNat s.size) false) (s.extract (firstI (sp s true) s.size 0).toNat s.size).size 0
      refine ev_bind (first_tells _ false (by omega)) ?_
      by_cases h2 : firstI (sp (s.extract (firstI (sp s true) s.size 0).toNat s.size) false) (s.extract (firstI (sp s true) s.size 0).toNat s.size).size 0 < 0
      · rw [if_pos h2]; exact ev_ifn (by omega) (Ev.now _)
      · rw [if_neg h2]; refine ev_ifp (by omega) (ev_some ?_); rw [w64 (by omega) (by omega)]

theorem places_tells (s : ByteArray) (a : Int) (hs : s.size ≤ 1000) (hasc : Asc s) (h0 : 0 ≤ a) (h1 : a ≤ s.size) :
    Ev (fun k => impl_WordPlaces.f k s a) (startOf (runesBytes ((runesOf s).take a.toNat)), startSp (runesBytes ((runesOf s).take a.toNat)), endOf (runesBytes ((runesOf s).drop a.toNat)), endSp (runesBytes ((runesOf s).drop a.toNat))) := by
  have hr := runesOf_asc hasc
  have hl := ints_length s
  have hsA : (runesBytes ((runesOf s).take a.toNat)).size ≤ 1000 := by
    rw [← ints_length, hr, ints_runesBytes _ (fun x hx => asc_ints hasc x (List.mem_of_mem_take hx)), List.length_take]; omega
  have hsB : (runesBytes ((runesOf s).drop a.toNat)).size ≤ 1000 := by
    rw [← ints_length, hr, ints_runesBytes _ (fun x hx => asc_ints hasc x (List.mem_of_mem_drop hx)), List.length_drop]; omega
  have eB : PWordPlaces.goprompt_Document_TextBeforeCursor.f s a = some (runesBytes ((runesOf s).take a.toNat), s, a) := by
    unfold PWordPlaces.goprompt_Document_TextBeforeCursor.f
    rw [if_pos (by rw [hr]; omega)]
    simp only [Option.bind_some]
    rw [if_pos h0, if_pos (by rw [hr, hl]; exact h1)]
  have eA : PWordPlaces.goprompt_Document_TextAfterCursor.f s a = some (runesBytes ((runesOf s).drop a.toNat), s, a) := by
    unfold PWordPlaces.goprompt_Document_TextAfterCursor.f
    rw [if_pos (by rw [hr]; omega)]
    simp only [Option.bind_some]
    rw [if_pos h0, if_pos (by rw [hr, hl]; exact h1)]
  have hcond : 0 ≤ a ∧ a ≤ (runesOf s).length ∧ s.size ≤ 1000000 := ⟨h0, by rw [hr, hl]; exact h1, by omega⟩
  generalize runesBytes ((runesOf s).take a.toNat) = A at *
  generalize runesBytes ((runesOf s).drop a.toNat) = B at *
  have lA := lastI_le (sp A false) A.size
  have mA := lastI_le (sp A true) A.size
  have lB := firstI_le (sp B false) B.size 0
  have mB := firstI_le (sp B true) B.size 0
  have e1 : Ev (fun k => PWordPlaces.goprompt_Document_FindStartOfPreviousWord.f k s a) (startOf A, s, a) := by
    unfold PWordPlaces.goprompt_Document_FindStartOfPreviousWord.f startOf
    rw [eB]
    simp only [Option.bind_some]
    refine ev_bind (lastByte_tells A (by omega)) ?_
    by_cases h : lastI (sp A false) A.size = -1
    · refine ev_ifp h (ev_some ?_); rw [h]; rfl
    · refine ev_ifn h (ev_some ?_); rw [w64 (by omega) (by omega)]
  have e2 : Ev (fun k => PWordPlaces.goprompt_Document_FindStartOfPreviousWordWithSpace.f k s a) (startSp A, s, a) := by
    unfold PWordPlaces.goprompt_Document_FindStartOfPreviousWordWithSpace.f startSp
    rw [eB]
    simp only [Option.bind_some]
    refine ev_bind (lastNot_tells A (by omega)) ?_
    by_cases h : lastI (sp A true) A.size = -1
    · rw [if_pos (by omega)]; exact ev_ifp h (Ev.now _)
    · rw [if_neg (by omega)]
      have hz := extract_size A 0 (lastI (sp A true) A.size).toNat (by omega)
      have hb := lastI_le (sp (A.extract 0 (lastI (sp A true) A.size).toNat) false) (A.extract 0 (lastI (sp A true) A.size).toNat).size
      refine ev_ifn h (ev_ifp (by omega) (ev_ifp (by omega) (ev_bind (lastByte_tells _ (by omega)) ?_)))
      unfold startOf
      by_cases h2 : lastI (sp (A.extract 0 (lastI (sp A true) A.size).toNat) false) (A.extract 0 (lastI (sp A true) A.size).toNat).size = -1
      · refine ev_ifp h2 (ev_some ?_); rw [h2]; rfl
      · refine ev_ifn h2 (ev_some ?_); rw [w64 (by omega) (by omega)]
  have e3 : PWordPlaces.goprompt_Document_FindEndOfCurrentWord.f s a = some (endOf B, s, a) := by
    unfold PWordPlaces.goprompt_Document_FindEndOfCurrentWord.f endOf
    rw [eA]
    simp only [Option.bind_some, firstByte_tells]
    by_cases h : firstI (sp B false) B.size 0 = -1
    · rw [if_pos h, if_pos (by omega)]
    · rw [if_neg h, if_neg (by omega)]
  have e4 : Ev (fun k => PWordPlaces.goprompt_Document_FindEndOfCurrentWordWithSpace.f k s a) (endSp B, s, a) := by
    unfold PWordPlaces.goprompt_Document_FindEndOfCurrentWordWithSpace.f endSp
    rw [eA]
    simp only [Option.bind_some]
    refine ev_bind (firstNot_tells B (by omega)) ?_
    by_cases h : firstI (sp B true) B.size 0 = -1
    · rw [if_pos (show firstI (sp B true) B.size 0 < 0 by omega)]; exact ev_ifp h (Ev.now _)
    · rw [if_neg (show ¬ firstI (sp B true) B.size 0 < 0 by omega)]
      have hz := extract_size B (firstI (sp B true) B.size 0).toNat B.size (Nat.le_refl _)
      have hb := firstI_le (sp (B.extract (firstI (sp B true) B.size 0).toNat B.size) false) (B.extract (firstI (sp B true) B.size 0).toNat B.size).size 0
      refine ev_ifn h (ev_ifp (by omega) (ev_ifp (by omega) ?_))
      simp only [firstByte_tells, Option.bind_some]
      by_cases h2 : firstI (sp (B.extract (firstI (sp B true) B.size 0).toNat B.size) false) (B.extract (firstI (sp B true) B.size 0).toNat B.size).size 0 = -1
      · rw [if_pos (show firstI (sp (B.extract (firstI (sp B true) B.size 0).toNat B.size) false) (B.extract (firstI (sp B true) B.size 0).toNat B.size).size 0 < 0 by omega)]; exact ev_ifp h2 (Ev.now _)
      · rw [if_neg (show ¬ firstI (sp (B.extract (firstI (sp B true) B.size 0).toNat B.size) false) (B.extract (firstI (sp B true) B.size 0).toNat B.size).size 0 < 0 by omega)]
        refine ev_ifn h2 (ev_some ?_); rw [w64 (by omega) (by omega)]
  unfold impl_WordPlaces.f
  refine ev_ifp hcond (ev_bind e1 (ev_bind e2 ?_))
  rw [e3]
  simp only [Option.bind_some]
  exact ev_bind e4 (Ev.now _)

theorem FnWordPlaces : laws_FnWordPlaces.Pure := by
  intro s a hs ha
  refine Ev.rounds (r := true) ?_
  unfold laws_FnWordPlaces.f
  have e0 : ∃ t, laws_zzFits2.f s a = some t ∧ (t = true → s.size ≤ 2147483647) := by
    unfold laws_zzFits2.f
    by_cases h : (s.size : Int) > 2147483647
    · exact ⟨false, if_pos h, by simp⟩
    · exact ⟨true, if_neg h, fun _ => by omega⟩
  obtain ⟨t, ht, hq⟩ := e0
  rw [ht]
  simp only [Option.bind_some]
  cases t with
  | false => exact ev_ifn (by simp) (Ev.now _)
  | true =>
    refine ev_ifp rfl ?_
    have hz := hq rfl
    obtain ⟨b, hb, q⟩ := right_tells s a (by omega)
    refine ev_bind hb ?_
    cases b with
    | false => exact ev_ifn (by simp) (Ev.now _)
    | true =>
      obtain ⟨g1, hasc, g2, g3⟩ := q rfl
      have hr := runesOf_asc hasc
      have hl := ints_length s
      have eB : spec_Before.f s a = some (runesBytes ((runesOf s).take a.toNat)) := by
        unfold spec_Before.f
        rw [if_pos (by rw [hr]; omega)]
        simp only [Option.bind_some]
        rw [if_pos g2, if_pos (by rw [hr, hl]; exact g3)]
      have eA : spec_After.f s a = some (runesBytes ((runesOf s).drop a.toNat)) := by
        unfold spec_After.f
        rw [if_pos (by rw [hr]; omega)]
        simp only [Option.bind_some]
        rw [if_pos g2, if_pos (by rw [hr, hl]; exact g3)]
      have ep := places_tells s a g1 hasc g2 g3
      have hsA : (runesBytes ((runesOf s).take a.toNat)).size ≤ 1000 := by
        rw [← ints_length, hr, ints_runesBytes _ (fun x hx => asc_ints hasc x (List.mem_of_mem_take hx)), List.length_take]; omega
      have hsB : (runesBytes ((runesOf s).drop a.toNat)).size ≤ 1000 := by
        rw [← ints_length, hr, ints_runesBytes _ (fun x hx => asc_ints hasc x (List.mem_of_mem_drop hx)), List.length_drop]; omega
      refine ev_ifp rfl ?_
      rw [eB, eA]
      simp only [Option.bind_some]
      obtain ⟨s1, s2⟩ := specStart_tells _ hsA
      obtain ⟨s3, s4⟩ := specEnd_tells _ hsB
      refine ev_bind ep (ev_bind s1 (ev_ifp rfl (ev_bind s2 (ev_ifp rfl (ev_bind s3 (ev_ifp rfl (ev_bind s4 (ev_some ?_))))))))
      simp
end Go.Proofs.Ythkblefeifdhaaa.Pure
