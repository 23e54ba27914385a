/- The room of what comes in parts is that of the whole: the pure statement behind the law FnBufferWidth; no condition. -/
import Derived.Test.YthbdaoapjnofkaaDoorPFnBufferWidthx3
import Derived.Test.YthbdaoapjnofkaaDoorXPure
namespace Go.Proofs.YthbdaoapjnofkaaDoor.Pure
open Go.RowKit Go.Proofs.YthbdaoapjnofkaaDoor.R Go.Proofs.YthbdaoapjnofkaaDoor.X Go.Proofs.YthbdaoapjnofkaaDoor.H Go.Proofs.YthbdaoapjnofkaaDoor.PFnBufferWidth Go.Proofs.YthbdaoapjnofkaaDoorW.PrintWords Go.Proofs.YthbdaoapjnofkaaDoorW.PrintLast
set_option linter.unusedVariables false

def wid : List Int → Int
  | [] => 0
  | x :: u => (if x = 10 then 0 else 1) + wid u
theorem wid_append (a b : List Int) : wid (a ++ b) = wid a + wid b := by
  induction a with
  | nil => simp [wid]
  | cons x a ih => simp only [List.cons_append, wid, ih]; omega
theorem wid_le (u : List Int) : 0 ≤ wid u ∧ wid u ≤ u.length := by
  induction u with
  | nil => simp [wid]
  | cons x u ih => simp only [wid, List.length_cons]; split <;> omega
def plainC (x : Int) : Prop := x = 10 ∨ (32 ≤ x ∧ x ≤ 126)
theorem wstep_plain (n x : Int) (h : plainC x) : wstep (n, false) x = (n + (if x = 10 then 0 else 1), false) := by
  unfold plainC at h
  unfold wstep rw1
  rw [if_neg (by omega)]
  simp only [Bool.false_eq_true, if_false]
  by_cases h10 : x = 10
  · subst h10; simp
  · rw [if_neg h10, if_neg (by omega), if_neg (by omega)]

theorem ints_strOfNums (xs : List Int) (h : ∀ x ∈ xs, 0 ≤ x ∧ x < 256) : ints (strOfNums xs) = xs := by
  unfold ints
  rw [strOfNums_data, List.map_map]
  conv => rhs; rw [← List.map_id xs]
  refine List.map_congr_left fun x hx => ?_
  have := h x hx
  simp [Function.comp, UInt8.toNat_ofNat']
  omega

theorem plain_loop (s : ByteArray) (hs : s.size ≤ 4611686018427387904) (d : Nat) : ∀ i : Nat, i + d = s.size →
    ∃ b, Ev (fun k => spec_Plain.l0 k s (i : Int)) b ∧ (b = true → ∀ x ∈ (ints s).drop i, plainC x) := by
  induction d with
  | zero =>
    intro i hi
    exact ⟨true, Ev.step (fun k => by rw [spec_Plain.l0]) (ev_ifn (by omega) (Ev.now _)), fun _ x hx => by rw [List.drop_of_length_le (by rw [ints_length]; omega)] at hx; cases hx⟩
  | succ d ih =>
    intro i hi
    obtain ⟨b, hb, hq⟩ := ih (i + 1) (by omega)
    rw [show ((i + 1 : Nat) : Int) = (i : Int) + 1 from by omega] at hb
    have hlt : i < (ints s).length := by rw [ints_length]; omega
    have e1 := bt_ints s i (by omega)
    have step : ∀ r, Ev (fun k => if bt s (i : Int) = 10 then spec_Plain.l0 k s ((i : Int) + 1) else if bt s (i : Int) < 32 then some false else if bt s (i : Int) > 126 then some false else spec_Plain.l0 k s ((i : Int) + 1)) r → Ev (fun k => spec_Plain.l0 k s (i : Int)) r := by
      intro r hr
      exact Ev.step (fun k => by rw [spec_Plain.l0, w64 (x := (i : Int) + 1) (by omega) (by omega)]) (ev_ifp (by omega) (ev_ifp (by omega) hr))
    have good : plainC ((ints s)[i]) → ∀ x ∈ (ints s).drop (i + 1), plainC x → plainC x := fun _ _ _ h => h
    by_cases h10 : bt s (i : Int) = 10
    · refine ⟨b, step _ (ev_ifp h10 hb), fun h x hx => ?_⟩
      rw [List.drop_eq_getElem_cons hlt] at hx
      rcases List.mem_cons.1 hx with rfl | hx
      · exact .inl (by rw [← e1]; exact h10)
      · exact hq h x hx
    · by_cases h32 : bt s (i : Int) < 32
      · exact ⟨false, step _ (ev_ifn h10 (ev_ifp h32 (Ev.now _))), fun h => by cases h⟩
      · by_cases h126 : bt s (i : Int) > 126
        · exact ⟨false, step _ (ev_ifn h10 (ev_ifn h32 (ev_ifp h126 (Ev.now _)))), fun h => by cases h⟩
        · refine ⟨b, step _ (ev_ifn h10 (ev_ifn h32 (ev_ifn h126 hb))), fun h x hx => ?_⟩
          rw [List.drop_eq_getElem_cons hlt] at hx
          rcases List.mem_cons.1 hx with rfl | hx
          · exact .inr (by rw [← e1]; omega)
          · exact hq h x hx
theorem plain_tells (s : ByteArray) (hs : s.size ≤ 4611686018427387904) : ∃ b, Ev (fun k => spec_Plain.f k s) b ∧ (b = true → ∀ x ∈ ints s, plainC x) := by
  obtain ⟨b, hb, hq⟩ := plain_loop s hs s.size 0 (by omega)
  exact ⟨b, hb, by simpa using hq⟩

/-- what is told of what is left of a text, from an open sequence on, or not -/
def Told (s : ByteArray) (out : List Int) (i : Nat) (a : Bool) (t : ByteArray) (b : Bool) : Prop :=
  b = true → (∀ x ∈ ints t, plainC x) ∧ ∃ u, ints t = out ++ u ∧ u.length + i ≤ s.size ∧ (∀ x ∈ (ints s).drop i, 0 ≤ x ∧ x < 128) ∧ ∀ n, ((ints s).drop i).foldl wstep (n, a) = (n + wid u, false)
theorem wstep_in (n c : Int) (h : c ≠ 27) : wstep (n, true) c = (n, !isTerm c) := by
  unfold wstep; rw [if_neg h]; rfl

theorem strip_loop (s : ByteArray) (hs : s.size ≤ 5000) (d : Nat) :
    (∀ (i : Nat) (out : List Int), i + d = s.size → out.length ≤ i → (∀ x ∈ out, 0 ≤ x ∧ x < 256) → ∃ t b, Ev (fun k => spec_Stripped.l0 k s out (i : Int)) (t, b) ∧ Told s out i false t b) ∧
    (∀ (i : Nat) (out : List Int), i + d = s.size → out.length ≤ i → (∀ x ∈ out, 0 ≤ x ∧ x < 256) → ∃ t b, Ev (fun k => spec_Stripped.l1 k s out (i : Int)) (t, b) ∧ Told s out i true t b) := by
  induction d using Nat.strongRecOn with
  | ind d ih =>
  constructor
  · intro i out hi hlen hout
    by_cases hlt : i < s.size
    · have hl : i < (ints s).length := by rw [ints_length]; omega
      have e1 := bt_ints s i hlt
      have hr := bt_range s (i : Int)
      by_cases h27 : bt s (i : Int) = 27
      · -- an escape
        have fail : ∀ r : ByteArray × Bool, r = ((⟨#[]⟩ : ByteArray), false) → Ev (fun k => spec_Stripped.l0 k s out (i : Int)) r → ∃ t b, Ev (fun k => spec_Stripped.l0 k s out (i : Int)) (t, b) ∧ Told s out i false t b := by
          rintro r rfl h
          exact ⟨_, _, h, fun h => by cases h⟩
        have hj1 : ∀ (b : Bool) (r : ByteArray × Bool) (j : Int), (if b = true then r = ((⟨#[]⟩ : ByteArray), false) else Ev (fun k => spec_Stripped.l1 k s out (wrap64 (j + 1))) r) → Ev (fun k => spec_Stripped.j1 k s out j b) r := by
          intro b r j h
          refine Ev.step (fun k => by rw [spec_Stripped.j1]) ?_
          cases b with
          | true => simp at h; subst h; exact ev_ifp rfl (Ev.now _)
          | false => simp at h; exact ev_ifn (by simp) h
        have step : ∀ r : ByteArray × Bool, Ev (fun k => if (i : Int) + 1 = (s.size : Int) then spec_Stripped.j1 k s out ((i : Int) + 1) true else if 0 ≤ (i : Int) + 1 then if (i : Int) + 1 < (s.size : Int) then spec_Stripped.j1 k s out ((i : Int) + 1) (bt s ((i : Int) + 1) != 91) else none else none) r → Ev (fun k => spec_Stripped.l0 k s out (i : Int)) r := by
          intro r h
          exact Ev.step (fun k => by rw [spec_Stripped.l0, w64 (x := (i : Int) + 1) (by omega) (by omega)]) (ev_ifp (by omega) (ev_ifp (by omega) (ev_ifp h27 h)))
        by_cases he : (i : Int) + 1 = s.size
        · exact fail _ rfl (step _ (ev_ifp he (hj1 true _ _ (by simp))))
        · by_cases h91 : bt s ((i : Int) + 1) = 91
          · have hb : (bt s ((i : Int) + 1) != 91) = false := by simp [h91]
            obtain ⟨t, b, ht, hq⟩ := (ih (d - 2) (by omega)).2 (i + 2) out (by omega) (by omega) hout
            refine ⟨t, b, step _ (ev_ifn he (ev_ifp (by omega) (ev_ifp (by omega) ?_))), fun hbt => ?_⟩
            · rw [hb]
              refine hj1 false _ _ ?_
              rw [if_neg (by simp), w64 (x := (i : Int) + 1 + 1) (by omega) (by omega), show (i : Int) + 1 + 1 = ((i + 2 : Nat) : Int) from by omega]
              exact ht
            · obtain ⟨hpl, u, hu1, hu4, hu2, hu3⟩ := hq hbt
              have hl2 : i + 1 < (ints s).length := by rw [ints_length]; omega
              have e2 := bt_ints s (i + 1) (by omega)
              rw [show ((i + 1 : Nat) : Int) = (i : Int) + 1 from by omega, h91] at e2
              rw [h27] at e1
              have ed : (ints s).drop i = 27 :: 91 :: (ints s).drop (i + 2) := by
                rw [List.drop_eq_getElem_cons hl, List.drop_eq_getElem_cons hl2, ← e1, ← e2]
              refine ⟨hpl, u, hu1, by omega, ?_, fun n => ?_⟩
              · rw [ed]; intro x hx
                rcases List.mem_cons.1 hx with rfl | hx
                · omega
                · rcases List.mem_cons.1 hx with rfl | hx
                  · omega
                  · exact hu2 x hx
              · rw [ed, List.foldl_cons, List.foldl_cons, show wstep (n, false) 27 = (n, true) from by simp [wstep], wstep_in n 91 (by omega), show (!isTerm 91) = true from by decide]
                exact hu3 n
          · have hb : (bt s ((i : Int) + 1) != 91) = true := by simpa using h91
            exact fail _ rfl (step _ (ev_ifn he (ev_ifp (by omega) (ev_ifp (by omega) (by rw [hb]; exact hj1 true _ _ (by simp))))))
      · -- a sign
        obtain ⟨t, b, ht, hq⟩ := (ih (d - 1) (by omega)).1 (i + 1) (out ++ [bt s (i : Int)]) (by omega) (by simp; omega) (by
          intro x hx
          rcases List.mem_append.1 hx with hx | hx
          · exact hout x hx
          · simp at hx; omega)
        rw [show ((i + 1 : Nat) : Int) = (i : Int) + 1 from by omega] at ht
        refine ⟨t, b, Ev.step (fun k => by rw [spec_Stripped.l0, w64 (x := (i : Int) + 1) (by omega) (by omega)]) (ev_ifp (by omega) (ev_ifp (by omega) (ev_ifn h27 (ev_ifp (by omega) ht)))), fun hbt => ?_⟩
        obtain ⟨hpl, u, hu1, hu4, hu2, hu3⟩ := hq hbt
        have hc : plainC (bt s (i : Int)) := hpl _ (by rw [hu1]; simp)
        have ed : (ints s).drop i = bt s (i : Int) :: (ints s).drop (i + 1) := by rw [List.drop_eq_getElem_cons hl, ← e1]
        refine ⟨hpl, bt s (i : Int) :: u, by rw [hu1]; simp, by simp; omega, ?_, fun n => ?_⟩
        · rw [ed]; intro x hx
          rcases List.mem_cons.1 hx with rfl | hx
          · unfold plainC at hc; omega
          · exact hu2 x hx
        · rw [ed, List.foldl_cons, wstep_plain n _ hc, hu3]
          simp only [wid, Prod.mk.injEq, and_true]; omega
    · have hsz : (strOfNums out).size = out.length := strOfNums_size out
      obtain ⟨b, hb, hq⟩ := plain_tells (strOfNums out) (by omega)
      refine ⟨strOfNums out, b, Ev.step (fun k => by rw [spec_Stripped.l0]) (ev_ifn (by omega) (ev_bind hb (Ev.now _))), fun hbt => ?_⟩
      rw [List.drop_of_length_le (by rw [ints_length]; omega)]
      exact ⟨hq hbt, [], by rw [ints_strOfNums out hout]; simp, by simp; omega, by simp, fun n => by simp [wid]⟩
  · intro i out hi hlen hout
    by_cases hlt : i < s.size
    · have hl : i < (ints s).length := by rw [ints_length]; omega
      have e1 := bt_ints s i hlt
      have ed : (ints s).drop i = bt s (i : Int) :: (ints s).drop (i + 1) := by rw [List.drop_eq_getElem_cons hl, ← e1]
      have e0 : wrap64 ((i : Int) + 1) = ((i + 1 : Nat) : Int) := by rw [w64 (by omega) (by omega)]; omega
      have more : isTerm (bt s (i : Int)) = false → 0 ≤ bt s (i : Int) → bt s (i : Int) < 128 → bt s (i : Int) ≠ 27 → ∀ t b, Told s out (i + 1) true t b → Told s out i true t b := by
        intro h1 h2 h3 h4 t b hq hbt
        obtain ⟨hpl, u, hu1, hu4, hu2, hu3⟩ := hq hbt
        refine ⟨hpl, u, hu1, by omega, ?_, fun n => ?_⟩
        · rw [ed]; intro x hx
          rcases List.mem_cons.1 hx with rfl | hx
          · omega
          · exact hu2 x hx
        · rw [ed, List.foldl_cons, wstep_in n _ h4, h1]
          exact hu3 n
      have done : bt s (i : Int) = 109 → ∀ t b, Told s out (i + 1) false t b → Told s out i true t b := by
        intro h1 t b hq hbt
        obtain ⟨hpl, u, hu1, hu4, hu2, hu3⟩ := hq hbt
        refine ⟨hpl, u, hu1, by omega, ?_, fun n => ?_⟩
        · rw [ed]; intro x hx
          rcases List.mem_cons.1 hx with rfl | hx
          · omega
          · exact hu2 x hx
        · rw [ed, List.foldl_cons, h1, wstep_in n _ (by omega), show (!isTerm 109) = false from by decide]
          exact hu3 n
      obtain ⟨t1, b1, ht1, hq1⟩ := (ih (d - 1) (by omega)).2 (i + 1) out (by omega) (by omega) hout
      obtain ⟨t2, b2, ht2, hq2⟩ := (ih (d - 1) (by omega)).1 (i + 1) out (by omega) (by omega) hout
      have step : ∀ r : ByteArray × Bool, Ev (fun k => if bt s (i : Int) ≥ 48 then if bt s (i : Int) ≤ 57 then spec_Stripped.l1 k s out ((i + 1 : Nat) : Int) else if bt s (i : Int) = 59 then spec_Stripped.l1 k s out ((i + 1 : Nat) : Int) else if (i : Int) = (s.size : Int) then some ((⟨#[]⟩ : ByteArray), false) else if bt s (i : Int) = 109 then spec_Stripped.l0 k s out ((i + 1 : Nat) : Int) else some ((⟨#[]⟩ : ByteArray), false)
          else if bt s (i : Int) = 59 then spec_Stripped.l1 k s out ((i + 1 : Nat) : Int) else if (i : Int) = (s.size : Int) then some ((⟨#[]⟩ : ByteArray), false) else if bt s (i : Int) = 109 then spec_Stripped.l0 k s out ((i + 1 : Nat) : Int) else some ((⟨#[]⟩ : ByteArray), false)) r → Ev (fun k => spec_Stripped.l1 k s out (i : Int)) r := by
        intro r h
        exact Ev.step (fun k => by rw [spec_Stripped.l1, e0]) (ev_ifp (by omega) (ev_ifp (by omega) h))
      by_cases h48 : bt s (i : Int) ≥ 48
      · by_cases h57 : bt s (i : Int) ≤ 57
        · exact ⟨t1, b1, step _ (ev_ifp h48 (ev_ifp h57 ht1)), more (by unfold isTerm; simp; omega) (by omega) (by omega) (by omega) _ _ hq1⟩
        · by_cases h59 : bt s (i : Int) = 59
          · exact ⟨t1, b1, step _ (ev_ifp h48 (ev_ifn h57 (ev_ifp h59 ht1))), more (by rw [h59]; decide) (by omega) (by omega) (by omega) _ _ hq1⟩
          · by_cases h109 : bt s (i : Int) = 109
            · exact ⟨t2, b2, step _ (ev_ifp h48 (ev_ifn h57 (ev_ifn h59 (ev_ifn (by omega) (ev_ifp h109 ht2))))), done h109 _ _ hq2⟩
            · exact ⟨_, _, step _ (ev_ifp h48 (ev_ifn h57 (ev_ifn h59 (ev_ifn (by omega) (ev_ifn h109 (Ev.now _)))))), fun h => by cases h⟩
      · exact ⟨_, _, step _ (ev_ifn h48 (ev_ifn (by omega) (ev_ifn (by omega) (ev_ifn (by omega) (Ev.now _))))), fun h => by cases h⟩
    · exact ⟨_, _, Ev.step (fun k => by rw [spec_Stripped.l1]) (ev_ifn (by omega) (ev_ifp (by omega) (Ev.now _))), fun h => by cases h⟩

theorem width_loop (s : ByteArray) (hs : s.size ≤ 4611686018427387904) (d : Nat) : ∀ (i : Nat) (n : Int), i + d = s.size → 0 ≤ n → n ≤ i → Ev (fun k => spec_Width.l0 k s n (i : Int)) (n + wid ((ints s).drop i)) := by
  induction d with
  | zero =>
    intro i n hi h0 h1
    rw [List.drop_of_length_le (by rw [ints_length]; omega)]
    exact Ev.step (fun k => by rw [spec_Width.l0]) (ev_ifn (by omega) (ev_some (by simp [wid])))
  | succ d ih =>
    intro i n hi h0 h1
    have hl : i < (ints s).length := by rw [ints_length]; omega
    have e1 := bt_ints s i (by omega)
    have ed : (ints s).drop i = bt s (i : Int) :: (ints s).drop (i + 1) := by rw [List.drop_eq_getElem_cons hl, ← e1]
    have e0 : wrap64 ((i : Int) + 1) = ((i + 1 : Nat) : Int) := by rw [w64 (by omega) (by omega)]; omega
    rw [ed]
    refine Ev.step (fun k => by rw [spec_Width.l0, e0, w64 (x := n + 1) (by omega) (by omega)]) (ev_ifp (by omega) (ev_ifp (by omega) ?_))
    by_cases h10 : bt s (i : Int) = 10
    · refine ev_ifp h10 ?_
      simp only [wid, h10, if_true]
      have := ih (i + 1) n (by omega) h0 (by omega)
      rwa [show n + (0 + wid ((ints s).drop (i + 1))) = n + wid ((ints s).drop (i + 1)) from by omega]
    · refine ev_ifn h10 ?_
      simp only [wid, h10, if_false]
      have := ih (i + 1) (n + 1) (by omega) (by omega) (by omega)
      rwa [show n + (1 + wid ((ints s).drop (i + 1))) = n + 1 + wid ((ints s).drop (i + 1)) from by omega]

theorem ascii_of (s : ByteArray) (h : ∀ x ∈ ints s, 0 ≤ x ∧ x < 128) : asciiB s = true := by
  unfold asciiB
  rw [List.all_eq_true]
  intro b hb
  have := h (b.toNat : Int) (by unfold ints; exact List.mem_map.2 ⟨b, hb, rfl⟩)
  simp; omega

def catA (l : List ByteArray) : ByteArray := ⟨(catB l).toArray⟩
theorem ints_catA (l : List ByteArray) : ints (catA l) = l.flatMap ints := by
  unfold ints catA catB
  rw [List.toList_toArray, List.map_flatMap]
theorem catA_len (l : List ByteArray) : (catA l).size = (l.map ByteArray.size).sum := by
  rw [← ints_length, ints_catA]
  induction l with
  | nil => rfl
  | cons s l ih => rw [List.flatMap_cons, List.length_append, ih, ints_length]; rfl
theorem fits_tells (l : List ByteArray) (hl : l.length ≤ maxLen) : ∃ b, Ev (fun k => laws_zzFits1.f k l) b := by
  unfold laws_zzFits1.f
  by_cases g : (l.length : Int) > 2147483647
  · exact ⟨false, ev_ifp g (Ev.now _)⟩
  suffices h : ∀ (d i : Nat), i + d = l.length → ∃ b, Ev (fun k => laws_zzFits1.l0 k l (l.length : Int) (i : Int)) b by
    obtain ⟨b, hb⟩ := h l.length 0 (by omega)
    exact ⟨b, ev_ifn g hb⟩
  intro d
  induction d with
  | zero => intro i hi; exact ⟨true, Ev.step (fun k => by rw [laws_zzFits1.l0]) (ev_ifn (by omega) (Ev.now _))⟩
  | succ d ih =>
    intro i hi
    obtain ⟨b, hb⟩ := ih (i + 1) (by omega)
    rw [show ((i + 1 : Nat) : Int) = (i : Int) + 1 from by omega] at hb
    by_cases h : ((rdOf ByteArray.empty l (i : Int)).size : Int) > 2147483647
    · exact ⟨false, Ev.step (fun k => by rw [laws_zzFits1.l0]) (ev_ifp (by omega) (ev_ifp (by omega) (ev_ifp (by omega) (ev_ifp h (Ev.now _)))))⟩
    · exact ⟨b, Ev.step (fun k => by rw [laws_zzFits1.l0, w64 (x := (i : Int) + 1) (by omega) (by omega)]) (ev_ifp (by omega) (ev_ifp (by omega) (ev_ifp (by omega) (ev_ifn h hb))))⟩
theorem joined_tells (l : List ByteArray) (d : Nat) : ∀ (i : Nat) (acc : ByteArray), i + d = l.length → ints acc = (l.take i).flatMap ints → acc.size ≤ i * 200 → (0 < i → l.length ≤ 20) → (∀ s ∈ l.take i, s.size ≤ 200) →
    ∃ x t b, Ev (fun k => laws_joined16.l0 k l acc (i : Int)) (x, t, b) ∧ (b = true → l.length ≤ 20 ∧ (∀ s ∈ l, s.size ≤ 200) ∧ (∀ y ∈ ints (catA l), 0 ≤ y ∧ y < 128) ∧ t.size ≤ 5000 ∧ (ints (catA l)).foldl wstep (0, false) = (wid (ints t), false)) := by
  induction d with
  | zero =>
    intro i acc hi ha hz h20 hs
    have hl20 : l.length ≤ 20 := by
      rcases Nat.eq_zero_or_pos i with h | h
      · omega
      · exact h20 h
    rw [List.take_of_length_le (by omega)] at ha hs
    have hacc : acc.size ≤ 5000 := by have : i ≤ 20 := by omega
                                      omega
    obtain ⟨t, b, ht, hq⟩ := (strip_loop acc hacc acc.size).1 0 [] (by omega) (by simp) (by simp)
    have ht' : Ev (fun k => spec_Stripped.f k acc) (t, b) := ht
    have hj : Ev (fun k => laws_joined16.l0 k l acc (i : Int)) (acc, t, b) := by
      refine Ev.step (fun k => by rw [laws_joined16.l0]) (ev_ifn (by omega) ?_)
      exact ev_bind (g := fun k => spec_Stripped.f k acc) ht' (Ev.now _)
    refine ⟨acc, t, b, hj, fun hb => ?_⟩
    obtain ⟨hpl, u, hu1, hu4, hu2, hu3⟩ := hq hb
    simp only [List.nil_append, List.drop_zero] at hu1 hu2 hu3
    have e : ints (catA l) = ints acc := by rw [ints_catA, ha]
    refine ⟨hl20, hs, by rw [e]; exact hu2, by rw [← ints_length, hu1]; omega, ?_⟩
    rw [e, hu3 0, hu1]; simp
  | succ d ih =>
    intro i acc hi ha hz h20 hs
    have hlt : i < l.length := by omega
    have er : rdOf ByteArray.empty l (i : Int) = l[i] := by
      unfold rdOf
      rw [List.getD_eq_getElem?_getD]
      simp [List.getElem?_eq_getElem hlt]
    by_cases g : (l.length : Int) > 20
    · exact ⟨_, _, false, Ev.step (fun k => by rw [laws_joined16.l0]) (ev_ifp (by omega) (ev_ifp g (Ev.now _))), fun h => by cases h⟩
    by_cases g2 : (l[i].size : Int) > 200
    · exact ⟨_, _, false, Ev.step (fun k => by rw [laws_joined16.l0, er]) (ev_ifp (by omega) (ev_ifn g (ev_ifp (by omega) (ev_ifp g2 (Ev.now _))))), fun h => by cases h⟩
    have hsz : (acc ++ l[i]).size = acc.size + l[i].size := by simp
    obtain ⟨x, t, b, hb, hq⟩ := ih (i + 1) (acc ++ l[i]) (by omega) (by rw [ints_append, ha, List.take_succ_eq_append_getElem hlt, List.flatMap_append]; simp) (by rw [hsz]; omega) (fun _ => by omega)
      (fun s hs' => by rw [List.take_succ_eq_append_getElem hlt, List.mem_append] at hs'; rcases hs' with h | h
                       · exact hs s h
                       · simp at h; subst h; omega)
    rw [show ((i + 1 : Nat) : Int) = (i : Int) + 1 from by omega] at hb
    exact ⟨x, t, b, Ev.step (fun k => by rw [laws_joined16.l0, er, w64 (x := (i : Int) + 1) (by omega) (by omega)]) (ev_ifp (by omega) (ev_ifn g (ev_ifp (by omega) (ev_ifn g2 (ev_ifp (by omega) hb))))), hq⟩
theorem FnBufferWidth : laws_FnBufferWidth.Pure := by
  intro l hl hg
  refine Ev.rounds (r := true) ?_
  unfold laws_FnBufferWidth.f
  obtain ⟨b, hb⟩ := fits_tells l hl
  refine ev_bind hb ?_
  cases b with
  | false => exact ev_ifn (by simp) (Ev.now _)
  | true =>
    refine ev_ifp rfl ?_
    obtain ⟨x, t, b, hj, hq⟩ := joined_tells l l.length 0 ⟨#[]⟩ (by omega) rfl (Nat.le_refl _) (by omega) (by simp)
    refine ev_bind (g := fun k => laws_joined16.f k l) hj ?_
    cases b with
    | false => exact ev_ifn (by simp) (Ev.now _)
    | true =>
      obtain ⟨h1, h2, h3, h4, h5⟩ := hq rfl
      refine ev_ifp rfl ?_
      have e1 : impl_BufferWidth.f l = some (wid (ints t)) := by
        unfold impl_BufferWidth.f
        rw [if_pos ⟨by omega, fun s hs => by have := h2 s hs; omega, ascii_of _ h3⟩]
        have : wfold (wbytes (catA l)) = (wid (ints t), false) := h5
        exact congrArg (fun p => some p.1) this
      have e2 : impl_BufferWidth.f [⟨#[97]⟩] = some 1 := by decide
      rw [e1, e2]
      simp only [Option.bind_some]
      have hw := width_loop t (by omega) t.size 0 0 (by omega) (by omega) (by omega)
      simp only [List.drop_zero, Int.zero_add] at hw
      exact ev_bind (g := fun k => spec_Width.f k t) hw (ev_ifp rfl (ev_some rfl))
end Go.Proofs.YthbdaoapjnofkaaDoor.Pure
