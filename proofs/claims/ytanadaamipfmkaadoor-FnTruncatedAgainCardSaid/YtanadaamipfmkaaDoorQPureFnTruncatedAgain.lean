/- A line that is cut twice is cut to the lesser width: the pure statement behind the law FnTruncatedAgain; no condition. -/
import Derived.Test.YtanadaamipfmkaaDoorQPFnTruncatedAgainx1
import Derived.Test.YtanadaamipfmkaaDoorQXPure
import Derived.Test.YtanadaamipfmkaaDoorQXLines
namespace Go.Proofs.YtanadaamipfmkaaDoor.Pure
open Go.RowKit Go.Proofs.YtanadaamipfmkaaDoor.R Go.Proofs.YtanadaamipfmkaaDoor.X Go.Proofs.YtanadaamipfmkaaDoor.H Go.Proofs.YtanadaamipfmkaaDoor.PFnTruncatedAgain Go.Proofs.YtanadaamipfmkaaDoorW.PrintWords Go.Proofs.YtanadaamipfmkaaDoorW.PrintLast
set_option linter.unusedVariables false
theorem plain_tells (s : ByteArray) (hs : s.size ≤ 4611686018427387904) : ∃ b, Ev (fun k => laws_plain16.f k s) b ∧ (b = true → s.size ≤ 2000 ∧ ∀ x ∈ ints s, x = 10 ∨ (32 ≤ x ∧ x ≤ 126)) := by
  have hl := ints_length s
  unfold laws_plain16.f
  by_cases hz : (s.size : Int) ≤ 2000
  · have h : ∀ d i : Nat, i + d = s.size → ∃ b, Ev (fun k => spec_Plain.l0 k s (i : Int)) b ∧ (b = true → ∀ x ∈ (ints s).drop i, x = 10 ∨ (32 ≤ x ∧ x ≤ 126)) := by
      intro d
      induction d with
      | zero =>
        intro i hi
        refine ⟨true, Ev.step (fun k => by rw [spec_Plain.l0]) (ev_ifn (by omega) (Ev.now _)), fun _ => ?_⟩
        rw [List.drop_of_length_le (by omega)]; simp
      | succ d ih =>
        intro i hi
        obtain ⟨b, h1, h2⟩ := ih (i + 1) (by omega)
        rw [show ((i + 1 : Nat) : Int) = (i : Int) + 1 from by omega] at h1
        have hb := bt_list s i (by omega)
        by_cases h10 : bt s (i : Int) = 10
        · refine ⟨b, Ev.step (fun k => by rw [spec_Plain.l0, w64 (x := (i : Int) + 1) (by omega) (by omega)]) (ev_ifp (by omega) (ev_ifp (by omega) (ev_ifp h10 h1))), fun hbt x hm => ?_⟩
          rw [List.drop_eq_getElem_cons (by omega), ← hb, h10] at hm
          rcases List.mem_cons.1 hm with e | hm
          · exact .inl e
          · exact h2 hbt x hm
        · by_cases h32 : bt s (i : Int) < 32
          · exact ⟨false, Ev.step (fun k => by rw [spec_Plain.l0]) (ev_ifp (by omega) (ev_ifp (by omega) (ev_ifn h10 (ev_ifp h32 (Ev.now _))))), fun h => by cases h⟩
          · by_cases h126 : bt s (i : Int) > 126
            · exact ⟨false, Ev.step (fun k => by rw [spec_Plain.l0]) (ev_ifp (by omega) (ev_ifp (by omega) (ev_ifn h10 (ev_ifn h32 (ev_ifp h126 (Ev.now _)))))), fun h => by cases h⟩
            · refine ⟨b, Ev.step (fun k => by rw [spec_Plain.l0, w64 (x := (i : Int) + 1) (by omega) (by omega)]) (ev_ifp (by omega) (ev_ifp (by omega) (ev_ifn h10 (ev_ifn h32 (ev_ifn h126 h1))))), fun hbt x hm => ?_⟩
              rw [List.drop_eq_getElem_cons (by omega), ← hb] at hm
              rcases List.mem_cons.1 hm with e | hm
              · omega
              · exact h2 hbt x hm
    obtain ⟨b, h1, h2⟩ := h s.size 0 (by omega)
    exact ⟨b, ev_ifp hz (ev_bind h1 (Ev.now _)), fun hb => ⟨by omega, by simpa using h2 hb⟩⟩
  · exact ⟨false, ev_ifn hz (Ev.now _), fun h => by cases h⟩
theorem some_tells (s : ByteArray) (hs : s.size ≤ 4611686018427387904) : ∃ b, Ev (fun k => laws_some16.f k s) b ∧ (b = true → s.size ≤ 800 ∧ ∀ x ∈ ints s, x = 10 ∨ (32 ≤ x ∧ x ≤ 126)) := by
  unfold laws_some16.f
  by_cases hz : (s.size : Int) ≤ 800
  · obtain ⟨b, h1, h2⟩ := plain_tells s hs
    exact ⟨b, ev_ifp hz (ev_bind h1 (Ev.now _)), fun hb => ⟨by omega, (h2 hb).2⟩⟩
  · exact ⟨false, ev_ifn hz (Ev.now _), fun h => by cases h⟩
theorem lined_tells (s : ByteArray) (hs : s.size ≤ 4611686018427387904) : ∃ b, Ev (fun k => spec_Lined.f k s) b ∧ (b = true → 10 ∉ ints s) := by
  have hl := ints_length s
  have h : ∀ d i : Nat, i + d = s.size → ∃ b, Ev (fun k => spec_Lined.l0 k s (i : Int)) b ∧ (b = true → 10 ∉ (ints s).drop i) := by
    intro d
    induction d with
    | zero =>
      intro i hi
      refine ⟨true, Ev.step (fun k => by rw [spec_Lined.l0]) (ev_ifn (by omega) (Ev.now _)), fun _ => ?_⟩
      rw [List.drop_of_length_le (by omega)]; simp
    | succ d ih =>
      intro i hi
      obtain ⟨b, h1, h2⟩ := ih (i + 1) (by omega)
      rw [show ((i + 1 : Nat) : Int) = (i : Int) + 1 from by omega] at h1
      have hb := bt_list s i (by omega)
      by_cases h10 : bt s (i : Int) = 10
      · exact ⟨false, Ev.step (fun k => by rw [spec_Lined.l0]) (ev_ifp (by omega) (ev_ifp (by omega) (ev_ifp h10 (Ev.now _)))), fun h => by cases h⟩
      · refine ⟨b, Ev.step (fun k => by rw [spec_Lined.l0, w64 (x := (i : Int) + 1) (by omega) (by omega)]) (ev_ifp (by omega) (ev_ifp (by omega) (ev_ifn h10 h1))), fun hbt hm => ?_⟩
        rw [List.drop_eq_getElem_cons (by omega), ← hb] at hm
        rcases List.mem_cons.1 hm with e | hm
        · omega
        · exact h2 hbt hm
  obtain ⟨b, h1, h2⟩ := h s.size 0 (by omega)
  exact ⟨b, h1, fun hb => by simpa using h2 hb⟩
theorem plain_of {s : ByteArray} (h1 : ∀ x ∈ ints s, x = 10 ∨ (32 ≤ x ∧ x ≤ 126)) (h2 : 10 ∉ ints s) : PlainB s := fun x hx => by
  have hm : (x.toNat : Int) ∈ ints s := List.mem_map.2 ⟨x, hx, rfl⟩
  rcases h1 _ hm with e | h
  · exact absurd (e ▸ hm) h2
  · omega
theorem trunc_nil (n : Nat) (u : List UInt8) : truncU n [] u = u.take n := by
  unfold truncU
  simp only [List.length_nil, Nat.sub_zero, List.append_nil]
  rw [if_neg (by omega)]
  by_cases h : u.length ≤ n
  · rw [if_pos h, List.take_of_length_le h]
  · rw [if_neg h]
theorem trunc_size (n : Nat) (t u : List UInt8) : (truncU n t u).length ≤ n ∨ (truncU n t u).length = t.length := by
  unfold truncU
  by_cases h : n < t.length
  · rw [if_pos h]; exact .inr rfl
  · rw [if_neg h]
    by_cases h2 : u.length ≤ n - t.length
    · rw [if_pos h2]; left; omega
    · rw [if_neg h2]; left; simp; omega
theorem trunc_mem (n : Nat) (t u : List UInt8) : ∀ x ∈ truncU n t u, x ∈ t ∨ x ∈ u := by
  intro x hx
  unfold truncU at hx
  split at hx
  · exact .inl hx
  · split at hx
    · exact .inr hx
    · rcases List.mem_append.1 hx with h | h
      · exact .inr (List.mem_of_mem_take h)
      · exact .inl h
theorem data_of (l : List UInt8) : (⟨l.toArray⟩ : ByteArray).data.toList = l := by simp
theorem size_of (l : List UInt8) : (⟨l.toArray⟩ : ByteArray).size = l.length := by simp [ByteArray.size]
theorem tr_f (s : ByteArray) (n : Nat) (tail : ByteArray) (hs : s.size ≤ 800) (hp : PlainB s) (hn : n ≤ 1000) (ht : tail.size ≤ 800) (hq : PlainB tail) : impl_Truncated.f s (n : Int) tail = some (truncated n tail s) := by
  unfold impl_Truncated.f
  rw [if_pos ⟨by omega, hp, by omega, by omega, by omega, hq⟩, Int.toNat_natCast]
theorem FnTruncatedAgain : laws_FnTruncatedAgain.Pure := by
  intro s a b tail hs ha hb ht
  suffices h : Ev (fun k => laws_FnTruncatedAgain.f k s a b tail) true by
    obtain ⟨k, hk⟩ := h
    exact ⟨k, hk k (Nat.le_refl _)⟩
  have ha0 : 0 ≤ a := by
    simp [Lit.wf, IntKind.min, IntKind.max, IntKind.signed] at ha
    omega
  have hb0 : 0 ≤ b := by
    simp [Lit.wf, IntKind.min, IntKind.max, IntKind.signed] at hb
    omega
  have done0 : Ev (fun k => laws_FnTruncatedAgain.j0 k s a b tail true) true := Ev.step (fun k => by rw [laws_FnTruncatedAgain.j0]) (ev_ifp rfl (Ev.now _))
  have done1 : Ev (fun k => laws_FnTruncatedAgain.j1 k s a b tail true) true := Ev.step (fun k => by rw [laws_FnTruncatedAgain.j1]) (ev_ifp rfl (Ev.now _))
  unfold laws_FnTruncatedAgain.f
  by_cases hz : (s.size : Int) > 2147483647
  · exact ev_ifp hz done0
  refine ev_ifn hz ?_
  by_cases hz2 : (tail.size : Int) > 2147483647
  · rw [decide_eq_true hz2]; exact done0
  rw [decide_eq_false hz2]
  refine Ev.step (fun k => by rw [laws_FnTruncatedAgain.j0]) (ev_ifn (by simp) ?_)
  obtain ⟨x1, e1, q1⟩ := some_tells s (by omega)
  obtain ⟨x2, e2, q2⟩ := some_tells tail (by omega)
  obtain ⟨x3, e3, q3⟩ := lined_tells s (by omega)
  obtain ⟨x4, e4, q4⟩ := lined_tells tail (by omega)
  refine ev_bind e1 ?_
  cases x1 with
  | false => exact ev_ifn (by simp) done1
  | true =>
  refine ev_ifp rfl (ev_bind e2 ?_)
  cases x2 with
  | false => exact ev_ifn (by simp) done1
  | true =>
  refine ev_ifp rfl (ev_bind e3 ?_)
  cases x3 with
  | false => exact ev_ifn (by simp) done1
  | true =>
  refine ev_ifp rfl (ev_bind e4 ?_)
  cases x4 with
  | false => exact ev_ifn (by simp) done1
  | true =>
  refine ev_ifp rfl ?_
  by_cases ha2 : a > 200
  · exact ev_ifp ha2 done1
  refine ev_ifn ha2 ?_
  by_cases hb2 : b > 200
  · rw [decide_eq_true hb2]; exact done1
  rw [decide_eq_false hb2]
  obtain ⟨s1, s2⟩ := q1 rfl
  obtain ⟨t1, t2⟩ := q2 rfl
  have hps := plain_of s2 (q3 rfl)
  have hpt := plain_of t2 (q4 rfl)
  obtain ⟨m, rfl⟩ := Int.eq_ofNat_of_zero_le ha0
  obtain ⟨n, rfl⟩ := Int.eq_ofNat_of_zero_le hb0
  have hwr : ∀ z : Nat, z ≤ 200 → IntKind.u64.wrap (z : Int) = z := fun z hz => by unfold IntKind.wrap; simp [IntKind.bits, IntKind.signed] <;> omega
  have hmn : mn (m : Int) (n : Int) = ((min m n : Nat) : Int) := by unfold mn; split <;> omega
  have hem : (⟨#[]⟩ : ByteArray).data.toList = [] := rfl
  have hpe : PlainB ⟨#[]⟩ := fun x hx => by rw [hem] at hx; simp at hx
  have hez : (⟨#[]⟩ : ByteArray).size ≤ 800 := by show 0 ≤ 800; omega
  have hds : s.data.toList.length = s.size := dlen s
  have hdt : tail.data.toList.length = tail.size := dlen tail
  have f1 := tr_f s m tail s1 hps (by omega) t1 hpt
  have f2 := tr_f s m ⟨#[]⟩ s1 hps (by omega) hez hpe
  have hu : truncated m ⟨#[]⟩ s = ⟨(s.data.toList.take m).toArray⟩ := by unfold truncated; rw [hem, trunc_nil]
  have hup : PlainB (truncated m ⟨#[]⟩ s) := fun x hx => by
    rw [hu, data_of] at hx
    exact hps x (List.mem_of_mem_take hx)
  have huz : (truncated m ⟨#[]⟩ s).size ≤ 800 := by rw [hu, size_of, List.length_take]; omega
  have f3 := tr_f (truncated m ⟨#[]⟩ s) n ⟨#[]⟩ huz hup (by omega) hez hpe
  have f4 := tr_f s (min m n) ⟨#[]⟩ s1 hps (by omega) hez hpe
  have heq : truncated n ⟨#[]⟩ (truncated m ⟨#[]⟩ s) = truncated (min m n) ⟨#[]⟩ s := by
    rw [hu]
    unfold truncated
    rw [hem, data_of, trunc_nil, trunc_nil, List.take_take, Nat.min_comm]
  rw [heq] at f3
  have hoz : (truncated m tail s).size = (truncU m tail.data.toList s.data.toList).length := by unfold truncated; rw [size_of]
  have hos := trunc_size m tail.data.toList s.data.toList
  have hop : PlainB (truncated m tail s) := fun x hx => by
    unfold truncated at hx
    rw [data_of] at hx
    rcases trunc_mem _ _ _ x hx with h | h
    · exact hpt x h
    · exact hps x h
  have f5 : impl_Width.f (truncated m tail s) = some ((truncated m tail s).size : Int) := by
    unfold impl_Width.f
    rw [if_pos ⟨by omega, hop⟩]
  have f6 : impl_Truncated.f ⟨#[97, 98, 99]⟩ 2 ⟨#[]⟩ = some ⟨#[97, 98]⟩ := by
    unfold impl_Truncated.f
    rw [if_pos (by decide)]
    first | done | rfl
  have hmx : ((truncated m tail s).size : Int) ≤ mx (m : Int) (tail.size : Int) := by
    unfold mx
    split <;> omega
  refine Ev.step (fun k => by rw [laws_FnTruncatedAgain.j1, hmn, hwr m (by omega), hwr n (by omega), hwr (min m n) (by omega), f1, f2, w64 (x := (m : Int)) (by omega) (by omega), f6]) (ev_ifn (by simp) ?_)
  simp only [Option.bind_some]
  rw [f3, f4]
  simp only [Option.bind_some]
  refine ev_ifp trivial ?_
  rw [f5]
  simp only [Option.bind_some]
  refine ev_ifp hmx (ev_some ?_)
  simp [ByteArray.toList_eq]
end Go.Proofs.YtanadaamipfmkaaDoor.Pure
