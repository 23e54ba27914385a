/- Messages that are written one behind the other are read as they were: the pure statement behind the law FnMessages; no condition. -/
import Derived.Test.YthkblefeifdhaaaPFnMessagesx2
namespace Go.Proofs.Ythkblefeifdhaaa.Pure
open Go.RowKit Go.Proofs.Ythkblefeifdhaaa.PFnMessages Go.Proofs.YthkblefeifdhaaaW.PrintWords Go.Proofs.YthkblefeifdhaaaW.PrintLast Go.Proofs.Ythkblefeifdhaaa.X Go.Proofs.Ythkblefeifdhaaa.R Go.Proofs.Ythkblefeifdhaaa.H
set_option linter.unusedVariables false
set_option linter.unusedSimpArgs false

theorem strNums_ints (xs : List Int) (h : ∀ x ∈ xs, 0 ≤ x ∧ x < 256) : ints (strOfNums xs) = xs := by
  unfold ints strOfNums
  simp only [List.map_map]
  conv => rhs; rw [← List.map_id xs]
  refine List.map_congr_left fun x hx => ?_
  have := h x hx
  simp [Function.comp, UInt8.toNat_ofNat']
  omega
theorem ints_range (s : ByteArray) : ∀ x ∈ ints s, 0 ≤ x ∧ x < 256 := by
  intro x hx
  unfold ints at hx
  obtain ⟨b, _, rfl⟩ := List.mem_map.1 hx
  have := b.toNat_lt
  omega
theorem head_range (n : Nat) (k : Int) (hn : n ≤ 500) (h0 : 0 ≤ k) (h1 : k < 32768) : ∀ x ∈ head6 n k, 0 ≤ x ∧ x < 256 := by
  intro x hx
  simp only [head6, List.mem_cons, List.not_mem_nil, or_false] at hx
  rcases hx with rfl | rfl | rfl | rfl | rfl | rfl <;> omega
/-- Messages, one behind the other. -/
def M : List Int → List ByteArray → List Int
  | k :: ks, d :: ds => head6 d.size k ++ (ints d ++ M ks ds)
  | _, _ => []
def tot (ds : List ByteArray) : Nat := (ds.map ByteArray.size).sum
theorem M_range : ∀ (ks : List Int) (ds : List ByteArray), (∀ k ∈ ks, 0 ≤ k ∧ k < 32768) → tot ds ≤ 500 → ∀ x ∈ M ks ds, 0 ≤ x ∧ x < 256
  | [], ds, _, _ => by cases ds <;> simp [M]
  | _ :: _, [], _, _ => by simp [M]
  | k :: ks, d :: ds, hk, ht => by
    have h1 : tot (d :: ds) = d.size + tot ds := by simp [tot]
    intro x hx
    simp only [M, List.mem_append] at hx
    have hk0 := hk k (by simp)
    rcases hx with hx | hx | hx
    · exact head_range _ _ (by omega) hk0.1 hk0.2 x hx
    · exact ints_range d x hx
    · exact M_range ks ds (fun k' h' => hk k' (by simp [h'])) (by omega) x hx
theorem M_length : ∀ (ks : List Int) (ds : List ByteArray), (M ks ds).length ≤ 6 * ds.length + tot ds
  | [], ds => by cases ds <;> simp [M]
  | _ :: _, [] => by simp [M]
  | k :: ks, d :: ds => by
    have h1 : tot (d :: ds) = d.size + tot ds := by simp [tot]
    have := M_length ks ds
    simp only [M, List.length_append, ints_length, List.length_cons, h1]
    simp only [head6, List.length_cons, List.length_nil]
    omega
theorem read_tells (S d : ByteArray) (k : Int) (R : List Int) (h0 : 0 ≤ k) (h1 : k < 32768) (hd : d.size ≤ 500) (hS : S.size ≤ 100000) (h : ints S = head6 d.size k ++ (ints d ++ R)) : impl_MessageRead.f S = some (k, d, strOfNums R, true) := by
  have hl := ints_length d
  have eN : msgN S = d.size := by unfold msgN; rw [h]; simp only [head6, List.cons_append, List.nil_append, List.getD_cons_succ, List.getD_cons_zero]; omega
  have eK : (msgK S : Int) = k := by unfold msgK; rw [h]; simp only [head6, List.cons_append, List.nil_append, List.getD_cons_succ, List.getD_cons_zero]; omega
  have d6 : (ints S).drop 6 = ints d ++ R := by rw [h]; rfl
  have eD : msgD S = ints d := by unfold msgD; rw [d6, eN, ← hl, List.take_left]
  have eR : msgR S = R := by unfold msgR; rw [eN, ← List.drop_drop, d6, ← hl, List.drop_left]
  unfold impl_MessageRead.f
  have eS : strOfNums (ints d) = d := ints_inj (strNums_ints _ (ints_range d))
  rw [if_pos ⟨by omega, by omega, hS, by rw [eD, eN, hl], by rw [eD, eR, eN, eK]; exact h⟩, eD, eR, eK, eS]
theorem zz_loop (l : List ByteArray) (hl : l.length ≤ 2147483647) : ∀ d i : Nat, i + d = l.length → ∃ b, Ev (fun k => laws_zzFits1.l0 k l (l.length : Int) (i : Int)) b ∧ (b = true → ∀ j, i ≤ j → j < l.length → (l.getD j ByteArray.empty).size ≤ 2147483647) := by
  intro d
  induction d with
  | zero => exact fun i hi => ⟨true, Ev.step (fun k => by rw [laws_zzFits1.l0]) (ev_ifn (by omega) (Ev.now _)), fun _ j h1 h2 => by omega⟩
  | succ d ih =>
    intro i hi
    obtain ⟨b, hb, hq⟩ := ih (i + 1) (by omega)
    rw [show ((i + 1 : Nat) : Int) = (i : Int) + 1 from by omega] at hb
    have er : rdOf ByteArray.empty l (i : Int) = l.getD i ByteArray.empty := by unfold rdOf; rw [Int.toNat_natCast]
    by_cases hz : ((l.getD i ByteArray.empty).size : Int) > 2147483647
    · exact ⟨false, Ev.step (fun k => by rw [laws_zzFits1.l0, er]) (ev_ifp (by omega) (ev_ifp (by omega) (ev_ifp (by omega) (ev_ifp hz (Ev.now _))))), fun h => by cases h⟩
    · refine ⟨b, Ev.step (fun k => by rw [laws_zzFits1.l0, er, w64 (x := (i : Int) + 1) (by omega) (by omega)]) (ev_ifp (by omega) (ev_ifp (by omega) (ev_ifp (by omega) (ev_ifn hz hb)))), fun h j h1 h2 => ?_⟩
      rcases Nat.eq_or_lt_of_le h1 with rfl | h3
      · omega
      · exact hq h j h3 h2
theorem tot_cons (d : ByteArray) (ds : List ByteArray) : tot (d :: ds) = d.size + tot ds := by simp [tot]
theorem tot_append (a b : List ByteArray) : tot (a ++ b) = tot a + tot b := by unfold tot; rw [List.map_append, List.sum_append]
theorem tot_drop (ds : List ByteArray) (i : Nat) : tot (ds.drop i) ≤ tot ds := by
  have : tot ds = tot (ds.take i) + tot (ds.drop i) := by
    unfold tot
    rw [← List.sum_append, ← List.map_append, List.take_append_drop]
  omega
theorem FnMessages : laws_FnMessages.Pure := by
  intro ks ds hk hkw hd hdw
  refine Ev.rounds (r := true) ?_
  have hk16 : ∀ x ∈ ks, 0 ≤ x ∧ x ≤ 65535 := fun x hx => by
    have hc := hkw x hx
    simp only [Lit.wf, Bool.and_eq_true, decide_eq_true_eq] at hc
    have e1 : IntKind.u16.min = 0 := rfl
    have e2 : IntKind.u16.max = 65535 := rfl
    omega
  have j1 : ∀ b : Bool, (b = false → ks.length = ds.length ∧ ds.length ≤ 12 ∧ ∀ j, j < ds.length → (ds.getD j ByteArray.empty).size ≤ 2147483647) → Ev (fun k => laws_FnMessages.j1 k ks ds b) true := by
    intro b hb
    cases b with
    | true => exact Ev.step (fun k => by rw [laws_FnMessages.j1]) (ev_ifp rfl (Ev.now _))
    | false =>
      obtain ⟨hlen, h12, hsz⟩ := hb rfl
      have gk : ∀ i (h : i < ds.length), rd ks (i : Int) = ks[i]'(by omega) := fun i h => by
        unfold rd; rw [Int.toNat_natCast, List.getD_eq_getElem?_getD, List.getElem?_eq_getElem (by omega)]; rfl
      have gd : ∀ i (h : i < ds.length), rdOf ByteArray.empty ds (i : Int) = ds[i] := fun i h => by
        unfold rdOf; rw [Int.toNat_natCast, List.getD_eq_getElem?_getD, List.getElem?_eq_getElem h]; rfl
      have dropk : ∀ i (h : i < ds.length), M (ks.drop i) (ds.drop i) = head6 ds[i].size (ks[i]'(by omega)) ++ (ints ds[i] ++ M (ks.drop (i + 1)) (ds.drop (i + 1))) := fun i h => by
        rw [List.drop_eq_getElem_cons (l := ks) (by omega), List.drop_eq_getElem_cons h, M]
      have dropn : M (ks.drop ds.length) (ds.drop ds.length) = [] := by
        rw [← hlen, List.drop_length]; cases ds.drop ks.length <;> rfl
      have main : (∀ x ∈ ks, 0 ≤ x ∧ x < 32768) → tot ds ≤ 500 → Ev (fun k => laws_FnMessages.l1 k ks ds (⟨#[]⟩ : ByteArray) (ds.length : Int) 0) true := by
        intro hks ht
        have hds : ∀ i (h : i < ds.length), ds[i].size ≤ 500 := fun i h => by
          have h1 := tot_drop ds i
          rw [List.drop_eq_getElem_cons h] at h1
          have h2 := tot_cons ds[i] (ds.drop (i + 1))
          omega
        have l2 : ∀ dd i S, i + dd = ds.length → ints S = M (ks.drop i) (ds.drop i) → Ev (fun k => laws_FnMessages.l2 k ks ds S (ds.length : Int) (i : Int)) true := by
          intro dd
          induction dd with
          | zero =>
            intro i S hi hS
            obtain rfl : i = ds.length := by omega
            rw [dropn] at hS
            obtain rfl : S = (⟨#[]⟩ : ByteArray) := ints_inj hS
            refine Ev.step (fun k => by rw [laws_FnMessages.l2]) (ev_ifn (by omega) (ev_ifp (by simp [ByteArray.toList_eq]) ?_))
            have e : impl_MessageWritten.f 1 (⟨#[]⟩ : ByteArray) = some (⟨#[0, 0, 0, 2, 0, 1]⟩ : ByteArray) := by decide
            rw [e]
            exact ev_some (by simp [ByteArray.toList_eq])
          | succ dd ih =>
            intro i S hi hS
            have hin : i < ds.length := by omega
            rw [dropk i hin] at hS
            have hkr := hks _ (List.getElem_mem (show i < ks.length by omega))
            have hR := M_range (ks.drop (i + 1)) (ds.drop (i + 1)) (fun x hx => hks x (List.mem_of_mem_drop hx)) (Nat.le_trans (tot_drop ds (i + 1)) ht)
            have hlS : S.size ≤ 100000 := by
              have h1 := congrArg List.length hS
              have h2 := M_length (ks.drop (i + 1)) (ds.drop (i + 1))
              have h3 := tot_drop ds (i + 1)
              have h4 := hds i hin
              simp only [List.length_append, ints_length, List.length_drop] at h1 h2
              simp only [head6, List.length_cons, List.length_nil] at h1
              omega
            have hrd := read_tells S ds[i] _ _ hkr.1 hkr.2 (hds i hin) hlS hS
            have hb := ih (i + 1) (strOfNums (M (ks.drop (i + 1)) (ds.drop (i + 1)))) (by omega) (strNums_ints _ hR)
            rw [show ((i + 1 : Nat) : Int) = (i : Int) + 1 by omega] at hb
            refine Ev.step (fun k => by rw [laws_FnMessages.l2, hrd, gk i hin, gd i hin, w64 (x := (i : Int) + 1) (by omega) (by omega), w64 (x := ks[i]'(by omega)) (by omega) (by omega)]) (ev_ifp (by omega) ?_)
            simp only [Option.bind_some]
            exact ev_ifp trivial (ev_ifp (by omega) (ev_ifp (by omega) (ev_ifp trivial (ev_ifp (by omega) (ev_ifp trivial hb)))))
        have l1 : ∀ dd i S, i + dd = ds.length → ints S ++ M (ks.drop i) (ds.drop i) = M ks ds → Ev (fun k => laws_FnMessages.l1 k ks ds S (ds.length : Int) (i : Int)) true := by
          intro dd
          induction dd with
          | zero =>
            intro i S hi hS
            obtain rfl : i = ds.length := by omega
            rw [dropn, List.append_nil] at hS
            refine Ev.step (fun k => by rw [laws_FnMessages.l1]) (ev_ifn (by omega) ?_)
            exact l2 ds.length 0 S (by omega) hS
          | succ dd ih =>
            intro i S hi hS
            have hin : i < ds.length := by omega
            rw [dropk i hin] at hS
            have hkr := hks _ (List.getElem_mem (show i < ks.length by omega))
            have hw : impl_MessageWritten.f (ks[i]'(by omega)) ds[i] = some (strOfNums (head6 ds[i].size (ks[i]'(by omega)) ++ ints ds[i])) := by
              unfold impl_MessageWritten.f
              rw [if_pos ⟨hds i hin, hkr.1, hkr.2⟩]
            have hti := strNums_ints (head6 ds[i].size (ks[i]'(by omega)) ++ ints ds[i]) (fun x hx => by
              rcases List.mem_append.1 hx with h | h
              · exact head_range _ _ (hds i hin) hkr.1 hkr.2 x h
              · exact ints_range _ x h)
            have hb := ih (i + 1) (S ++ strOfNums (head6 ds[i].size (ks[i]'(by omega)) ++ ints ds[i])) (by omega) (by
              rw [ints_append, hti, ← hS, List.append_assoc, List.append_assoc])
            rw [show ((i + 1 : Nat) : Int) = (i : Int) + 1 by omega] at hb
            have h1 := congrArg List.length hS
            have h2 := M_length ks ds
            have h3 := congrArg List.length hti
            simp only [List.length_append, ints_length] at h1 h3
            refine Ev.step (fun k => by rw [laws_FnMessages.l1, gk i hin, gd i hin, w64 (x := (i : Int) + 1) (by omega) (by omega), w64 (x := ks[i]'(by omega)) (by omega) (by omega), hw]) (ev_ifp (by omega) (ev_ifp (by omega) (ev_ifp (by omega) (ev_ifp (by omega) ?_))))
            simp only [Option.bind_some]
            exact ev_ifp (by omega) hb
        exact l1 ds.length 0 ⟨#[]⟩ (by omega) rfl
      have l0 : ∀ dd i : Nat, i + dd = ds.length → (∀ j (h : j < i) (h2 : j < ks.length), ks[j] < 32768) → tot (ds.take i) ≤ i * 2147483647 → Ev (fun k => laws_FnMessages.l0 k ks ds ((tot (ds.take i) : Nat) : Int) (ds.length : Int) (i : Int)) true := by
        intro dd
        induction dd with
        | zero =>
          intro i hi hj hT
          obtain rfl : i = ds.length := by omega
          rw [List.take_length]
          refine Ev.step (fun k => by rw [laws_FnMessages.l0]) (ev_ifn (by omega) ?_)
          by_cases h5 : ((tot ds : Nat) : Int) > 500
          · exact ev_ifp h5 (Ev.now _)
          · refine ev_ifn h5 (main (fun x hx => ?_) (by omega))
            obtain ⟨j, hjl, rfl⟩ := List.getElem_of_mem hx
            exact ⟨(hk16 _ hx).1, hj j (by omega) hjl⟩
        | succ dd ih =>
          intro i hi hj hT
          have hin : i < ds.length := by omega
          have e1 : tot (ds.take (i + 1)) = tot (ds.take i) + ds[i].size := by
            rw [List.take_add_one, List.getElem?_eq_getElem hin, tot_append]
            show _ + tot [ds[i]] = _
            rw [tot_cons]
            rfl
          have e2 : ds[i].size ≤ 2147483647 := by
            have := hsz i hin
            rwa [List.getD_eq_getElem?_getD, List.getElem?_eq_getElem hin] at this
          by_cases h3 : (ks[i]'(by omega)) ≥ 32768
          · exact Ev.step (fun k => by rw [laws_FnMessages.l0, gk i hin]) (ev_ifp (by omega) (ev_ifp (by omega) (ev_ifp (by omega) (ev_ifp (by omega) (ev_ifp h3 (Ev.now _))))))
          · have hb := ih (i + 1) (by omega) (fun j h h2 => by
              rcases Nat.lt_succ_iff_lt_or_eq.1 h with h | rfl
              · exact hj j h h2
              · omega) (by omega)
            rw [show ((i + 1 : Nat) : Int) = (i : Int) + 1 by omega, e1, show ((tot (ds.take i) + ds[i].size : Nat) : Int) = ((tot (ds.take i) : Nat) : Int) + (ds[i].size : Int) by omega] at hb
            exact Ev.step (fun k => by rw [laws_FnMessages.l0, gk i hin, gd i hin, w64 (x := (i : Int) + 1) (by omega) (by omega), w64 (x := ((tot (ds.take i) : Nat) : Int) + (ds[i].size : Int)) (by omega) (by omega)]) (ev_ifp (by omega) (ev_ifp (by omega) (ev_ifp (by omega) (ev_ifp (by omega) (ev_ifn h3 hb)))))
      refine Ev.step (fun k => by rw [laws_FnMessages.j1]) (ev_ifn (by simp) ?_)
      exact l0 ds.length 0 (by omega) (fun j h => by omega) (by simp [tot])
  have j0 : ∀ b : Bool, (b = false → ∀ j, j < ds.length → (ds.getD j ByteArray.empty).size ≤ 2147483647) → Ev (fun k => laws_FnMessages.j0 k ks ds b) true := by
    intro b hb
    cases b with
    | true => exact Ev.step (fun k => by rw [laws_FnMessages.j0]) (ev_ifp rfl (Ev.now _))
    | false =>
      refine Ev.step (fun k => by rw [laws_FnMessages.j0]) (ev_ifn (by simp) ?_)
      by_cases hl : (ks.length : Int) = (ds.length : Int)
      · exact ev_ifp hl (j1 _ (fun h => ⟨by omega, by have := of_decide_eq_false h; omega, hb rfl⟩))
      · exact ev_ifn hl (j1 true (by simp))
  unfold laws_FnMessages.f
  by_cases h1 : (ks.length : Int) > 2147483647
  · exact ev_ifp h1 (j0 true (by simp))
  refine ev_ifn h1 ?_
  have hzz : ∃ b, Ev (fun k => laws_zzFits1.f k ds) b ∧ (b = true → ∀ j, j < ds.length → (ds.getD j ByteArray.empty).size ≤ 2147483647) := by
    unfold laws_zzFits1.f
    by_cases h2 : (ds.length : Int) > 2147483647
    · exact ⟨false, ev_ifp h2 (Ev.now _), fun h => by cases h⟩
    · obtain ⟨b, hb, hq⟩ := zz_loop ds (by omega) ds.length 0 (by omega)
      exact ⟨b, ev_ifn h2 hb, fun h j hj => hq h j (Nat.zero_le _) hj⟩
  obtain ⟨b, hb, hq⟩ := hzz
  refine ev_bind hb (j0 _ (fun h => hq (by simpa using h)))
end Go.Proofs.Ythkblefeifdhaaa.Pure
