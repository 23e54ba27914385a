/- A row of words as completers (impl.items): the walk; for at most 1000000 ASCII words of at most 100000 bytes each. -/
import Derived.Test.YthbdaoapjnofkaaDoorQHCmD
namespace Go.Proofs.YthbdaoapjnofkaaDoor.H
open Go.RowKit Go.Proofs.YthbdaoapjnofkaaDoorW.PrintWords Go.Proofs.YthbdaoapjnofkaaDoorW.PrintLast Go.Proofs.YthbdaoapjnofkaaDoor.R Go.Proofs.YthbdaoapjnofkaaDoor.X Go.Proofs.YthbdaoapjnofkaaDoor.PFnCompletedCursor
set_option linter.unusedVariables false
set_option linter.unusedSimpArgs false
attribute [local go_sem ↓] Go.wp_at_zero Go.wp_at_succ
/-- Behind some words: the completers so far. -/
structure OutL (w0 w : World) (K : Nat) (T : Option Addr) (c : Nat) (F : List Tr) (L : List Value) : Prop where
  own : w.ownsRow w0.heap.size 127 1 (.slice T F.length c) F.length L
  row : ∀ (j : Nat) (t : Tr), F[j]? = some t → ∃ p, L[j]? = some (.iface 80 (PtS p)) ∧ TrIn (fun k => w0.heap.size ≤ k ∧ (Value.slice T F.length c).ownBlock ≠ some k) K w p t
  below : Below w0.heap.size w0 w
theorem OutL.start (w : World) (K : Nat) : OutL w w K none 0 [] [] := ⟨World.ownsRow_nil _ _ _ _, fun _ _ h => by simp at h, Below.refl _ _⟩
theorem OutL.stays {w0 w w1 : World} {K : Nat} {T : Option Addr} {c : Nat} {F : List Tr} {L : List Value} (h : OutL w0 w K T c F L) (hb : Below w.heap.size w w1) : OutL w0 w1 K T c F L :=
  ⟨own_move h.own (fun k hk => hb.block k (World.ownsRow.lt h.own k hk).2), fun j t hj => by
    obtain ⟨p, hp, ht⟩ := h.row j t hj
    exact ⟨p, hp, ht.below hb⟩, h.below.trans (hb.mono h.below.size)⟩
theorem OutL.push {w0 w w4 : World} {K B d p : Nat} {T T1 : Option Addr} {c c1 : Nat} {F : List Tr} {L : List Value} {t : Tr} (h : OutL w0 w K T c F L) (ht : TrIn (fun k => B ≤ k) d w p t) (hd : d ≤ K) (hB : w0.heap.size ≤ B) (hlt : ∀ k, (Value.slice T F.length c).ownBlock = some k → k < B)
    (ho : w4.ownsRow w0.heap.size 127 1 (.slice T1 (F.length + 1) c1) (F.length + 1) (L ++ [.iface 80 (PtS p)])) (hg : w.grownBy w4 (Value.slice T F.length c).ownBlock) (hat : (Value.slice T1 (F.length + 1) c1).ownBlock = (Value.slice T F.length c).ownBlock ∨ (Value.slice T1 (F.length + 1) c1).ownBlock = some w.heap.size) : OutL w0 w4 K T1 c1 (F ++ [t]) (L ++ [.iface 80 (PtS p)]) := by
  have hLl : L.length = F.length := by have := h.own.1; omega
  have hnew : ∀ k, k < w.heap.size → (Value.slice T F.length c).ownBlock ≠ some k → (Value.slice T1 (F ++ [t]).length c1).ownBlock ≠ some k := fun k hk hne e => by
    have e' : (Value.slice T1 (F.length + 1) c1).ownBlock = some k := by rw [← e]; simp
    rcases hat with h1 | h1
    · rw [h1] at e'; exact hne e'
    · rw [h1] at e'; injection e' with e'; omega
  have hmv : ∀ {q : Nat} {u : Tr}, TrIn (fun k => w0.heap.size ≤ k ∧ (Value.slice T F.length c).ownBlock ≠ some k) K w q u → TrIn (fun k => w0.heap.size ≤ k ∧ (Value.slice T1 (F ++ [t]).length c1).ownBlock ≠ some k) K w4 q u :=
    fun hu => hu.move fun k hk hS => ⟨hg.block k hk (fun e => hS.2 e.symm), hS.1, hnew k hk hS.2⟩
  refine ⟨by simpa using ho, fun j u hj => ?_, h.below.grown hg h.below.size (fun k hk => (World.ownsRow.lt h.own k hk).1)⟩
  rcases Nat.lt_or_ge j F.length with hjl | hge
  · rw [List.getElem?_append_left hjl] at hj
    obtain ⟨q, hq, hr⟩ := h.row j u hj
    exact ⟨q, by rw [List.getElem?_append_left (by omega)]; exact hq, hmv hr⟩
  · obtain rfl : j = F.length := by
      have : j < (F ++ [t]).length := (List.getElem?_eq_some_iff.1 hj).1
      simp at this; omega
    rw [List.getElem?_append_right (Nat.le_refl _), Nat.sub_self] at hj
    obtain rfl : t = u := by simpa using hj
    exact ⟨p, by rw [← hLl, List.getElem?_append_right (Nat.le_refl _), Nat.sub_self]; rfl, hmv ((ht.upto hd).move fun k hk hS => ⟨rfl, by have : B ≤ k := hS; omega, fun e => by have := hlt k e; have : B ≤ k := hS; omega⟩)⟩
theorem OutL.out {w0 w : World} {K : Nat} {T : Option Addr} {c : Nat} {F : List Tr} {L : List Value} (h : OutL w0 w K T c F L) : KidsIn (fun k => w0.heap.size ≤ k) K w T F ∧ F.length ≤ c := by
  obtain ⟨hl, h1 | ⟨g, cap, cur, e, hg, hh, hn, hm, hs, ht⟩⟩ := h.own
  · obtain ⟨e, h0⟩ := h1
    refine ⟨fun j t hj => ?_, by omega⟩
    have : j < F.length := (List.getElem?_eq_some_iff.1 hj).1
    omega
  · injection e with e1 e2 e3
    subst e1 e3
    refine ⟨fun j t hj => ?_, hn⟩
    have hjl : j < F.length := (List.getElem?_eq_some_iff.1 hj).1
    obtain ⟨p, hp, hr⟩ := h.row j t hj
    have hR : Rec w g cur.toList 127 := by unfold Rec; simpa using hh
    exact ⟨g, p, rfl, hg, hR.cell j (by rw [← hp, ← ht, List.getElem?_take_of_lt (by omega)]), hr.move fun k hk hS => ⟨rfl, hS.1⟩⟩
theorem info127 : (Tryd.prog.info? 127).map (fun i => (i.zero, i.size, i.bytes)) = some (some .nilIface, 1, 16) := by kernel_rfl
theorem mid_of (A : Option Addr) (c a b : Nat) (l : List S88) (h1 : a ≤ b) (h2 : b ≤ l.length) (hc : l.length ≤ c) : ∃ A', (∀ W : World, (Instr.slice 44 (.slice A l.length c) (some (.int .i64 (a : Int))) (some (.int .i64 (b : Int))) none).run Tryd.prog W = .ok (.slice A' (b - a) (c - a)) W) ∧ ∀ W : World, Kd.C k88 W A l.length l → Kd.C k88 W A' ((l.take b).drop a).length ((l.take b).drop a) :=
  ⟨_, mid_run A l.length c a b h1 h2 hc, fun W h => Kd.C_mid h h1 h2 hc⟩
def Its (K : Nat) : Prop := ∀ (A : Option Addr) (c : Nat) (l : List S88) (F : List Tr) (w : World), Kd.C k88 w A l.length l → l.length ≤ c → l.length ≤ 1000000 → (∀ x ∈ l, Asc x.f0 ∧ x.f0.size ≤ 100000) → parseF K l = some F →
    Calls Tryd.prog 58 #[.slice A l.length c] w fun e w' => ∃ T c', e = .returned (.tuple #[.slice T F.length c', .bool true]) ∧ F.length ≤ c' ∧ KidsIn (fun k => w.heap.size ≤ k) K w' T F ∧ Below w.heap.size w w'
set_option maxRecDepth 100000 in
set_option maxHeartbeats 16000000 in
theorem items_step (K : Nat) (IH0 : ∀ k, k < K → Its k) : Its K := by
  intro A c l F w hr hc hl ha hp
  have IH := Lib.hid IH0
  have hFl := parseF_len K l F hp
  have HR := Lib.hid (And.intro hr (And.intro hc ha))
  have HP := Lib.hid hp
  clear hr ha hp IH0
  go_enter Tryd.func58, Tryd.ntmps58
  go_wp2_with fail
  go_loopw [2, 4] (fun v2 v4 wr => ∃ (i kk : Nat) (F1 F2 : List Tr) (T : Option Addr) (c' : Nat) (L : List Value), i ≤ l.length ∧ v4 = .int .i64 i ∧ v2 = .slice T F1.length c' ∧ kk ≤ K ∧ parseF kk (l.drop i) = some F2 ∧ F = F1 ++ F2 ∧ OutL w wr K T c' F1 L) (fun _ v4 _ => l.length - (intOf v4).toNat)
  case atStart => exact ⟨0, K, [], F, none, 0, [], Nat.zero_le _, rfl, rfl, Nat.le_refl _, by simpa using HP.out, rfl, OutL.start w K⟩
  case round =>
    obtain ⟨i, kk, F1, F2, T, c', L, hi, rfl, rfl, hkk, hpk, hF, hO⟩ := hrel
    have HO := Lib.hid hO
    have HPK := Lib.hid hpk
    have HF := Lib.hid hF
    have hF1 : F1.length ≤ 1000000 := by have : F.length = F1.length + F2.length := by rw [hF, List.length_append]
                                         omega
    clear hO hpk hF
    by_cases hlt : i < l.length
    · obtain ⟨ad, hA, q0, q1⟩ := at_T88 (Kd.C_below HR.out.1 HO.out.below) (i : Int) (by omega) (by omega)
      subst hA
      have hget : rd_T88 l (i : Int) = l[i] := by unfold rd_T88; rw [Int.toNat_natCast, List.getD_eq_getElem?_getD, List.getElem?_eq_getElem hlt]; rfl
      rw [hget] at q0 q1
      have hD2 := List.drop_eq_getElem_cons hlt
      have hx := HR.out.2.2 l[i] (List.getElem_mem hlt)
      clear hget
      obtain ⟨x, hxx⟩ : ∃ x, x = l[i] := ⟨_, rfl⟩
      rw [← hxx] at q0 q1 hD2 hx
      clear hxx
      have hpk := HPK.out
      rw [hD2] at hpk
      cases kk with
      | zero => simp [parseF] at hpk
      | succ kk =>
        unfold parseF at hpk
        by_cases hcond : 1 ≤ x.f1 ∧ x.f1 ≤ ((l.drop (i + 1)).length : Int) + 1
        case neg => rw [if_neg hcond] at hpk; cases hpk
        rw [if_pos hcond] at hpk
        obtain ⟨ks, hks, hpk⟩ := Option.bind_eq_some_iff.mp hpk
        obtain ⟨more, hmore, hpk⟩ := Option.bind_eq_some_iff.mp hpk
        obtain ⟨hc0, hc1⟩ := hcond
        have hdl : (l.drop (i + 1)).length = l.length - (i + 1) := List.length_drop
        obtain ⟨nS, nI⟩ := x
        obtain ⟨n, rfl⟩ := Int.eq_ofNat_of_zero_le (show 0 ≤ nI by have : (1 : Int) ≤ nI := hc0; omega)
        have hn0 : 1 ≤ n := by have : (1 : Int) ≤ (n : Int) := hc0; omega
        have hn1 : n ≤ l.length - i := by have : (n : Int) ≤ ((l.drop (i + 1)).length : Int) + 1 := hc1; omega
        have HKS := Lib.hid (show parseF kk ((l.take (i + n)).drop (i + 1)) = some ks by
          rw [List.drop_take, show i + n - (i + 1) = n - 1 by omega]
          simpa using hks)
        have HMO := Lib.hid (show parseF kk (l.drop (i + n)) = some more by
          have := hmore
          simp only [Int.toNat_natCast] at this
          rw [List.drop_drop, show i + 1 + (n - 1) = i + n by omega] at this
          exact this)
        have HF2 := Lib.hid (Option.some.inj hpk)
        clear hks hmore hpk hD2 hc0 hc1
        obtain ⟨A6, hsl, hC6⟩ := mid_of (some ad) c (i + 1) (i + n) l (by omega) (by omega) HR.out.2.1
        have HC6 := Lib.hid (hC6 wr (Kd.C_below HR.out.1 HO.out.below))
        have hl6 : ((l.take (i + n)).drop (i + 1)).length = i + n - (i + 1) := by rw [List.length_drop, List.length_take]; omega
        clear hC6
        rw [show ((i + 1 : Nat) : Int) = (i : Int) + 1 by omega, show ((i + n : Nat) : Int) = (i : Int) + (n : Int) by omega] at hsl
        have w1_ : IntKind.i64.wrap ((i : Int) + 1) = (i : Int) + 1 := IntWalk.i64_in _ (by omega)
        have w2_ : IntKind.i64.wrap ((i : Int) + (n : Int)) = (i : Int) + (n : Int) := IntWalk.i64_in _ (by omega)
        have w3_ : IntKind.i64.wrap ((l.length : Int) - (i : Int)) = (l.length : Int) - (i : Int) := IntWalk.i64_in _ (by omega)
        have d1_ : decide ((n : Int) < 1) = false := decide_eq_false (by omega)
        have d2_ : decide ((l.length : Int) - (i : Int) < (n : Int)) = false := decide_eq_false (by omega)
        have HX := Lib.hid hx
        clear hx
        have y0 : wr.cell? (ad.add (i * 2)) = some (.string nS) := by simpa using q0
        have y1 : wr.cell? ⟨(ad.add (i * 2)).block, (ad.add (i * 2)).off + 1, none⟩ = some (.int .i64 n) := by simpa using q1
        clear q0 q1
        go_wp2_with fail
        have hcall := IH.out kk (by omega) A6 (c - (i + 1)) ((l.take (i + n)).drop (i + 1)) ks wr HC6.out (by have := HR.out.2.1; omega) (by omega) (fun y hy => HR.out.2.2 y (List.mem_of_mem_take (List.mem_of_mem_drop hy))) HKS.out
        rw [hl6] at hcall
        refine hcall.mono ?_
        clear hcall
        rintro e w6 ⟨T6, c6, rfl, hk6, hki6, hb6⟩
        have HO6 := Lib.hid (HO.out.stays hb6)
        have HK6 := Lib.hid hki6
        have hz6 := hb6.size
        have y0' : w6.cell? (ad.add (i * 2)) = some (.string nS) := (hb6.cell (p := ad.add (i * 2)) (by have := cell_lt y0; exact this)).trans y0
        have hksl := parseF_len kk _ _ HKS.out
        clear hki6 hb6 y0 y1 hsl
        go_wp2_with fail
        refine (PcItem_tree (fun k => wr.heap.size ≤ k) kk nS T6 c6 ks w6 HX.out.1 HX.out.2 HK6.out hk6 (by omega) (fun k hk => by omega)).mono ?_
        rintro e w7 ⟨m7, rfl, htr7, hb7⟩
        have HO7 := Lib.hid (HO6.out.stays hb7)
        have HT7 := Lib.hid htr7
        clear htr7 hb7
        have hbA : Below w7.heap.size w7 (w7.alloc (.cells #[.iface 80 (PtS m7)] 127)) := (Below.refl _ _).alloc (Nat.le_refl _) _
        have HOW := Lib.hid (HO7.out.stays hbA)
        have HTW := Lib.hid (HT7.out.below hbA)
        have HROW := Lib.hid (row_at (w := w7) (H := w7.heap.size) rfl (.iface 80 (PtS m7)) 127)
        clear hbA
        obtain ⟨i0, hi_, hz0_, hz1_, hz2_⟩ := infoR0_parts info127
        have HI := Lib.hid (And.intro hi_ (And.intro hz0_ (And.intro hz1_ hz2_)))
        clear hi_ hz0_ hz1_ hz2_
        go_wp2_with (at_builtin; go_loud (refine wpList_append_any _ rfl (.tmp 40) (.tmp 49) _ rfl w.heap.size 127 i0 .nilIface 1 16 Tryd.underlying79 HI.out.1 HI.out.2.1 HI.out.2.2.1 HI.out.2.2.2 rfl (by omega) (.slice T F1.length c') F1.length L rfl HOW.out.own ⟨w7.heap.size, 0, none⟩ 1 1 [.iface 80 (PtS m7)] (by simp [go_sem]) (by simp) HROW.out (by intro z hz; rw [List.mem_singleton] at hz; subst hz; rfl) (by unfold maxLen; omega) (by omega) HOW.out.below.size ?_; intro v4 w4 ho4 hg4 hat4; obtain ⟨T4, c4, rfl⟩ := slice_of ho4; have HX4 := Lib.hid (And.intro ho4 (And.intro hg4 hat4)); clear ho4 hg4 hat4))
        have HO4 := Lib.hid (HOW.out.push HTW.out (by omega) HO.out.below.size (fun k hk => (World.ownsRow.lt HO.out.own k hk).2) HX4.out.1 HX4.out.2.1 HX4.out.2.2)
        go_wp2_with fail
        go_roundw
        case rel =>
          refine ⟨i + n, kk, F1 ++ [.node false [nmOf nS] ks], more, T4, c4, L ++ [.iface 80 (PtS m7)], by omega, by go_num, by simp, by omega, HMO.out, ?_, HO4.out⟩
          rw [HF.out, ← HF2.out]
          simp
        case measure => simp only [intOf]; omega
    · obtain rfl : i = l.length := by omega
      have hpk := HPK.out
      rw [List.drop_length] at hpk
      have hF2 : F2 = [] := by
        cases kk with
        | zero => simp [parseF] at hpk
        | succ kk => simp [parseF] at hpk; exact hpk
      subst hF2
      have hF' := HF.out
      rw [List.append_nil] at hF'
      subst hF'
      clear hpk
      go_wp2_with fail
      refine bodyPost_ret (results_tmp2 rfl _ _ _) rfl ?_
      obtain ⟨hki, hle⟩ := HO.out.out
      exact ⟨T, c', rfl, hle, hki, HO.out.below⟩
theorem items_calls (K : Nat) : Its K := by
  suffices h : ∀ n k, k < n → Its k from h (K + 1) K (by omega)
  intro n
  induction n with
  | zero => intro k hk; omega
  | succ n ih => exact fun k hk => items_step k (fun j hj => ih j (by omega))
end Go.Proofs.YthbdaoapjnofkaaDoor.H
