/- What a completer of words tells (impl.Completed): its contract; for at most 1000000 ASCII words of at most 100000 bytes each, ASCII lines of at most 1000000 bytes, places in the line. -/
import Derived.Test.YthbdaoapjnofkaaDoorQHCmF
namespace Go.Proofs.YthbdaoapjnofkaaDoor.H
open Go.RowKit Go.Proofs.YthbdaoapjnofkaaDoorW.PrintWords Go.Proofs.YthbdaoapjnofkaaDoorW.PrintLast Go.Proofs.YthbdaoapjnofkaaDoor.R Go.Proofs.YthbdaoapjnofkaaDoor.X Go.Proofs.YthbdaoapjnofkaaDoor.PFnCompletedCursor
set_option linter.unusedVariables false
set_option linter.unusedSimpArgs false
attribute [local go_sem ↓] Go.wp_at_zero Go.wp_at_succ
theorem infoS : (Tryd.prog.info? 9).map (fun i => (i.zero, i.size, i.bytes)) = some (some (.string ⟨#[]⟩), 1, 16) := by kernel_rfl
theorem own_base {w : World} {N N' n : Nat} {e : TypeId} {v : Value} {xs : List Value} (h : w.ownsRow N e 1 v n xs) (hN : N' ≤ N) : w.ownsRow N' e 1 v n xs := by
  obtain ⟨hl, h1 | ⟨g, cap, cur, e, hg, hh, hn, hm, hs, ht⟩⟩ := h
  · exact ⟨hl, .inl h1⟩
  · exact ⟨hl, .inr ⟨g, cap, cur, e, Nat.le_trans hN hg, hh, hn, hm, hs, ht⟩⟩
def Sm : Nat → Tr → Prop
  | 0, _ => True
  | d + 1, t => (t.kids.map (fun k => k.names.length)).sum ≤ 1000000 ∧ ∀ k ∈ t.kids, Sm d k
theorem one_len (line : List Int) (c : Tr) (s : Cs) (nm : List Int) : (oneName line c s nm).nl.length ≤ s.nl.length + 1 := by
  unfold oneName
  repeat' split
  all_goals first | (simp; done) | omega
theorem kid_len (line : List Int) (c : Tr) : ∀ (l : List (List Int)) (s : Cs), (l.foldl (oneName line c) s).nl.length ≤ s.nl.length + l.length
  | [], s => Nat.le_refl _
  | nm :: l, s => by
    rw [List.foldl_cons]
    have h1 := kid_len line c l (oneName line c s nm)
    have h2 := one_len line c s nm
    simp only [List.length_cons]
    omega
theorem fold_len (line : List Int) : ∀ (l : List Tr) (s : Cs), (l.foldl (oneKid line) s).nl.length ≤ s.nl.length + (l.map (fun k => k.names.length)).sum
  | [], s => Nat.le_refl _
  | c :: l, s => by
    rw [List.foldl_cons]
    have h1 := fold_len line l (oneKid line s c)
    have h2 : (oneKid line s c).nl.length ≤ s.nl.length + c.names.length := kid_len line c c.names s
    simp only [List.map_cons, List.sum_cons]
    omega
theorem comp_lim : ∀ (d : Nat) (t : Tr) (q : List Int), Sm d t → (comp d t q).1.length ≤ 1000000
  | 0, t, q, _ => by simp [comp]
  | d + 1, t, q, h => by
    show (compL d t (q.dropWhile isSp)).1.length ≤ 1000000
    obtain ⟨s, hs⟩ : ∃ s, s = t.kids.foldl (oneKid (q.dropWhile isSp)) ⟨[], 0, none, false⟩ := ⟨_, rfl⟩
    have hok : Csok (q.dropWhile isSp) t.kids s := hs ▸ Csok.kids t.kids (fun _ h => h) (Csok.start _ t.kids)
    have hlen : s.nl.length ≤ 1000000 := by
      have := fold_len (q.dropWhile isSp) t.kids ⟨[], 0, none, false⟩
      rw [← hs] at this
      have h1 := h.1
      simp only [List.length_nil] at this
      omega
    by_cases h1 : s.nl.length = 1
    · obtain ⟨c, hc⟩ := hok.one (by omega)
      have hmem := hok.cur c hc
      cases hd : ((q.dropWhile isSp).drop s.off).dropWhile isBl with
      | cons x r => rw [compL_go hs h1 hc hd]; exact comp_lim d c _ (h.2 c hmem)
      | nil =>
        rw [compL_end hs h1 hc hd]
        split
        · exact comp_lim d c _ (h.2 c hmem)
        · exact hlen
    · rw [compL_many hs h1]; exact hlen
theorem sum_one : ∀ (l : List Tr), (∀ k ∈ l, k.names.length = 1) → (l.map (fun k => k.names.length)).sum = l.length
  | [], _ => rfl
  | c :: l, h => by
    simp only [List.map_cons, List.sum_cons, List.length_cons]
    rw [sum_one l (fun k hk => h k (by simp [hk])), h c (by simp)]
    omega
theorem TrIn.one {S : Nat → Prop} {d : Nat} {w : World} {m : Nat} {t : Tr} (h : TrIn S d w m t) : t.names.length = 1 := by
  cases d with
  | zero => exact h.elim
  | succ d =>
    obtain ⟨hS, b, nc, cb, kA, kc, nm, hb, h0, h1, h2, h3, h4, h5, _⟩ := h
    rw [h5]; rfl
theorem TrIn.sm {S : Nat → Prop} : ∀ {d : Nat} {w : World} {m : Nat} {t : Tr}, TrIn S d w m t → Sm d t
  | 0, _, _, _, _ => trivial
  | d + 1, w, m, t, h => by
    obtain ⟨hS, b, nc, cb, kA, kc, nm, hb, h0, h1, h2, h3, h4, h5, h6, h7, h8, hpos, h9⟩ := h
    refine ⟨?_, fun k hk => ?_⟩
    · rw [sum_one _ (fun k hk => ?_)]
      · exact h3
      · obtain ⟨j, hj⟩ := List.getElem?_of_mem hk
        obtain ⟨g, p, e, hg, hc, ht⟩ := h9 j k hj
        exact ht.one
    · obtain ⟨j, hj⟩ := List.getElem?_of_mem hk
      obtain ⟨g, p, e, hg, hc, ht⟩ := h9 j k hj
      exact ht.sm
theorem KidsIn.sm {S : Nat → Prop} {D : Nat} {w : World} {kA : Option Addr} {kids : List Tr} (h : KidsIn S D w kA kids) (hl : kids.length ≤ 1000000) (dyn : Bool) (nms : List (List Int)) : Sm (D + 1) (.node dyn nms kids) := by
  refine ⟨?_, fun k hk => ?_⟩
  · show (kids.map (fun k => k.names.length)).sum ≤ 1000000
    rw [sum_one _ (fun k hk => ?_)]
    · exact hl
    · obtain ⟨j, hj⟩ := List.getElem?_of_mem hk
      obtain ⟨g, p, e, _, hc, ht⟩ := h j k hj
      exact ht.one
  · obtain ⟨j, hj⟩ := List.getElem?_of_mem hk
    obtain ⟨g, p, e, _, hc, ht⟩ := h j k hj
    exact ht.sm
/-- What impl.Completed tells. -/
def compT (D : Nat) (F : List Tr) (q : List Int) : List (List Int) × Nat := comp (D + 1) (.node false [[32]] F) q
set_option maxRecDepth 100000 in
set_option maxHeartbeats 16000000 in
theorem Completed_calls (K : Nat) (A : Option Addr) (c n : Nat) (l : List S88) (F : List Tr) (s : ByteArray) (w : World) (hr : Kd.C k88 w A l.length l) (hc : l.length ≤ c) (hl : l.length ≤ 1000000) (ha : ∀ x ∈ l, Asc x.f0 ∧ x.f0.size ≤ 100000) (hp : parseF K l = some F) (hs : Asc s) (hsz : s.size ≤ 1000000) (hn : n ≤ s.size) :
    Calls Tryd.prog 31 #[.slice A l.length c, .string s, .int .i64 n] w fun e w' => ∃ T c', e = .returned (.tuple #[.slice T (compT K F ((ints s).take n)).1.length c', .int .i64 (compT K F ((ints s).take n)).2, .bool true]) ∧ w'.ownsRow w.heap.size 9 1 (.slice T (compT K F ((ints s).take n)).1.length c') (compT K F ((ints s).take n)).1.length (((compT K F ((ints s).take n)).1.map runesBytes).map Value.string) ∧ Below w.heap.size w w' := by
  have HIT := Lib.hid (fun W (hW : Below w.heap.size w W) => items_calls K A c l F W (Kd.C_below hr hW) hc hl ha hp)
  have hFl := parseF_len K l F hp
  obtain ⟨r, hrr⟩ : ∃ r, r = compT K F ((ints s).take n) := ⟨_, rfl⟩
  have HRR := Lib.hid hrr
  rw [← hrr]
  have HSS := Lib.hid hs
  clear hr ha hp hrr hs
  have hbA : Below w.heap.size w (((w.alloc (.cells #[.string s] 9)).alloc (.cells #[.int .i64 n] 3)).alloc (.cells #[.int .i64 0] 3)) := (((Below.refl _ _).alloc (Nat.le_refl _) _).alloc (by simp) _).alloc (by simp; omega) _
  have o1 : One (((w.alloc (.cells #[.string s] 9)).alloc (.cells #[.int .i64 n] 3)).alloc (.cells #[.int .i64 0] 3)) w.heap.size (.string s) 9 := ((One.new w (.string s) 9).alloc _).alloc _
  have o2 : One (((w.alloc (.cells #[.string s] 9)).alloc (.cells #[.int .i64 n] 3)).alloc (.cells #[.int .i64 0] 3)) (w.heap.size + 1) (.int .i64 n) 3 := (One.at_ (b := w.heap.size + 1) (w.alloc (.cells #[.string s] 9)) (.int .i64 n) 3 (by simp)).alloc _
  have o4 : One (((w.alloc (.cells #[.string s] 9)).alloc (.cells #[.int .i64 n] 3)).alloc (.cells #[.int .i64 0] 3)) (w.heap.size + 2) (.int .i64 0) 3 := One.at_ (b := w.heap.size + 2) ((w.alloc (.cells #[.string s] 9)).alloc (.cells #[.int .i64 n] 3)) (.int .i64 0) 3 (by simp)
  have hzA : (((w.alloc (.cells #[.string s] 9)).alloc (.cells #[.int .i64 n] 3)).alloc (.cells #[.int .i64 0] 3)).heap.size = w.heap.size + 3 := by simp
  have HA := Lib.hid (And.intro hbA (And.intro o1 (And.intro o2 o4)))
  clear hbA o1 o2 o4
  go_enter Tryd.func31, Tryd.ntmps31
  go_wp2_with fail
  refine (HIT.out _ HA.out.1).mono ?_
  rintro e w1 ⟨T, cF, rfl, hkc, hki, hb1⟩
  have hz1 := hb1.size
  have hlim : r.1.length ≤ 1000000 := by rw [HRR.out]; exact comp_lim (K + 1) _ _ (hki.sm (by omega) false [[32]])
  have HB1 := Lib.hid (below_step HA.out.1 hb1)
  have HO := Lib.hid (And.intro (HA.out.2.1.stays hb1) (And.intro (HA.out.2.2.1.stays hb1) (And.intro (HA.out.2.2.2.stays hb1) hki)))
  clear hki hb1
  go_wp2_with fail
  have hb2 : Below w1.heap.size w1 (((w1.alloc (.cells #[.slice T F.length cF] 79)).alloc (.cells #[.slice none 0 0] 59)).alloc (.cells #[.bool false] 4)) := (((Below.refl _ _).alloc (Nat.le_refl _) _).alloc (by simp) _).alloc (by simp; omega) _
  have hz2 : ((w1.alloc (.cells #[.slice T F.length cF] 79)).alloc (.cells #[.slice none 0 0] 59)).heap.size = w1.heap.size + 2 := by simp
  have p0 : One (((w1.alloc (.cells #[.slice T F.length cF] 79)).alloc (.cells #[.slice none 0 0] 59)).alloc (.cells #[.bool false] 4)) w1.heap.size (.slice T F.length cF) 79 := ((One.new w1 (.slice T F.length cF) 79).alloc _).alloc _
  have p3 : One (((w1.alloc (.cells #[.slice T F.length cF] 79)).alloc (.cells #[.slice none 0 0] 59)).alloc (.cells #[.bool false] 4)) (w1.heap.size + 1) (.slice none 0 0) 59 := (One.at_ (b := w1.heap.size + 1) (w1.alloc (.cells #[.slice T F.length cF] 79)) (.slice none 0 0) 59 (by simp)).alloc _
  have p5 : One (((w1.alloc (.cells #[.slice T F.length cF] 79)).alloc (.cells #[.slice none 0 0] 59)).alloc (.cells #[.bool false] 4)) (w1.heap.size + 2) (.bool false) 4 := One.at_ (b := w1.heap.size + 2) ((w1.alloc (.cells #[.slice T F.length cF] 79)).alloc (.cells #[.slice none 0 0] 59)) (.bool false) 4 hz2.symm
  have hz3 : (((w1.alloc (.cells #[.slice T F.length cF] 79)).alloc (.cells #[.slice none 0 0] 59)).alloc (.cells #[.bool false] 4)).heap.size = w1.heap.size + 3 := by simp
  have HCL := Lib.hid (closure59_calls K w1.heap.size w.heap.size (w.heap.size + 1) (w1.heap.size + 1) (w.heap.size + 2) T cF n F s _ p0 (HO.out.1.stays hb2) (HO.out.2.1.stays hb2) p3 (HO.out.2.2.1.stays hb2) (by omega) (by omega) (by omega) (by omega) (by omega) (by omega) (by omega) (HO.out.2.2.2.move fun k hk _ => ⟨hb2.block k hk, trivial⟩) hkc (by omega) HSS.out hsz hn)
  have HB2 := Lib.hid (below_step HB1.out hb2)
  have HP5 := Lib.hid p5
  clear p0 p3 p5 hb2
  refine (caught_calls 59 _ _ (fun w' => ∃ T5 c5, r.1.length ≤ c5 ∧ One w' (w1.heap.size + 1) (.slice T5 r.1.length c5) 59 ∧ One w' (w.heap.size + 2) (.int .i64 r.2) 3 ∧ RW w' T5 r.1 ∧ Below w.heap.size w w') enter59 ?_).mono ?_
  · refine HCL.out.mono ?_
    rintro e w5 ⟨rfl, T5, c5, h1, h2, h3, h4, h5, h6, h7⟩
    have er : comp (K + 1) (.node false [[32]] F) ((ints s).take n) = r := HRR.out.symm
    rw [er] at h1 h2 h3 h4
    rw [hz2]
    exact ⟨rfl, (h6 (w1.heap.size + 2) (by omega) (by omega) (by omega)).trans HP5.out, T5, c5, h1, h2, h3, h4, HB2.out.trans (h7 w.heap.size (by omega) (by omega) (by omega))⟩
  rintro e w6 ⟨rfl, w5, ⟨T5, c5, h1, h2, h3, h4, h5⟩, h6, rfl⟩
  rw [hz2] at h6 ⊢
  have HW6 := Lib.hid (And.intro h1 (And.intro (h2.other (a := ⟨w1.heap.size + 2, 0, none⟩) (by show w1.heap.size + 1 ≠ w1.heap.size + 2; omega) (.bool true)) (And.intro (h3.other (a := ⟨w1.heap.size + 2, 0, none⟩) (by show w.heap.size + 2 ≠ w1.heap.size + 2; omega) (.bool true)) (And.intro (h4.set (v := .bool true) h6 (by decide)) (below_put h5 (by omega : w.heap.size ≤ w1.heap.size + 2) 0 (.bool true))))))
  clear h1 h2 h3 h4 h5 h6
  obtain ⟨wC, hwC⟩ : ∃ wC, wC = w5.setCell ⟨w1.heap.size + 2, 0, none⟩ (.bool true) := ⟨_, rfl⟩
  rw [← hwC] at HW6 ⊢
  clear hwC
  have cg := HW6.out.2.1.cell
  obtain ⟨i0, hi_, hz0_, hz1_, hz2_⟩ := infoR0_parts infoS
  have HI := Lib.hid (And.intro hi_ (And.intro hz0_ (And.intro hz1_ hz2_)))
  clear hi_ hz0_ hz1_ hz2_
  go_wp2_with fail
  go_loopw [6, 27] (fun v6 v27 wq => ∃ (i : Nat) (T2 : Option Addr) (c2 : Nat), i ≤ r.1.length ∧ v27 = .int .i64 i ∧ v6 = .slice T2 i c2 ∧ wq.ownsRow wC.heap.size 9 1 (.slice T2 i c2) i (((r.1.take i).map runesBytes).map Value.string) ∧ Below wC.heap.size wC wq) (fun _ v27 _ => r.1.length - (intOf v27).toNat)
  case atStart => exact ⟨0, none, 0, Nat.zero_le _, rfl, rfl, by simpa using World.ownsRow_nil _ _ _ _, Below.refl _ _⟩
  case round =>
    obtain ⟨i, T2, c2, hi, rfl, rfl, ho, hbq⟩ := hrel
    have HO2 := Lib.hid (And.intro ho hbq)
    clear ho hbq
    by_cases hlt : i < r.1.length
    · obtain ⟨g, v, cs, fz, hT5, hgh, hgc, hgv⟩ := HW6.out.2.2.2.1 i r.1[i] (List.getElem?_eq_getElem hlt)
      subst hT5
      have x0 : wr.cell? ⟨g, i, none⟩ = some v := (HO2.out.2.cell (p := ⟨g, i, none⟩) (lt_of_block hgh)).trans hgc
      have HTK := Lib.hid (List.take_succ_eq_append_getElem hlt)
      obtain ⟨Av, cv, rfl, hcv, hCv, _⟩ := hgv.below HO2.out.2
      have hconv := runes_C wr Av cv _ hCv
      obtain ⟨u, hu⟩ : ∃ u, u = r.1[i] := ⟨_, rfl⟩
      rw [← hu] at x0 hconv HTK
      have hlu : r.1[i].length = u.length := by rw [hu]
      obtain ⟨S, hS⟩ : ∃ S, S = runesBytes u := ⟨_, rfl⟩
      rw [← hS] at hconv
      have HSU := Lib.hid hS
      clear hu hcv hCv hgh hgc hgv hS hlu
      have hbA2 : Below wr.heap.size wr (wr.alloc (.cells #[.string S] 9)) := (Below.refl _ _).alloc (Nat.le_refl _) _
      have HOW := Lib.hid (And.intro (own_move HO2.out.1 (fun k hk => hbA2.block k (World.ownsRow.lt HO2.out.1 k hk).2)) (HO2.out.2.trans (hbA2.mono HO2.out.2.size)))
      have HROW := Lib.hid (row_at (w := wr) (H := wr.heap.size) rfl (.string S) 9)
      clear hbA2
      go_wp2_with (at_builtin; go_loud (refine wpList_append_any _ rfl (.tmp 31) (.tmp 34) _ rfl wC.heap.size 9 i0 (.string ⟨#[]⟩) 1 16 Tryd.underlying22 HI.out.1 HI.out.2.1 HI.out.2.2.1 HI.out.2.2.2 rfl (by omega) (.slice T2 i c2) i _ rfl HOW.out.1 ⟨wr.heap.size, 0, none⟩ 1 1 [.string S] (by simp [go_sem]) (by simp) HROW.out (by intro z hz; rw [List.mem_singleton] at hz; subst hz; rfl) (by unfold maxLen; omega) (by omega) HOW.out.2.size ?_; intro v4 w4 ho4 hg4 hat4; obtain ⟨T4, c4, rfl⟩ := slice_of ho4; have HX4 := Lib.hid (And.intro ho4 hg4); clear ho4 hg4 hat4))
      go_wp2_with fail
      go_roundw
      case rel =>
        refine ⟨i + 1, T4, c4, by omega, by go_num, by first | rfl | trivial, ?_, HOW.out.2.grown HX4.out.2 HOW.out.2.size (fun k hk => (World.ownsRow.lt HOW.out.1 k hk).1)⟩
        have h := HX4.out.1
        rw [HTK.out, List.map_append, List.map_append, List.map_cons, List.map_nil, List.map_cons, List.map_nil, ← HSU.out]
        exact h
      case measure => simp only [intOf]; omega
    · obtain rfl : i = r.1.length := by omega
      go_wp2_with fail
      have q4 := HW6.out.2.2.1.below HO2.out.2 (lt_of_block HW6.out.2.2.1)
      have c7 := q4.cell
      have f7 := q4.free
      have HQ4 := Lib.hid q4
      clear q4
      refine wp_region_noPanic ?_
      refine wp_region_held_drew (S := fun w' => w'.cell? ⟨w.heap.size + 2, 0, none⟩ = some (.int .i64 r.2)) (by kernel_rfl) c7 (fun hHeld => ?_)
      refine wpAnyH_take (i := 0) (v := ?v0) (by simp only [List.getElem?_toArray, List.getElem?_cons_succ, List.getElem?_cons_zero]; rfl) (by kernel_rfl) (by kernel_rfl) (by kernel_rfl) (fun _ _ _ h => h) (Or.inl ⟨by rfl, ?h0⟩) (by assumption) ?_
      case h0 => (intro w hSw; go_simp; try with_reducible rfl)
      try simp only [Act.put, List.setIfInBounds_toArray, List.set_cons_zero, List.set_cons_succ]
      refine wpAnyH_take (i := 1) (v := ?v1) (by simp only [List.getElem?_toArray, List.getElem?_cons_succ, List.getElem?_cons_zero]; rfl) (by kernel_rfl) (by kernel_rfl) (by kernel_rfl) (fun _ _ _ h => h) (Or.inl ⟨by rfl, ?h1⟩) (by assumption) ?_
      case h1 => (intro w hSw; go_simp; try with_reducible rfl)
      try simp only [Act.put, List.setIfInBounds_toArray, List.set_cons_zero, List.set_cons_succ]
      refine wpAnyH_take (i := 2) (v := ?v2) (by simp only [List.getElem?_toArray, List.getElem?_cons_succ, List.getElem?_cons_zero]; rfl) (by kernel_rfl) (by kernel_rfl) (by kernel_rfl) (fun _ _ _ h => h) (Or.inl ⟨by rfl, ?h2⟩) (by assumption) ?_
      case h2 => (intro w hSw; go_simp; try with_reducible rfl)
      try simp only [Act.put, List.setIfInBounds_toArray, List.set_cons_zero, List.set_cons_succ]
      refine wpAnyH_ready (rs := [3]) (by kernel_rfl) (by simp) ?_
      refine AllReadyH.cons (o := _) rfl (fun K hK => ?_) AllReadyH.nil
      go_simp
      have q7 := (One.set HQ4.out (.int .i64 r.2)).cell
      refine hK.out _ _ q7 (fun hHeld2 => ?_)
      clear hK K hHeld
      try simp only [Act.put, List.setIfInBounds_toArray, List.set_cons_zero, List.set_cons_succ]
      refine wpAnyH_take (i := 4) (v := ?v4) (by simp only [List.getElem?_toArray, List.getElem?_cons_succ, List.getElem?_cons_zero]; rfl) (by kernel_rfl) (by kernel_rfl) (by kernel_rfl) (fun _ _ _ h => h) (Or.inl ⟨by rfl, ?h4⟩) (by assumption) ?_
      case h4 => (intro w hSw; go_simp; try with_reducible rfl)
      try simp only [Act.put, List.setIfInBounds_toArray, List.set_cons_zero, List.set_cons_succ]
      refine wpAnyH_done (by kernel_rfl) ?_ _
      refine NoPanic.normal ?_
      go_wp2
      refine bodyPost_ret (v := .tuple #[.slice T2 r.1.length c2, .int .i64 r.2, .bool true]) (by simp [results, Tryd.results31, go_sem, q7]) rfl ?_
      have ho := HO2.out.1
      rw [List.take_length] at ho
      have hbase := HW6.out.2.2.2.2.size
      refine ⟨T2, c2, rfl, own_base (own_move ho (fun k hk => ?_)) hbase, (below_put (b := w.heap.size + 2) (HW6.out.2.2.2.2.trans (HO2.out.2.mono hbase)) (by omega) 0 (.int .i64 r.2)).drew⟩
      refine Below.heap_setCell wr ⟨w.heap.size + 2, 0, none⟩ (.int .i64 r.2) k ?_
      have h1 := (World.ownsRow.lt ho k hk).1
      have h2 := lt_of_block HW6.out.2.2.1
      show k ≠ w.heap.size + 2
      omega
/-- For ASCII words of at most 100000 bytes, ASCII lines of at most 1000000 bytes, places in the line. -/
def impl_Completed.f (l : List S88) (s : ByteArray) (at_ : Int) : Option (List ByteArray × Int × Bool) :=
  if 0 ≤ at_ ∧ at_ ≤ s.size ∧ s.size ≤ 1000000 ∧ (∀ b ∈ s.data.toList, b.toNat < 128) ∧ l.length ≤ 1000000 ∧ (∀ x ∈ l, (∀ b ∈ x.f0.data.toList, b.toNat < 128) ∧ x.f0.size ≤ 100000) then
    (parseF (l.length + 1) l).bind fun F => some ((compT (l.length + 1) F ((ints s).take at_.toNat)).1.map runesBytes, ((compT (l.length + 1) F ((ints s).take at_.toNat)).2 : Int), true)
  else none
theorem impl_Completed.calls (A : Option Addr) (c : Nat) (l : List S88) (s : ByteArray) (at_ : Int) (r1 : List ByteArray) (r2 : Int) (r3 : Bool) (w : World) (hr : Kd.C k88 w A l.length l) (hc : l.length ≤ c) (h : impl_Completed.f l s at_ = some (r1, r2, r3)) :
    Calls Tryd.prog 31 #[.slice A l.length c, .string s, .int .i64 at_] w fun e w' => ∃ v, e = .returned (.tuple #[v, .int .i64 r2, .bool r3]) ∧ Kd.R Kd.string 9 w' w.heap.size (fun _ => True) v r1 ∧ Below w.heap.size w w' := by
  unfold impl_Completed.f at h
  by_cases hg : 0 ≤ at_ ∧ at_ ≤ s.size ∧ s.size ≤ 1000000 ∧ (∀ b ∈ s.data.toList, b.toNat < 128) ∧ l.length ≤ 1000000 ∧ (∀ x ∈ l, (∀ b ∈ x.f0.data.toList, b.toNat < 128) ∧ x.f0.size ≤ 100000)
  · rw [if_pos hg] at h
    obtain ⟨g0, g1, g2, g3, g4, g5⟩ := hg
    obtain ⟨F, hF, h⟩ := Option.bind_eq_some_iff.mp h
    have h := Option.some.inj h
    simp only [Prod.mk.injEq] at h
    obtain ⟨rfl, rfl, rfl⟩ := h
    obtain ⟨n, rfl⟩ := Int.eq_ofNat_of_zero_le g0
    rw [Int.toNat_natCast]
    refine (Completed_calls (l.length + 1) A c n l F s w hr hc g4 g5 hF g3 g2 (by omega)).mono ?_
    rintro e w' ⟨T, c', rfl, ho, hb⟩
    refine ⟨_, rfl, Kd.R_of_own (enc := Value.string) (h1 := fun _ => rfl) ?_ (fun _ _ => trivial), hb⟩
    rw [List.length_map]
    exact ho
  · rw [if_neg hg] at h; cases h
end Go.Proofs.YthbdaoapjnofkaaDoor.H
