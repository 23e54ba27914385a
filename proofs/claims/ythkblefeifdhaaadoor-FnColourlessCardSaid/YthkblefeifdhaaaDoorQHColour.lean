/- A text without colours (readline.Runes.ColorFilter): what it makes, and where it panics; for texts of at most 1000000 code points. -/
import Derived.Test.YthkblefeifdhaaaDoorQHCaught
import Derived.Test.YthkblefeifdhaaaDoorQHRec
import Derived.Test.YthkblefeifdhaaaDoorQXPure
import Derived.Test.YthkblefeifdhaaaDoorQPIndexx1
import Derived.Laws.OwnMore
import Derived.Deep.AppendLies
import Derived.Maps.AppendAt
import Derived.IntWalk
namespace Go.Proofs.YthkblefeifdhaaaDoor.H
open Go.RowKit Go.Proofs.YthkblefeifdhaaaDoorW.PrintWords Go.Proofs.YthkblefeifdhaaaDoorW.PrintLast Go.Proofs.YthkblefeifdhaaaDoor.R Go.Proofs.YthkblefeifdhaaaDoor.X
set_option linter.unusedVariables false
set_option linter.unusedSimpArgs false
attribute [local go_sem ↓] Go.wp_at_zero Go.wp_at_succ
/-- The first place of a code point; -1 without one. -/
def idxL (x : Int) : List Int → Option Nat
  | [] => none
  | y :: l => if y = x then some 0 else (idxL x l).map (· + 1)
theorem idxL_lt {x : Int} : ∀ {l : List Int} {k : Nat}, idxL x l = some k → k < l.length
  | [], k, h => by simp [idxL] at h
  | y :: l, k, h => by
    unfold idxL at h
    split at h
    · obtain rfl := Option.some.inj h; simp
    · obtain ⟨j, hj, rfl⟩ := Option.map_eq_some_iff.1 h
      have := idxL_lt hj
      simp; omega
def idxI (o : Option Nat) : Int := match o with | some k => (k : Int) | none => -1
theorem idx_tells (x : Int) (l : List Int) (hl : l.length ≤ 1000000) : Ev (fun k => PIndex.readline_Runes_Index.f k x l) (idxI (idxL x l)) := by
  unfold PIndex.readline_Runes_Index.f
  suffices h : ∀ d i : Nat, i + d = l.length → Ev (fun k => PIndex.readline_Runes_Index.l0 k x l (i : Int)) (idxI ((idxL x (l.drop i)).map (· + i))) by
    have := h l.length 0 (by omega)
    simpa using this
  intro d
  induction d with
  | zero =>
    intro i hi
    refine Ev.step (fun k => by rw [PIndex.readline_Runes_Index.l0]) (ev_ifn (by omega) (ev_some ?_))
    rw [List.drop_of_length_le (by omega)]; rfl
  | succ d ih =>
    intro i hi
    have h := ih (i + 1) (by omega)
    rw [show ((i + 1 : Nat) : Int) = (i : Int) + 1 from by omega] at h
    have hr := rd_nat l i (by omega)
    rw [List.drop_eq_getElem_cons (by omega)]
    by_cases hx : l[i]'(by omega) = x
    · refine Ev.step (fun k => by rw [PIndex.readline_Runes_Index.l0, hr]) (ev_ifp (by omega) (ev_ifp (by omega) (ev_ifp hx (ev_some ?_))))
      simp [idxL, hx, idxI]
    · refine Ev.step (fun k => by rw [PIndex.readline_Runes_Index.l0, hr, w64 (x := (i : Int) + 1) (by omega) (by omega)]) (ev_ifp (by omega) (ev_ifp (by omega) (ev_ifn hx ?_)))
      have e : (idxL x (l[i]'(by omega) :: l.drop (i + 1))).map (· + i) = (idxL x (l.drop (i + 1))).map (· + (i + 1)) := by
        simp only [idxL, hx, if_false, Option.map_map]
        congr 1
        funext y
        show y + 1 + i = y + (i + 1)
        omega
      rw [e]
      exact h
theorem Index_calls (x : Int) (A : Option Addr) (c : Nat) (l : List Int) (w : World) (hl : l.length ≤ 1000000) (hr : Kd.C (Kd.int .i32) w A l.length l) (hc : l.length ≤ c) : Calls Tryd.prog 22 #[.agg #[], .int .i32 x, .slice A l.length c] w fun e w' => e = .returned (.int .i64 (idxI (idxL x l))) ∧ Below w.heap.size w w' := by
  obtain ⟨k, hk⟩ := (idx_tells x l hl).rounds
  exact PIndex.readline_Runes_Index.calls k x A c l _ w hr hc hk
/-- A text without colours; nothing where it fails. -/
def colB : Nat → List Int → Option (List Int)
  | 0, _ => some []
  | _ + 1, [] => some []
  | _ + 1, [x] => if x = 27 then none else some [x]
  | b + 1, x :: y :: t => if x = 27 then (if y = 91 then (match idxL 109 t with | some k => colB b (t.drop (k + 1)) | none => colB b (y :: t)) else (colB b (y :: t)).map (x :: ·)) else (colB b (y :: t)).map (x :: ·)
theorem colB_more : ∀ (b : Nat) (l : List Int), l.length ≤ b → colB (b + 1) l = colB b l
  | 0, l, h => by
    have : l = [] := List.eq_nil_of_length_eq_zero (by omega)
    subst this; rfl
  | b + 1, [], _ => rfl
  | b + 1, [x], _ => rfl
  | b + 1, x :: y :: t, h => by
    have ht : (y :: t).length ≤ b := by simpa using h
    have e1 := colB_more b (y :: t) ht
    simp only [colB, e1]
    cases hk : idxL 109 t with
    | none => rfl
    | some k =>
      dsimp only
      rw [show colB (b + 1) (t.drop (k + 1)) = colB b (t.drop (k + 1)) from colB_more b _ (by simp at ht ⊢; omega)]
theorem colB_any {b : Nat} : ∀ (d : Nat) (l : List Int), l.length ≤ b → colB (b + d) l = colB b l
  | 0, l, h => rfl
  | d + 1, l, h => (colB_more (b + d) l (by omega)).trans (colB_any d l h)
def colL (l : List Int) : Option (List Int) := colB l.length l
theorem colL_of {b : Nat} (l : List Int) (h : l.length ≤ b) : colB b l = colL l := by
  have := colB_any (b := l.length) (b - l.length) l (Nat.le_refl _)
  rwa [show l.length + (b - l.length) = b by omega] at this
theorem colL_nil : colL [] = some [] := rfl
theorem colL_plain (x : Int) (t : List Int) (h : x ≠ 27) : colL (x :: t) = (colL t).map (x :: ·) := by
  cases t with
  | nil => show (if x = 27 then none else some [x]) = _; rw [if_neg h]; rfl
  | cons y t => show (if x = 27 then _ else (colB (t.length + 1) (y :: t)).map (x :: ·)) = _; rw [if_neg h]; rfl
theorem colL_last : colL [27] = none := rfl
theorem colL_esc (y : Int) (t : List Int) (h : y ≠ 91) : colL (27 :: y :: t) = (colL (y :: t)).map (27 :: ·) := by
  have e : colL (27 :: y :: t) = (if y = 91 then (match idxL 109 t with | some k => colB (t.length + 1) (t.drop (k + 1)) | none => colB (t.length + 1) (y :: t)) else (colB (t.length + 1) (y :: t)).map (27 :: ·)) := rfl
  rw [e, if_neg h]; rfl
theorem colL_none (t : List Int) (h : idxL 109 t = none) : colL (27 :: 91 :: t) = colL (91 :: t) := by
  have e : colL (27 :: 91 :: t) = (match idxL 109 t with | some k => colB (t.length + 1) (t.drop (k + 1)) | none => colB (t.length + 1) (91 :: t)) := rfl
  rw [e, h]; rfl
theorem colL_some (t : List Int) (k : Nat) (h : idxL 109 t = some k) : colL (27 :: 91 :: t) = colL (t.drop (k + 1)) := by
  have e : colL (27 :: 91 :: t) = (match idxL 109 t with | some k => colB (t.length + 1) (t.drop (k + 1)) | none => colB (t.length + 1) (91 :: t)) := rfl
  rw [e, h]
  exact colL_of _ (by simp; omega)
theorem infoR : (Tryd.prog.info? 21).map (fun i => (i.zero, i.size, i.bytes)) = some (some (.int .i32 0), 1, 4) := by kernel_rfl
theorem infoR_parts {t : TypeId} {z : Value} {n b : Nat} (h : (Tryd.prog.info? t).map (fun i => (i.zero, i.size, i.bytes)) = some (some z, n, b)) : ∃ i, Tryd.prog.info? t = some i ∧ i.zero = some z ∧ i.size = n ∧ i.bytes = b := by
  cases hi : Tryd.prog.info? t with
  | none => rw [hi] at h; cases h
  | some i =>
    rw [hi] at h
    simp only [Option.map_some, Option.some.injEq, Prod.mk.injEq] at h
    exact ⟨i, rfl, h.1, h.2.1, h.2.2⟩
theorem make_runes (n : Nat) (hn : n ≤ 2000000000) (w : World) : (Instr.makeSlice 26 (.int .i64 0) (.int .i64 (n : Int))).run Tryd.prog w = .ok (.slice (some ⟨w.heap.size, 0, none⟩) 0 n) (w.alloc (.cells (madeCells #[.int .i32 0] n) 21)) := by
  obtain ⟨i0, hi, hz0, hz1, hz2⟩ := infoR_parts infoR
  have := run_make (P := Tryd.prog) w 26 21 i0 (.int .i32 0) Tryd.underlying26 hi hz0 .i64 .i64 0 (n : Int) (by omega) (by omega) (by rw [hz2]; omega) (by omega)
  simp only [Int.toNat_zero, Int.toNat_natCast, hz1, Nat.mul_one] at this
  exact this
theorem slice_of {w : World} {N n : Nat} {e : TypeId} {v : Value} {xs : List Value} (h : w.ownsRow N e 1 v n xs) : ∃ T c, v = .slice T n c := by
  rcases h.2 with ⟨e, h0⟩ | ⟨g, cap, cur, e, _⟩
  · exact ⟨none, 0, by rw [e, h0]⟩
  · exact ⟨_, _, e⟩
theorem wpList_append_any {P : Program} (w : World) {ops : Array Oper} {rest : List Oper} {o : Oper} {a : Act} {Q : Exit → Act → World → Prop} (hgd : o.guard = none) (s x : Operand) (t : TypeId)
    (ho : o.op = .call { callee := .builtin .append, args := #[s, x], argTypes := #[t, t] })
    (base : Nat) (e : TypeId) (i : TypeInfo) (z : Value) (size bytes : Nat) (ht : P.underlying t = some (.slice e)) (hi : P.info? e = some i) (hz : i.zero = some z)
    (hsize : i.size = size) (hby : i.bytes = bytes) (hzs : z.cells.size = size) (hsz : 0 < size)
    (v : Value) (n : Nat) (xs : List Value) (hs : a.eval s = v) (hown : w.ownsRow base e size v n xs)
    (ad : Addr) (m c : Nat) (news : List Value) (hx : a.eval x = .slice (some ad) m c) (hl : news.length = m * size) (hnews : ∀ j u, news[j]? = some u → w.cell? (ad.add j) = some u) (h1 : ∀ u ∈ news, u.oneCell' = true)
    (h63 : n + m ≤ maxLen) (hbytes : (n + m) * bytes ≤ 140737488355328) (hbase : base ≤ w.heap.size)
    (h : ∀ v' w', w'.ownsRow base e size v' (n + m) (xs ++ news) → w.grownBy w' v.ownBlock → (v'.ownBlock = v.ownBlock ∨ v'.ownBlock = some w.heap.size) → wpList P ops Q rest (a.put o.dst v') w') : wpList P ops Q (o :: rest) a w := by
  refine wpList_plain hgd fun K hK' => ?_
  obtain ⟨v', w', hrun, h2, h3, _, h5⟩ := run_append_own_at (P := P) w base t o.type e i z size bytes ht hi hz hsize hby hzs hsz v n xs hown ad m c news hl hnews h1 h63 hbytes hbase
  unfold Oper.wp
  simp [execOp, ho, resolve, invoke, builtin, hs, hx, hrun, Result.andThen]
  exact hK' _ _ (h v' w' h2 h3 h5)
theorem row_new (w : World) (l : List Value) (t : TypeId) : ∀ j u, l[j]? = some u → (w.alloc (.cells l.toArray t)).cell? ((⟨w.heap.size, 0, none⟩ : Addr).add j) = some u := by
  intro j u hu
  have h1 := (Rec.new w l t).cell j hu
  have e : (⟨w.heap.size, 0, none⟩ : Addr).add j = ⟨w.heap.size, j, none⟩ := by
    cases j with
    | zero => rfl
    | succ j => simp [Addr.add]
  rw [e]
  exact h1
theorem bounds_runs {P : Program} (w : World) (x y : Int) (code : BoundsCode) : ∃ v w', (boundsPanic .i64 x y code : Sem Value).run P w = .halt (.panic (.iface P.rt.boundsError v)) w' ∧ (w' = w ∨ w' = w.drew) := by
  unfold boundsPanic
  split
  · exact ⟨_, _, rfl, .inr rfl⟩
  · refine ⟨.agg #[.int .i64 (IntKind.i64.wrap x), .int .i64 y, .bool true, .int .u8 code.toNat], w, ?_, .inl rfl⟩
    simp [runtimePanic, goPanic, go_sem]
/-- How it ends. -/
def ColEnd (T : Option (List Int)) (w : World) (e : Ending) (w' : World) : Prop := Below w.heap.size w w' ∧
  match T with
  | some o => ∃ v, e = .returned v ∧ w'.ownsRow w.heap.size 21 1 v o.length (o.map (Value.int .i32))
  | none => ∃ u v, e = .panicked [{ v := .iface u v, recovered := false }]
set_option maxRecDepth 100000 in
set_option maxHeartbeats 16000000 in
theorem ColorFilter_calls (l : List Int) (A : Option Addr) (c : Nat) (w : World) (hl : l.length ≤ 1000000) (hr : Kd.C (Kd.int .i32) w A l.length l) (hc : l.length ≤ c) :
    Calls Tryd.prog 15 #[.agg #[], .slice A l.length c] w fun e w' => ColEnd (colL l) w e w' := by
  obtain ⟨i0, hi, hz0, hz1, hz2⟩ := infoR_parts infoR
  have HI := Lib.hid (And.intro hi (And.intro hz0 (And.intro hz1 hz2)))
  have hmk := make_runes l.length (by omega)
  have HR := Lib.hid (And.intro hr hc)
  clear hr hc hi hz0 hz1 hz2
  go_enter Tryd.func15, Tryd.ntmps15
  go_wp2_with fail
  clear hmk
  go_loopw [5, 6] (fun v5 v6 wr => ∃ (p c' : Nat) (acc : List Int) (T : Option Addr), p ≤ l.length ∧ v6 = .int .i64 p ∧ v5 = .slice T acc.length c' ∧ wr.ownsRow w.heap.size 21 1 (.slice T acc.length c') acc.length (acc.map (Value.int .i32)) ∧ Below w.heap.size w wr ∧ acc.length ≤ p ∧ colL l = (colL (l.drop p)).map (acc ++ ·)) (fun _ v6 _ => l.length - (intOf v6).toNat)
  case atStart =>
    have ho := World.ownsRow_made (base := w.heap.size) (e := 21) (size := 1) (w.alloc (.cells #[] 32)) (madeCells #[.int .i32 0] l.length) l.length (by simp) (by unfold maxLen; omega) (by rw [size_madeCells]; simp)
    exact ⟨0, l.length, [], some ⟨w.heap.size + 1, 0, none⟩, Nat.zero_le _, rfl, rfl, by simpa using ho, ((Below.refl w.heap.size w).alloc (Nat.le_refl _) _).alloc (by simp) _, Nat.le_refl _, by simp⟩
  case round =>
    obtain ⟨p, c', acc, T, hp, rfl, rfl, ho, hb, hac, hcol⟩ := hrel
    have HX := Lib.hid (And.intro ho (And.intro hb hcol))
    by_cases hlt : p < l.length
    · obtain ⟨ad, hA, q0⟩ := Kd.at_int (Kd.C_below HR.out.1 hb) (p : Int) (by omega) (by omega)
      rw [Int.toNat_natCast, rd_nat l p hlt] at q0
      have HD := Lib.hid (List.drop_eq_getElem_cons hlt)
      clear ho hb hcol
      by_cases hx : l[p] = 27
      · by_cases hlast : p + 1 < l.length
        · obtain ⟨ad', hA', q1⟩ := Kd.at_int (Kd.C_below HR.out.1 HX.out.2.1) ((p + 1 : Nat) : Int) (by omega) (by omega)
          rw [Int.toNat_natCast, rd_nat l (p + 1) hlast] at q1
          rw [show ad'.add (p + 1) = ⟨ad'.block, ad'.off + (p + 1), none⟩ from by simp [Addr.add]] at q1
          have HD2 := Lib.hid (List.drop_eq_getElem_cons hlast)
          obtain rfl := Option.some.inj (hA.symm.trans hA')
          subst hA
          clear hA'
          rw [hx] at q0
          by_cases hy : l[p + 1] = 91
          · rw [hy] at q1
            have HY := Lib.hid (And.intro hx hy)
            clear hx hy
            obtain ⟨A', hsl, hrd, hle⟩ := print_drop_of (P := Tryd.prog) (Value.int .i32) (0 : Int) 26 21 .i64 Tryd.underlying26 HI.out.1 HI.out.2.2.1 (some ad) c l ((p : Int) + 2) (by omega) (by omega) HR.out.2
            rw [show ((p : Int) + 2).toNat = p + 2 by omega] at hle hrd
            simp only [show ((p : Int) + 2).toNat = p + 2 by omega] at hsl
            obtain ⟨t, ht⟩ : ∃ t, t = l.drop (p + 2) := ⟨_, rfl⟩
            rw [← ht] at hle hrd
            simp only [← ht] at hsl
            have hlt2 : t.length + p + 2 = l.length := by rw [ht, List.length_drop]; omega
            generalize c - (p + 2) = cq at *
            have HIX := Lib.hid (fun W (hb : Below w.heap.size w W) => Index_calls 109 A' cq t W (by omega) (Kd.C_of_reads (hrd W (Kd.reads_of_C (Kd.C_below HR.out.1 hb)))) hle)
            have HT := Lib.hid (And.intro ht hlt2)
            clear hrd ht hle hlt2
            go_wp2_with fail
            refine wp_region_noPanic ?_
            refine wp_region_held_drew (S := fun w' => Below w.heap.size w w') (by kernel_rfl) (HX.out.2.1.drew) (fun hHeld => ?_)
            refine wpAnyH_take (i := 0) (v := ?v0) (by simp only [List.getElem?_toArray, List.getElem?_cons_succ, List.getElem?_cons_zero]; rfl) (by kernel_rfl) (by kernel_rfl) (by kernel_rfl) (fun _ _ _ h => h) (Or.inl ⟨by rfl, ?h0⟩) (by assumption) ?_
            case h0 => (intro wS hSw; (try dsimp only at hSw); go_simp; try with_reducible rfl)
            try simp only [Act.put, List.setIfInBounds_toArray, List.set_cons_zero, List.set_cons_succ]
            refine wpAnyH_take (i := 1) (v := ?v1) (by simp only [List.getElem?_toArray, List.getElem?_cons_succ, List.getElem?_cons_zero]; rfl) (by kernel_rfl) (by kernel_rfl) (by kernel_rfl) (fun _ _ _ h => h) (Or.inl ⟨by rfl, ?h1⟩) (by assumption) ?_
            case h1 => (intro wS hSw; (try dsimp only at hSw); go_simp; try with_reducible rfl)
            try simp only [Act.put, List.setIfInBounds_toArray, List.set_cons_zero, List.set_cons_succ]
            refine wpAnyH_take (i := 2) (v := ?v2) (by simp only [List.getElem?_toArray, List.getElem?_cons_succ, List.getElem?_cons_zero]; rfl) (by kernel_rfl) (by kernel_rfl) (by kernel_rfl) (fun _ _ _ h => h) (Or.inl ⟨by rfl, ?h2⟩) (by assumption) ?_
            case h2 => (intro wS hSw; (try dsimp only at hSw); go_simp; try with_reducible rfl)
            try simp only [Act.put, List.setIfInBounds_toArray, List.set_cons_zero, List.set_cons_succ]
            refine wpAnyH_take (i := 3) (v := ?v3) (by simp only [List.getElem?_toArray, List.getElem?_cons_succ, List.getElem?_cons_zero]; rfl) (by kernel_rfl) (by kernel_rfl) (by kernel_rfl) (fun _ _ _ h => h) (Or.inl ⟨by rfl, ?h3⟩) (by assumption) ?_
            case h3 => (intro wS hSw; (try dsimp only at hSw); have hwp_ : IntKind.i64.wrap ((p : Int) + 2) = (p : Int) + 2 := IntWalk.i64_in _ (by omega); go_simp; try with_reducible rfl)
            try simp only [Act.put, List.setIfInBounds_toArray, List.set_cons_zero, List.set_cons_succ]
            refine wpAnyH_take (i := 4) (v := ?v4) (by simp only [List.getElem?_toArray, List.getElem?_cons_succ, List.getElem?_cons_zero]; rfl) (by kernel_rfl) (by kernel_rfl) (by kernel_rfl) (fun _ _ _ h => h) (Or.inl ⟨by rfl, ?h4⟩) (by assumption) ?_
            case h4 => (intro wS hSw; (try dsimp only at hSw); have hsl_ := hsl wS; go_simp; try with_reducible rfl)
            try simp only [Act.put, List.setIfInBounds_toArray, List.set_cons_zero, List.set_cons_succ]
            refine wpAnyH_ready (rs := [5]) (by kernel_rfl) (by simp) ?_
            refine AllReadyH.cons (o := _) rfl (fun K hK => ?_) AllReadyH.nil
            go_simp
            refine (HIX.out _ hHeld).mono ?_
            rintro e w1 ⟨rfl, hb1⟩
            have hbw : Below wr.heap.size wr w1 := ((Below.refl wr.heap.size wr).drew).trans hb1
            have HB1 := Lib.hid (And.intro hbw (HX.out.2.1.trans (hbw.mono HX.out.2.1.size)))
            clear hb1 hbw
            refine hK.out _ _ (HB1.out.2) (fun hHeld5 => ?_)
            clear hK K
            try simp only [Act.put, List.setIfInBounds_toArray, List.set_cons_zero, List.set_cons_succ]
            refine wpAnyH_take (i := 6) (v := ?v6) (by simp only [List.getElem?_toArray, List.getElem?_cons_succ, List.getElem?_cons_zero]; rfl) (by kernel_rfl) (by kernel_rfl) (by kernel_rfl) (fun _ _ _ h => h) (Or.inl ⟨by rfl, ?h6⟩) (by assumption) ?_
            case h6 => (intro wS hSw; (try dsimp only at hSw); go_simp; try with_reducible rfl)
            try simp only [Act.put, List.setIfInBounds_toArray, List.set_cons_zero, List.set_cons_succ]
            refine wpAnyH_done (by kernel_rfl) ?_ _
            refine NoPanic.normal ?_
            clear hsl
            rcases hk : idxL 109 t with _ | k
            · have HK := Lib.hid hk
              clear hk
              simp only [idxI]
              go_wp2_with fail
              go_roundw
              case rel =>
                refine ⟨p + 1, c', acc, T, by omega, by go_num, rfl, own_move HX.out.1 (fun k hk => HB1.out.1.block k (World.ownsRow.lt HX.out.1 k hk).2), HB1.out.2, by omega, ?_⟩
                rw [HX.out.2.2, HD.out, HY.out.1, HD2.out, HY.out.2, ← HT.out.1, colL_none _ HK.out]
              case measure => simp only [intOf]; omega
            · have hkl := idxL_lt hk
              have HK := Lib.hid hk
              have hlt2 := HT.out.2
              clear hk
              simp only [idxI]
              have hk1 : ((k : Int) == -1) = false := beq_eq_false_iff_ne.2 (by omega)
              go_wp2_with fail
              go_roundw
              case rel =>
                refine ⟨p + k + 3, c', acc, T, by omega, by go_num, rfl, own_move HX.out.1 (fun k hk => HB1.out.1.block k (World.ownsRow.lt HX.out.1 k hk).2), HB1.out.2, by omega, ?_⟩
                rw [HX.out.2.2, HD.out, HY.out.1, HD2.out, HY.out.2, ← HT.out.1, colL_some _ k HK.out, HT.out.1, List.drop_drop]
                congr 3
                omega
              case measure => simp only [intOf]; omega
          · have hy' : (l[p + 1] == 91) = false := beq_eq_false_iff_ne.2 hy
            have HY := Lib.hid (And.intro hx hy)
            clear hx hy
            go_wp2_with (at_builtin; (refine wpList_append_any _ rfl (.tmp 42) (.tmp 47) _ rfl w.heap.size 21 i0 (.int .i32 0) 1 4 Tryd.underlying26 HI.out.1 HI.out.2.1 HI.out.2.2.1 HI.out.2.2.2 rfl (by omega) (.slice T acc.length c') acc.length (acc.map (Value.int .i32)) rfl (own_move HX.out.1 (fun k hk => Below.heap_alloc wr _ k (World.ownsRow.lt HX.out.1 k hk).2)) ⟨wr.heap.size, 0, none⟩ 1 1 [.int .i32 27] rfl (by simp) (row_new wr [.int .i32 27] 21) (by intro u hu; rw [List.mem_singleton] at hu; subst hu; rfl) (by unfold maxLen; omega) (by omega) (by have := HX.out.2.1.size; simp; omega) ?_; intro v4 w4 ho4 hg4 hat4; obtain ⟨T4, c4, rfl⟩ := slice_of ho4; have HX4 := Lib.hid (And.intro ho4 (And.intro hg4 hat4)); clear ho4 hg4 hat4))
            go_roundw
            case rel =>
              refine ⟨p + 1, c4, acc ++ [27], T4, by omega, by go_num, ?_, ?_, ?_, by simp; omega, ?_⟩
              · simp
              · have := HX4.out.1; simpa using this
              · exact (HX.out.2.1.trans ((Below.refl wr.heap.size wr).alloc (Nat.le_refl _) _ |>.mono HX.out.2.1.size)).grown HX4.out.2.1 (by have := HX.out.2.1.size; simp; omega) (fun k hk => (World.ownsRow.lt HX.out.1 k hk).1)
              · rw [HX.out.2.2, HD.out, HY.out.1, HD2.out, colL_esc _ _ HY.out.2, Option.map_map]; congr 1; funext z; simp
            case measure => simp only [intOf]; omega
        · have HE := Lib.hid (show colL l = none from by rw [HX.out.2.2, HD.out, List.drop_of_length_le (by omega), hx]; rfl)
          subst hA
          rw [hx] at q0
          clear hx
          obtain ⟨pv, wq, hbp, hwq⟩ := bounds_runs (P := Tryd.prog) wr ((p : Int) + 1) (l.length : Int) .index
          have HQ := Lib.hid hwq
          clear hwq
          go_wp2
          refine ⟨rfl, ?_, ?_⟩
          · rcases HQ.out with e | e
            · rw [e]; exact HX.out.2.1
            · rw [e]; exact HX.out.2.1.drew
          · rw [HE.out]; exact ⟨_, _, rfl⟩
      · have hx' : (l[p] == 27) = false := beq_eq_false_iff_ne.2 hx
        have HY := Lib.hid hx
        subst hA
        clear hx
        go_wp2_with (at_builtin; (refine wpList_append_any _ rfl (.tmp 42) (.tmp 47) _ rfl w.heap.size 21 i0 (.int .i32 0) 1 4 Tryd.underlying26 HI.out.1 HI.out.2.1 HI.out.2.2.1 HI.out.2.2.2 rfl (by omega) (.slice T acc.length c') acc.length (acc.map (Value.int .i32)) rfl (own_move HX.out.1 (fun k hk => Below.heap_alloc wr _ k (World.ownsRow.lt HX.out.1 k hk).2)) ⟨wr.heap.size, 0, none⟩ 1 1 [.int .i32 l[p]] rfl (by simp) (row_new wr [.int .i32 l[p]] 21) (by intro u hu; rw [List.mem_singleton] at hu; subst hu; rfl) (by unfold maxLen; omega) (by omega) (by have := HX.out.2.1.size; simp; omega) ?_; intro v4 w4 ho4 hg4 hat4; obtain ⟨T4, c4, rfl⟩ := slice_of ho4; have HX4 := Lib.hid (And.intro ho4 (And.intro hg4 hat4)); clear ho4 hg4 hat4))
        go_roundw
        case rel =>
          refine ⟨p + 1, c4, acc ++ [l[p]], T4, by omega, by go_num, ?_, ?_, ?_, by simp; omega, ?_⟩
          · simp
          · have := HX4.out.1; simpa using this
          · exact (HX.out.2.1.trans ((Below.refl wr.heap.size wr).alloc (Nat.le_refl _) _ |>.mono HX.out.2.1.size)).grown HX4.out.2.1 (by have := HX.out.2.1.size; simp; omega) (fun k hk => (World.ownsRow.lt HX.out.1 k hk).1)
          · rw [HX.out.2.2, HD.out, colL_plain _ _ HY.out, Option.map_map]; congr 1; funext z; simp
        case measure => simp only [intOf]; omega
    · obtain rfl : p = l.length := by omega
      have HO := Lib.hid ho
      have HE := Lib.hid (show colL l = some acc from by rw [hcol, List.drop_length]; simp [colL_nil])
      clear ho hcol
      go_wp2_with fail
      go_ret
      refine ⟨hb, ?_⟩
      rw [HE.out]
      exact ⟨_, rfl, HO.out⟩
end Go.Proofs.YthkblefeifdhaaaDoor.H
