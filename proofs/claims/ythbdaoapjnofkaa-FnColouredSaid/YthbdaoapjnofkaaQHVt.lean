/- A writer of sequences for a terminal (goprompt.VT100Writer): its state in memory, raw bytes, colours and attributes; for rows of at most 1000000 bytes. -/
import Derived.Test.YthbdaoapjnofkaaQHRec
import Derived.Test.YthbdaoapjnofkaaQXPure
import Derived.Laws.OwnMore
import Derived.Deep.AppendLies
import Derived.IntWalk
import Derived.Test.YthbdaoapjnofkaaQPzzAttributex1
import Derived.Test.YthbdaoapjnofkaaQPzzForegroundx1
import Derived.Test.YthbdaoapjnofkaaQPzzBackgroundx1
namespace Go.Proofs.Ythbdaoapjnofkaa.H
open Go.RowKit Go.Proofs.YthbdaoapjnofkaaW.PrintWords Go.Proofs.YthbdaoapjnofkaaW.PrintLast Go.Proofs.Ythbdaoapjnofkaa.R Go.Proofs.Ythbdaoapjnofkaa.X
set_option linter.unusedVariables false
set_option linter.unusedSimpArgs false
attribute [local go_sem ↓] Go.wp_at_zero Go.wp_at_succ
abbrev Wp (b : Nat) : Value := .pointer (some ⟨b, 0, none⟩)
theorem infoU8 : (Try.prog.info? 5).map (fun i => (i.zero, i.size, i.bytes)) = some (some (.int .u8 0), 1, 1) := by kernel_rfl
theorem infoV_parts {t : TypeId} {z : Value} {n b : Nat} (h : (Try.prog.info? t).map (fun i => (i.zero, i.size, i.bytes)) = some (some z, n, b)) : ∃ i, Try.prog.info? t = some i ∧ i.zero = some z ∧ i.size = n ∧ i.bytes = b := by
  cases hi : Try.prog.info? t with
  | none => rw [hi] at h; cases h
  | some i =>
    rw [hi] at h
    simp only [Option.map_some, Option.some.injEq, Prod.mk.injEq] at h
    exact ⟨i, rfl, h.1, h.2.1, h.2.2⟩
/-- A writer at block m that has written the bytes bs. -/
structure VS (w : World) (N m : Nat) (T : Option Addr) (c : Nat) (bs : List Int) : Prop where
  blk : Rec w m [.slice T bs.length c] 68
  row : w.ownsRow N 5 1 (.slice T bs.length c) bs.length (bs.map (Value.int .u8))
  ge : N ≤ m
/-- What a step of a writer leaves: only its own block and its row are turned. -/
structure VT (N m : Nat) (T : Option Addr) (n c : Nat) (w : World) (T' : Option Addr) (c' : Nat) (bs' : List Int) (w' : World) : Prop where
  state : VS w' N m T' c' bs'
  below : Below N w w'
  keep : ∀ k, k < w.heap.size → k ≠ m → (Value.slice T n c).ownBlock ≠ some k → w'.heap[k]? = w.heap[k]?
  next : ∀ k n', (Value.slice T' n' c').ownBlock = some k → (Value.slice T n c).ownBlock = some k ∨ w.heap.size ≤ k
section
variable {N m n n' c c' c2 : Nat} {w w1 w2 : World} {T T' T2 : Option Addr} {bs bs' bs2 : List Int}
theorem ob (T : Option Addr) (n n' c c' : Nat) : (Value.slice T n c).ownBlock = (Value.slice T n' c').ownBlock := by cases T <;> rfl
theorem VT.refl (h : VS w N m T c bs) : VT N m T bs.length c w T c bs w := ⟨h, Below.refl _ _, fun _ _ _ _ => rfl, fun k n' hk => .inl (by rw [ob T bs.length n' c c]; exact hk)⟩
theorem VT.trans (h : VT N m T n c w T' c' bs' w1) (k : VT N m T' n' c' w1 T2 c2 bs2 w2) : VT N m T n c w T2 c2 bs2 w2 := by
  refine ⟨k.state, h.below.trans k.below, fun i hi a b => (k.keep i (Nat.lt_of_lt_of_le hi h.below.size) a fun e => ?_).trans (h.keep i hi a b), fun i m' hi => ?_⟩
  · rcases h.next i n' e with e1 | e1
    · exact b e1
    · omega
  · rcases k.next i m' hi with e1 | e1
    · exact h.next i n' e1
    · exact .inr (Nat.le_trans h.below.size e1)
theorem VS.stays (h : VS w N m T c bs) (hb : Below w.heap.size w w1) : VS w1 N m T c bs := ⟨h.blk.stays hb, own_move h.row (fun k hk => hb.block k (World.ownsRow.lt h.row k hk).2), h.ge⟩
theorem VT.stays (h : VT N m T n c w T' c' bs' w1) (hb : Below w1.heap.size w1 w2) (hN : N ≤ w1.heap.size) : VT N m T n c w T' c' bs' w2 :=
  ⟨h.state.stays hb, h.below.trans (hb.mono hN), fun i hi a b => (hb.block i (Nat.lt_of_lt_of_le hi h.below.size)).trans (h.keep i hi a b), h.next⟩
end
set_option maxRecDepth 100000 in
set_option maxHeartbeats 4000000 in
theorem WriteRaw_calls {N m c cd : Nat} {T : Option Addr} {w : World} {bs nw : List Int} {ad : Addr} (h : VS w N m T c bs) (hn : 0 < nw.length) (hb : bs.length + nw.length ≤ 1000000) (hc : ∀ j u, (nw.map (Value.int .u8))[j]? = some u → w.cell? (ad.add j) = some u) :
    Calls Try.prog 50 #[Wp m, .slice (some ad) nw.length cd] w fun e w' => e = .returned (.tuple #[]) ∧ ∃ T' c', VT N m T bs.length c w T' c' (bs ++ nw) w' := by
  obtain ⟨i0, hi, hz0, hz1, hz2⟩ := infoV_parts infoU8
  have HI := Lib.hid (And.intro hi (And.intro hz0 (And.intro hz1 hz2)))
  have q0 := h.blk.cell 0 rfl
  have z0 := h.blk.free 0
  have HV := Lib.hid h
  have HC := Lib.hid hc
  have hlt := h.blk.lt
  have hge := h.ge
  clear h hc hi hz0 hz1 hz2
  go_enter Try.func50, Try.ntmps50
  go_wp2_with (at_builtin; go_loud (refine wpList_append_lies _ rfl (.tmp 8) (.tmp 9) _ rfl N 5 i0 (.int .u8 0) 1 1 Try.underlying41 HI.out.1 HI.out.2.1 HI.out.2.2.1 HI.out.2.2.2 rfl (by omega) (.slice T bs.length c) bs.length (bs.map (Value.int .u8)) rfl HV.out.row ad nw.length cd (nw.map (Value.int .u8)) rfl (by simp) HC.out (by intro u hu; obtain ⟨x, _, rfl⟩ := List.mem_map.1 hu; rfl) hn (by unfold maxLen; omega) (by omega) (by omega) w.heap.size rfl ?_; intro g' cap w4 ho4 hg4 hat4 hlt4; have HX := Lib.hid (And.intro ho4 (And.intro hg4 hat4)); have m0 : Rec w4 m [.slice T bs.length c] 68 := (hg4.block m hlt (by intro e; obtain ⟨cs, ek⟩ := own_typed HV.out.row m e.symm; have e2 := ek.symm.trans (show w.heap[m]? = _ from HV.out.blk); injection e2 with e2; injection e2 with _ e2; exact absurd e2 (by decide))).trans HV.out.blk; have k0 := m0.cell 0 rfl; have f0 := m0.free 0; have HM := Lib.hid m0; clear ho4 hg4 hat4 m0))
  go_end0
  obtain ⟨ho, hg, hat⟩ := HX.out
  have hgm : g' ≠ m := by
    rintro rfl
    obtain ⟨cs, ek⟩ := own_typed ho g' rfl
    have e2 := ek.symm.trans (show w4.heap[g']? = _ from HM.out)
    injection e2 with e2; injection e2 with _ e2
    exact absurd e2 (by decide)
  have hlen : (bs ++ nw).length = bs.length + nw.length := by simp
  refine ⟨rfl, some ⟨g', 0, none⟩, cap, ⟨?_, ?_, hge⟩, ?_, ?_, ?_⟩
  · rw [hlen]; exact HM.out.set 0 _
  · rw [hlen, List.map_append]
    exact own_move ho (fun k hk => Below.heap_setCell w4 _ _ k (by have : g' = k := by simpa [Value.ownBlock] using hk
                                                                   show k ≠ m; omega))
  · exact Below.setCell ⟨hg.os, hg.tape, hg.output, hg.size, fun k hk => hg.block k (by omega) (by intro e; have := (World.ownsRow.lt HV.out.row k e.symm).1; omega)⟩ hge _
  · intro k hk h1 h2
    exact (Below.heap_setCell w4 _ _ k (by show k ≠ m; exact h1)).trans (hg.block k hk (fun e => h2 e.symm))
  · intro k n' hk
    have e : g' = k := by simpa [Value.ownBlock] using hk
    rcases hat with h1 | h1
    · exact .inl (e ▸ h1)
    · exact .inr (by omega)
set_option maxRecDepth 100000 in
set_option maxHeartbeats 4000000 in
theorem WriteRaw_deferred {N m c cd : Nat} {T : Option Addr} {w : World} {bs nw : List Int} {ad : Addr} (h : VS w N m T c bs) (hn : 0 < nw.length) (hb : bs.length + nw.length ≤ 1000000) (hc : ∀ j u, (nw.map (Value.int .u8))[j]? = some u → w.cell? (ad.add j) = some u) :
    CallsD Try.prog 50 #[Wp m, .slice (some ad) nw.length cd] .returning w fun e u' w' => u' = .returning ∧ (e = .returned (.tuple #[]) ∧ ∃ T' c', VT N m T bs.length c w T' c' (bs ++ nw) w') := by
  obtain ⟨i0, hi, hz0, hz1, hz2⟩ := infoV_parts infoU8
  have HI := Lib.hid (And.intro hi (And.intro hz0 (And.intro hz1 hz2)))
  have q0 := h.blk.cell 0 rfl
  have z0 := h.blk.free 0
  have HV := Lib.hid h
  have HC := Lib.hid hc
  have hlt := h.blk.lt
  have hge := h.ge
  clear h hc hi hz0 hz1 hz2
  go_enter_d Try.func50, Try.ntmps50
  go_wp2_with (at_builtin; go_loud (refine wpList_append_lies _ rfl (.tmp 8) (.tmp 9) _ rfl N 5 i0 (.int .u8 0) 1 1 Try.underlying41 HI.out.1 HI.out.2.1 HI.out.2.2.1 HI.out.2.2.2 rfl (by omega) (.slice T bs.length c) bs.length (bs.map (Value.int .u8)) rfl HV.out.row ad nw.length cd (nw.map (Value.int .u8)) rfl (by simp) HC.out (by intro u hu; obtain ⟨x, _, rfl⟩ := List.mem_map.1 hu; rfl) hn (by unfold maxLen; omega) (by omega) (by omega) w.heap.size rfl ?_; intro g' cap w4 ho4 hg4 hat4 hlt4; have HX := Lib.hid (And.intro ho4 (And.intro hg4 hat4)); have m0 : Rec w4 m [.slice T bs.length c] 68 := (hg4.block m hlt (by intro e; obtain ⟨cs, ek⟩ := own_typed HV.out.row m e.symm; have e2 := ek.symm.trans (show w.heap[m]? = _ from HV.out.blk); injection e2 with e2; injection e2 with _ e2; exact absurd e2 (by decide))).trans HV.out.blk; have k0 := m0.cell 0 rfl; have f0 := m0.free 0; have HM := Lib.hid m0; clear ho4 hg4 hat4 m0))
  go_end0
  obtain ⟨ho, hg, hat⟩ := HX.out
  have hgm : g' ≠ m := by
    rintro rfl
    obtain ⟨cs, ek⟩ := own_typed ho g' rfl
    have e2 := ek.symm.trans (show w4.heap[g']? = _ from HM.out)
    injection e2 with e2; injection e2 with _ e2
    exact absurd e2 (by decide)
  have hlen : (bs ++ nw).length = bs.length + nw.length := by simp
  refine ⟨rfl, some ⟨g', 0, none⟩, cap, ⟨?_, ?_, hge⟩, ?_, ?_, ?_⟩
  · rw [hlen]; exact HM.out.set 0 _
  · rw [hlen, List.map_append]
    exact own_move ho (fun k hk => Below.heap_setCell w4 _ _ k (by have : g' = k := by simpa [Value.ownBlock] using hk
                                                                   show k ≠ m; omega))
  · exact Below.setCell ⟨hg.os, hg.tape, hg.output, hg.size, fun k hk => hg.block k (by omega) (by intro e; have := (World.ownsRow.lt HV.out.row k e.symm).1; omega)⟩ hge _
  · intro k hk h1 h2
    exact (Below.heap_setCell w4 _ _ k (by show k ≠ m; exact h1)).trans (hg.block k hk (fun e => h2 e.symm))
  · intro k n' hk
    have e : g' = k := by simpa [Value.ownBlock] using hk
    rcases hat with h1 | h1
    · exact .inl (e ▸ h1)
    · exact .inr (by omega)
def attB (x : Int) : List Int := match PzzAttribute.goprompt_zzAttribute.f x with
  | some (r, true) => r ++ [59]
  | _ => []
def fgB (x : Int) : List Int := match PzzForeground.goprompt_zzForeground.f x with
  | some (r, true) => r
  | _ => [51, 57]
def bgB (x : Int) : List Int := match PzzBackground.goprompt_zzBackground.f x with
  | some (r, true) => r
  | _ => [52, 57]
def Ok3 (o : Option (List Int × Bool)) : Prop := ∃ r b, o = some (r, b) ∧ (b = true → 0 < r.length ∧ r.length ≤ 3)
theorem ok3_ite {c : Prop} [Decidable c] {a b : Option (List Int × Bool)} (ha : Ok3 a) (hb : Ok3 b) : Ok3 (if c then a else b) := by
  by_cases h : c
  · rw [if_pos h]; exact ha
  · rw [if_neg h]; exact hb
theorem att_ok (x : Int) : Ok3 (PzzAttribute.goprompt_zzAttribute.f x) := by
  unfold PzzAttribute.goprompt_zzAttribute.f
  repeat' (first | exact ⟨_, _, rfl, by decide⟩ | refine ok3_ite ?_ ?_)
theorem att_len (l : List Int) : (l.flatMap attB).length ≤ 4 * l.length := by
  induction l with
  | nil => simp
  | cons x l ih =>
    have h : (attB x).length ≤ 4 := by
      obtain ⟨r, b, hrb, h3⟩ := att_ok x
      unfold attB
      rw [hrb]
      cases b with
      | false => exact Nat.zero_le _
      | true => have := (h3 rfl).2; show (r ++ [59]).length ≤ 4; simp; omega
    simp only [List.flatMap_cons, List.length_append, List.length_cons]
    omega
theorem fg_ok (x : Int) : Ok3 (PzzForeground.goprompt_zzForeground.f x) := by
  unfold PzzForeground.goprompt_zzForeground.f
  repeat' (first | exact ⟨_, _, rfl, by decide⟩ | refine ok3_ite ?_ ?_)
theorem bg_ok (x : Int) : Ok3 (PzzBackground.goprompt_zzBackground.f x) := by
  unfold PzzBackground.goprompt_zzBackground.f
  repeat' (first | exact ⟨_, _, rfl, by decide⟩ | refine ok3_ite ?_ ?_)
theorem row_new (w : World) (l : List Value) (t : TypeId) : ∀ j u, l[j]? = some u → (w.alloc (.cells l.toArray t)).cell? ((⟨w.heap.size, 0, none⟩ : Addr).add j) = some u := by
  intro j u hu
  have h1 := (Rec.new w l t).cell j hu
  have e : (⟨w.heap.size, 0, none⟩ : Addr).add j = ⟨w.heap.size, j, none⟩ := by
    cases j with
    | zero => rfl
    | succ j => simp [Addr.add]
  rw [e]
  exact h1
/-- The colours' part. -/
def tailB (fg bg : Int) : List Int := fgB fg ++ [59] ++ bgB bg
theorem row_of {w : World} {N : Nat} {ok : Nat → Prop} {v : Value} {l : List Int} (h : Kd.R (Kd.int .u8) 5 w N ok v l) (hl : 0 < l.length) : ∃ g c, v = .slice (some ⟨g, 0, none⟩) l.length c ∧ N ≤ g ∧ g < w.heap.size ∧ ∀ j u, (l.map (Value.int .u8))[j]? = some u → w.cell? ((⟨g, 0, none⟩ : Addr).add j) = some u := by
  have ho := Kd.own_of_R h
  obtain ⟨g, c, rfl, h1, h2⟩ := World.ownsRow.form ho hl
  exact ⟨g, c, rfl, h1, h2, World.ownsRow.cells ho rfl⟩
theorem row_last {w : World} {b : Nat} {v : Value} {t : TypeId} (h : Rec w b [v] t) : ∀ j u, [v][j]? = some u → w.cell? ((⟨b, 0, none⟩ : Addr).add j) = some u := by
  intro j u hu
  have h1 := h.cell j hu
  have e : (⟨b, 0, none⟩ : Addr).add j = ⟨b, j, none⟩ := by
    cases j with
    | zero => rfl
    | succ j => simp [Addr.add]
  rw [e]
  exact h1
/-- Within SetDisplayAttributes: the writer, and the row that is written last. -/
structure LV (N m : Nat) (T : Option Addr) (n c : Nat) (w : World) (bd : Nat) (w' : World) (T' : Option Addr) (c' : Nat) (bs' : List Int) : Prop where
  vt : VT N m T n c w T' c' bs' w'
  last : Rec w' bd [.int .u8 109] 5
  apart : ∀ n', (Value.slice T' n' c').ownBlock ≠ some bd
  ge : N ≤ bd
section
variable {N m n c c' c2 bd : Nat} {w w1 w2 : World} {T T' T2 : Option Addr} {bs bs' bs2 : List Int}
theorem LV.stays (h : LV N m T n c w bd w1 T' c' bs') (hb : Below w1.heap.size w1 w2) : LV N m T n c w bd w2 T' c' bs' :=
  ⟨h.vt.stays hb (by have := h.ge; have := h.last.lt; omega), h.last.stays hb, h.apart, h.ge⟩
theorem LV.write (h : LV N m T n c w bd w1 T' c' bs') (k : VT N m T' bs'.length c' w1 T2 c2 bs2 w2) : LV N m T n c w bd w2 T2 c2 bs2 := by
  refine ⟨h.vt.trans k, (k.keep bd h.last.lt ?_ (h.apart _)).trans h.last, fun n' e => ?_, h.ge⟩
  · rintro rfl
    have e := (show w1.heap[bd]? = _ from h.last).symm.trans (show w1.heap[bd]? = _ from h.vt.state.blk)
    injection e with e; injection e with _ e
    exact absurd e (by decide)
  · rcases k.next bd n' e with e1 | e1
    · exact h.apart _ e1
    · have := h.last.lt; omega
end
set_option maxRecDepth 100000 in
set_option maxHeartbeats 8000000 in
theorem SDA_calls {N m c cA : Nat} {T A : Option Addr} {w : World} {bs l : List Int} (h : VS w N m T c bs) (fg bg : Int) (hl : l.length ≤ 1000) (hlc : l.length ≤ cA) (hbs : bs.length ≤ 100000)
    (hA : ∀ j x, l[j]? = some x → ∃ ad, A = some ad ∧ (ad.add j).block < w.heap.size ∧ (ad.add j).block ≠ m ∧ (Value.slice T bs.length c).ownBlock ≠ some (ad.add j).block ∧ w.cell? (ad.add j) = some (.int .i64 x)) :
    Calls Try.prog 40 #[Wp m, .int .i64 fg, .int .i64 bg, .slice A l.length cA] w fun e w' => e = .returned (.tuple #[]) ∧ ∃ T' c', VT N m T bs.length c w T' c' (bs ++ [27, 91] ++ l.flatMap attB ++ tailB fg bg ++ [109]) w' := by
  have hge := h.ge
  have hlt := h.blk.lt
  have HA := Lib.hid hA
  have a0 := Below.alloc (Below.refl w.heap.size w) (Nat.le_refl _) (.cells #[.int .u8 27, .int .u8 91] 5)
  have HV0 := Lib.hid (h.stays a0)
  have HR0 := Lib.hid ((VT.refl h).stays a0 (by omega))
  have HC0 := Lib.hid (row_new w [.int .u8 27, .int .u8 91] 5)
  clear h hA a0
  go_enter_defers Try.func40, Try.ntmps40
  go_wp2_with fail
  refine (WriteRaw_calls (nw := [27, 91]) HV0.out (by decide) (by simp; omega) HC0.out).mono ?_
  rintro e w1 ⟨rfl, T1, c1, hT1⟩
  have V1 := HR0.out.trans hT1
  have a1 := Below.alloc (Below.refl w1.heap.size w1) (Nat.le_refl _) (.cells #[.int .u8 109] 5)
  have L1 := Lib.hid (show LV N m T bs.length c w w1.heap.size (w1.alloc (.cells #[.int .u8 109] 5)) T1 c1 (bs ++ [27, 91]) from ⟨V1.stays a1 (by have := V1.below.size; omega), Rec.new w1 [.int .u8 109] 5, fun n' e => by have := (World.ownsRow.lt V1.state.row w1.heap.size (by rw [← e]; exact ob T1 _ _ c1 c1 |>.symm ▸ rfl)).2; omega, by have := V1.below.size; omega⟩)
  clear hT1 V1 a1
  go_wp2_with fail
  go_loopw [22] (fun vi wr => ∃ (i : Nat) (Ti : Option Addr) (ci : Nat), i ≤ l.length ∧ vi = .int .i64 i ∧ LV N m T bs.length c w w1.heap.size wr Ti ci (bs ++ [27, 91] ++ (l.take i).flatMap attB)) (fun vi _ => l.length - (intOf vi).toNat)
  case atStart => exact ⟨0, T1, c1, Nat.zero_le _, rfl, by simpa using L1.out⟩
  case round =>
    obtain ⟨i, Ti, ci, hil, rfl, hL⟩ := hrel
    by_cases hlt2 : i < l.length
    · obtain ⟨ad, rfl, h1, h2, h3, h4⟩ := HA.out i l[i] (List.getElem?_eq_getElem hlt2)
      have e0 : wr.cell? (ad.add i) = some (.int .i64 l[i]) := by
        rw [← h4]
        exact World.cell?_of_block (hL.vt.keep _ h1 h2 h3)
      have hz : (bs ++ [27, 91] ++ (l.take i).flatMap attB).length ≤ 110000 := by
        have := att_len (l.take i)
        have h5 : (l.take i).length ≤ 1000 := by rw [List.length_take]; omega
        simp only [List.length_append, List.length_cons, List.length_nil]
        omega
      have hnx : (l.take (i + 1)).flatMap attB = (l.take i).flatMap attB ++ attB l[i] := by
        rw [List.take_succ_eq_append_getElem hlt2, List.flatMap_append]; simp
      obtain ⟨r, b, hrb, hr3⟩ := att_ok l[i]
      have hab : attB l[i] = if b = true then r ++ [59] else [] := by unfold attB; rw [hrb]; cases b <;> rfl
      have HN := Lib.hid (And.intro hnx (And.intro hab hz))
      have HL := Lib.hid hL
      have HRB := Lib.hid hrb
      have HR3 := Lib.hid hr3
      clear hnx hab hz hL hrb hr3 h1 h2 h3 h4
      generalize l[i] = x at *
      go_wp2_with fail
      refine (PzzAttribute.goprompt_zzAttribute.calls x r b wr HRB.out).mono ?_
      rintro e w2 ⟨v, rfl, hR, hb2⟩
      have L2 := Lib.hid (HL.out.stays hb2)
      cases b with
      | false =>
        have HT := Lib.hid (show attB x = [] by rw [HN.out.2.1, if_neg Bool.false_ne_true])
        clear hR hb2
        go_wp2_with fail
        go_roundw
        case rel => exact ⟨i + 1, Ti, ci, by omega, by go_num, by rw [HN.out.1, HT.out, List.append_nil]; exact L2.out⟩
        case measure => simp only [intOf]; omega
      | true =>
        have HT := Lib.hid (show attB x = r ++ [59] by rw [HN.out.2.1, if_pos rfl])
        have HR4 := Lib.hid (HR3.out rfl)
        obtain ⟨g, cg, rfl, g1, g2, g3⟩ := row_of hR (HR3.out rfl).1
        have HG := Lib.hid g3
        clear hR hb2 g3
        go_wp2_with fail
        refine (WriteRaw_calls L2.out.vt.state HR4.out.1 (by have := HN.out.2.2; have := HR4.out.2; omega) HG.out).mono ?_
        rintro e w3 ⟨rfl, T3, c3, hT3⟩
        have L3 := Lib.hid (L2.out.write hT3)
        have a3 := Below.alloc (Below.refl w3.heap.size w3) (Nat.le_refl _) (.cells #[.int .u8 59] 5)
        have L4 := Lib.hid (L3.out.stays a3)
        clear hT3 a3
        go_wp2_with fail
        refine (WriteRaw_calls (nw := [59]) L4.out.vt.state (by decide) (by have h9 := HN.out.2.2; have h8 := HR4.out.2; simp only [List.length_append, List.length_cons, List.length_nil] at h9 ⊢; omega) (row_new w3 [.int .u8 59] 5)).mono ?_
        rintro e w5 ⟨rfl, T5, c5, hT5⟩
        have L5 := Lib.hid (L4.out.write hT5)
        clear hT5
        go_wp2_with fail
        go_roundw
        case rel => exact ⟨i + 1, T5, c5, by omega, by go_num, by rw [HN.out.1, HT.out, ← List.append_assoc, ← List.append_assoc]; exact L5.out⟩
        case measure => simp only [intOf]; omega
    · obtain rfl : i = l.length := by omega
      rw [List.take_length] at hL
      have HL := Lib.hid hL
      clear hL
      have HN := Lib.hid (show (bs ++ [27, 91] ++ l.flatMap attB).length ≤ 110000 by have := att_len l; simp only [List.length_append, List.length_cons, List.length_nil]; omega)
      obtain ⟨rf, bf, hbf, hf3⟩ := fg_ok fg
      have hfe : fgB fg = if bf = true then rf else [51, 57] := by unfold fgB; rw [hbf]; cases bf <;> rfl
      have HFF := Lib.hid (And.intro hbf (And.intro hf3 hfe))
      clear hbf hf3 hfe
      go_wp2_with fail
      refine (PzzForeground.goprompt_zzForeground.calls fg rf bf _ HFF.out.1).mono ?_
      rintro e wf ⟨vf, rfl, hRf, hbf2⟩
      have LF := Lib.hid (HL.out.stays hbf2)
      cases bf with
      | false =>
        have HFE := Lib.hid (show fgB fg = [51, 57] by rw [HFF.out.2.2, if_neg Bool.false_ne_true])
        have HF4 := Lib.hid (show 0 < ([51, 57] : List Int).length ∧ ([51, 57] : List Int).length ≤ 3 by decide)
        clear hRf hbf2 HFF
        go_wp2_with fail
        refine (PzzForeground.goprompt_zzForeground.calls 0 [51, 57] true _ rfl).mono ?_
        rintro e wg ⟨vg, rfl, hRg, hbg2⟩
        have LG := Lib.hid (LF.out.stays hbg2)
        obtain ⟨g, cg, rfl, g1, g2, g3⟩ := row_of hRg (by decide)
        have HG := Lib.hid g3
        clear hRg hbg2 g3 g1 g2
        go_wp2_with fail
        refine (WriteRaw_calls (nw := [51, 57]) LG.out.vt.state HF4.out.1 (by have h9 := HN.out; have h7 := HF4.out.2; simp only [List.length_append, List.length_cons, List.length_nil] at h9 h7 ⊢; omega) HG.out).mono ?_
        rintro e wh ⟨rfl, Th, ch, hTh⟩
        have LH := Lib.hid ((LG.out.write hTh).stays (Below.alloc (Below.refl wh.heap.size wh) (Nat.le_refl _) (.cells #[.int .u8 59] 5)))
        clear hTh
        go_wp2_with fail
        refine (WriteRaw_calls (nw := [59]) LH.out.vt.state (by decide) (by have h9 := HN.out; have h7 := HF4.out.2; simp only [List.length_append, List.length_cons, List.length_nil] at h9 h7 ⊢; omega) (row_new wh [.int .u8 59] 5)).mono ?_
        rintro e wi ⟨rfl, Ti2, ci2, hTi⟩
        have LI := Lib.hid (LH.out.write hTi)
        clear hTi HG
        obtain ⟨rb, bb, hbb, hb3⟩ := bg_ok bg
        have hbe : bgB bg = if bb = true then rb else [52, 57] := by unfold bgB; rw [hbb]; cases bb <;> rfl
        have HBB := Lib.hid (And.intro hbb (And.intro hb3 hbe))
        clear hbb hb3 hbe
        go_wp2_with fail
        refine (PzzBackground.goprompt_zzBackground.calls bg rb bb _ HBB.out.1).mono ?_
        rintro e wb ⟨vb, rfl, hRb, hbb2⟩
        have LB := Lib.hid (LI.out.stays hbb2)
        cases bb with
        | false =>
          have HE := Lib.hid (show bgB bg = [52, 57] by rw [HBB.out.2.2, if_neg Bool.false_ne_true])
          have HB4 := Lib.hid (show 0 < ([52, 57] : List Int).length ∧ ([52, 57] : List Int).length ≤ 3 by decide)
          clear hRb hbb2 HBB
          go_wp2_with fail
          refine (PzzBackground.goprompt_zzBackground.calls 0 [52, 57] true _ rfl).mono ?_
          rintro e wc ⟨vc, rfl, hRc, hbc2⟩
          have LC := Lib.hid (LB.out.stays hbc2)
          obtain ⟨g, cg, rfl, g1, g2, g3⟩ := row_of hRc (by decide)
          have HG := Lib.hid g3
          clear hRc hbc2 g3
          go_wp2_with fail
          refine (WriteRaw_calls (nw := [52, 57]) LC.out.vt.state HB4.out.1 (by have h9 := HN.out; have h8 := HB4.out.2; have h7 := HF4.out.2; simp only [List.length_append, List.length_cons, List.length_nil] at h9 h8 h7 ⊢; omega) HG.out).mono ?_
          rintro e wd ⟨rfl, Td, cd, hTd⟩
          have LD := Lib.hid (LC.out.write hTd)
          clear hTd
          go_wp2_with fail
          refine leaves_cons (f := 50) (args := #[Wp m, .slice (some ⟨w1.heap.size, 0, none⟩) 1 1]) (by simp) (by simp [go_sem]) ?_
          refine (WriteRaw_deferred (nw := [109]) LD.out.vt.state (by decide) (by have h9 := HN.out; have h8 := HB4.out.2; have h7 := HF4.out.2; simp only [List.length_append, List.length_cons, List.length_nil] at h9 h8 h7 ⊢; omega) (row_last LD.out.last)).mono ?_
          rintro e u' w' ⟨rfl, rfl, Te, ce, hTe⟩
          simp [Leaves, settle, results, Try.results40, go_sem]
          have HZ := LD.out.vt.trans hTe
          refine ⟨Te, ce, ?_⟩
          simpa [tailB, HE.out, HFE.out] using HZ
        | true =>
          have HE := Lib.hid (show bgB bg = rb by rw [HBB.out.2.2, if_pos rfl])
          have HB4 := Lib.hid (HBB.out.2.1 rfl)
          obtain ⟨g, cg, rfl, g1, g2, g3⟩ := row_of hRb HB4.out.1
          have HG := Lib.hid g3
          clear hRb hbb2 g3 HBB
          go_wp2_with fail
          refine (WriteRaw_calls (nw := rb) LB.out.vt.state HB4.out.1 (by have h9 := HN.out; have h8 := HB4.out.2; have h7 := HF4.out.2; simp only [List.length_append, List.length_cons, List.length_nil] at h9 h8 h7 ⊢; omega) HG.out).mono ?_
          rintro e wd ⟨rfl, Td, cd, hTd⟩
          have LD := Lib.hid (LB.out.write hTd)
          clear hTd
          go_wp2_with fail
          refine leaves_cons (f := 50) (args := #[Wp m, .slice (some ⟨w1.heap.size, 0, none⟩) 1 1]) (by simp) (by simp [go_sem]) ?_
          refine (WriteRaw_deferred (nw := [109]) LD.out.vt.state (by decide) (by have h9 := HN.out; have h8 := HB4.out.2; have h7 := HF4.out.2; simp only [List.length_append, List.length_cons, List.length_nil] at h9 h8 h7 ⊢; omega) (row_last LD.out.last)).mono ?_
          rintro e u' w' ⟨rfl, rfl, Te, ce, hTe⟩
          simp [Leaves, settle, results, Try.results40, go_sem]
          have HZ := LD.out.vt.trans hTe
          refine ⟨Te, ce, ?_⟩
          simpa [tailB, HE.out, HFE.out] using HZ
      | true =>
        have HFE := Lib.hid (show fgB fg = rf by rw [HFF.out.2.2, if_pos rfl])
        have HF4 := Lib.hid (HFF.out.2.1 rfl)
        obtain ⟨g, cg, rfl, g1, g2, g3⟩ := row_of hRf HF4.out.1
        have HG := Lib.hid g3
        clear hRf hbf2 g3 HFF g1 g2
        go_wp2_with fail
        refine (WriteRaw_calls (nw := rf) LF.out.vt.state HF4.out.1 (by have h9 := HN.out; have h7 := HF4.out.2; simp only [List.length_append, List.length_cons, List.length_nil] at h9 h7 ⊢; omega) HG.out).mono ?_
        rintro e wh ⟨rfl, Th, ch, hTh⟩
        have LH := Lib.hid ((LF.out.write hTh).stays (Below.alloc (Below.refl wh.heap.size wh) (Nat.le_refl _) (.cells #[.int .u8 59] 5)))
        clear hTh
        go_wp2_with fail
        refine (WriteRaw_calls (nw := [59]) LH.out.vt.state (by decide) (by have h9 := HN.out; have h7 := HF4.out.2; simp only [List.length_append, List.length_cons, List.length_nil] at h9 h7 ⊢; omega) (row_new wh [.int .u8 59] 5)).mono ?_
        rintro e wi ⟨rfl, Ti2, ci2, hTi⟩
        have LI := Lib.hid (LH.out.write hTi)
        clear hTi HG
        obtain ⟨rb, bb, hbb, hb3⟩ := bg_ok bg
        have hbe : bgB bg = if bb = true then rb else [52, 57] := by unfold bgB; rw [hbb]; cases bb <;> rfl
        have HBB := Lib.hid (And.intro hbb (And.intro hb3 hbe))
        clear hbb hb3 hbe
        go_wp2_with fail
        refine (PzzBackground.goprompt_zzBackground.calls bg rb bb _ HBB.out.1).mono ?_
        rintro e wb ⟨vb, rfl, hRb, hbb2⟩
        have LB := Lib.hid (LI.out.stays hbb2)
        cases bb with
        | false =>
          have HE := Lib.hid (show bgB bg = [52, 57] by rw [HBB.out.2.2, if_neg Bool.false_ne_true])
          have HB4 := Lib.hid (show 0 < ([52, 57] : List Int).length ∧ ([52, 57] : List Int).length ≤ 3 by decide)
          clear hRb hbb2 HBB
          go_wp2_with fail
          refine (PzzBackground.goprompt_zzBackground.calls 0 [52, 57] true _ rfl).mono ?_
          rintro e wc ⟨vc, rfl, hRc, hbc2⟩
          have LC := Lib.hid (LB.out.stays hbc2)
          obtain ⟨g, cg, rfl, g1, g2, g3⟩ := row_of hRc (by decide)
          have HG := Lib.hid g3
          clear hRc hbc2 g3
          go_wp2_with fail
          refine (WriteRaw_calls (nw := [52, 57]) LC.out.vt.state HB4.out.1 (by have h9 := HN.out; have h8 := HB4.out.2; have h7 := HF4.out.2; simp only [List.length_append, List.length_cons, List.length_nil] at h9 h8 h7 ⊢; omega) HG.out).mono ?_
          rintro e wd ⟨rfl, Td, cd, hTd⟩
          have LD := Lib.hid (LC.out.write hTd)
          clear hTd
          go_wp2_with fail
          refine leaves_cons (f := 50) (args := #[Wp m, .slice (some ⟨w1.heap.size, 0, none⟩) 1 1]) (by simp) (by simp [go_sem]) ?_
          refine (WriteRaw_deferred (nw := [109]) LD.out.vt.state (by decide) (by have h9 := HN.out; have h8 := HB4.out.2; have h7 := HF4.out.2; simp only [List.length_append, List.length_cons, List.length_nil] at h9 h8 h7 ⊢; omega) (row_last LD.out.last)).mono ?_
          rintro e u' w' ⟨rfl, rfl, Te, ce, hTe⟩
          simp [Leaves, settle, results, Try.results40, go_sem]
          have HZ := LD.out.vt.trans hTe
          refine ⟨Te, ce, ?_⟩
          simpa [tailB, HE.out, HFE.out] using HZ
        | true =>
          have HE := Lib.hid (show bgB bg = rb by rw [HBB.out.2.2, if_pos rfl])
          have HB4 := Lib.hid (HBB.out.2.1 rfl)
          obtain ⟨g, cg, rfl, g1, g2, g3⟩ := row_of hRb HB4.out.1
          have HG := Lib.hid g3
          clear hRb hbb2 g3 HBB
          go_wp2_with fail
          refine (WriteRaw_calls (nw := rb) LB.out.vt.state HB4.out.1 (by have h9 := HN.out; have h8 := HB4.out.2; have h7 := HF4.out.2; simp only [List.length_append, List.length_cons, List.length_nil] at h9 h8 h7 ⊢; omega) HG.out).mono ?_
          rintro e wd ⟨rfl, Td, cd, hTd⟩
          have LD := Lib.hid (LB.out.write hTd)
          clear hTd
          go_wp2_with fail
          refine leaves_cons (f := 50) (args := #[Wp m, .slice (some ⟨w1.heap.size, 0, none⟩) 1 1]) (by simp) (by simp [go_sem]) ?_
          refine (WriteRaw_deferred (nw := [109]) LD.out.vt.state (by decide) (by have h9 := HN.out; have h8 := HB4.out.2; have h7 := HF4.out.2; simp only [List.length_append, List.length_cons, List.length_nil] at h9 h8 h7 ⊢; omega) (row_last LD.out.last)).mono ?_
          rintro e u' w' ⟨rfl, rfl, Te, ce, hTe⟩
          simp [Leaves, settle, results, Try.results40, go_sem]
          have HZ := LD.out.vt.trans hTe
          refine ⟨Te, ce, ?_⟩
          simpa [tailB, HE.out, HFE.out] using HZ
set_option maxHeartbeats 4000000 in
theorem SetColor_calls {N m c : Nat} {T : Option Addr} {w : World} {bs : List Int} (h : VS w N m T c bs) (fg bg : Int) (bold : Bool) (hbs : bs.length ≤ 100000) :
    Calls Try.prog 38 #[Wp m, .int .i64 fg, .int .i64 bg, .bool bold] w fun e w' => e = .returned (.tuple #[]) ∧ ∃ T' c', VT N m T bs.length c w T' c' (bs ++ [27, 91] ++ attB (if bold then 1 else 0) ++ tailB fg bg ++ [109]) w' := by
  have hlt := h.blk.lt
  have HB := Lib.hid (fun x => Below.alloc (Below.refl w.heap.size w) (Nat.le_refl _) (.cells #[.int .i64 x] 73))
  have HS := Lib.hid (fun x => SDA_calls (h.stays (HB.out x)) fg bg (l := [x]) (A := some ⟨w.heap.size, 0, none⟩) (cA := 1) (by simp) (by simp) hbs (fun j y hy => by
    obtain ⟨rfl, rfl⟩ : j = 0 ∧ x = y := by
      cases j with
      | zero => exact ⟨rfl, by simpa using hy⟩
      | succ j => simp at hy
    refine ⟨_, rfl, by show w.heap.size < _; simp, by show w.heap.size ≠ m; omega, fun e => ?_, (Rec.new w [.int .i64 x] 73).cell 0 rfl⟩
    have e2 := (World.ownsRow.lt h.row w.heap.size e).2
    omega))
  have HV := Lib.hid h
  have HG := Lib.hid h.ge
  clear h
  cases bold with
  | true =>
    go_enter Try.func38, Try.ntmps38
    go_wp2_with fail
    refine (HS.out 1).mono ?_
    rintro e w1 ⟨rfl, T', c', hT⟩
    have HT := Lib.hid (((VT.refl HV.out).stays (HB.out 1) (by have := HG.out; omega)).trans hT)
    clear hT
    go_wp2_with fail
    go_end0
    exact ⟨rfl, T', c', by have := HT.out; rw [List.flatMap_singleton] at this; simpa using this⟩
  | false =>
    go_enter Try.func38, Try.ntmps38
    go_wp2_with fail
    refine (HS.out 0).mono ?_
    rintro e w1 ⟨rfl, T', c', hT⟩
    have HT := Lib.hid (((VT.refl HV.out).stays (HB.out 0) (by have := HG.out; omega)).trans hT)
    clear hT
    go_wp2_with fail
    go_end0
    exact ⟨rfl, T', c', by have := HT.out; rw [List.flatMap_singleton] at this; simpa using this⟩
theorem Bytes_calls {N m c : Nat} {T : Option Addr} {w : World} {bs : List Int} (h : VS w N m T c bs) : Calls Try.prog 39 #[Wp m] w fun e w' => e = .returned (.slice T bs.length c) ∧ w' = w := by
  have q0 := h.blk.cell 0 rfl
  clear h
  go_enter Try.func39, Try.ntmps39
  go_wp2
  go_ret
  exact ⟨rfl, rfl⟩
/-- A new writer. -/
theorem VS.new (w : World) : VS (w.alloc (.cells #[.slice none 0 0] 68)) w.heap.size w.heap.size none 0 [] := ⟨Rec.new w [.slice none 0 0] 68, World.ownsRow_nil _ _ 5 1, Nat.le_refl _⟩
def impl_Coloured.f (fg bg : Int) (bold : Bool) : Option ByteArray := some (strOfNums ([27, 91] ++ attB (if bold then 1 else 0) ++ tailB fg bg ++ [109]))
set_option maxHeartbeats 4000000 in
theorem impl_Coloured.calls (fg bg : Int) (bold : Bool) (r : ByteArray) (w : World) (h : impl_Coloured.f fg bg bold = some r) : Calls Try.prog 18 #[.int .i64 fg, .int .i64 bg, .bool bold] w fun e w' => e = .returned (.string r) ∧ Below w.heap.size w w' := by
  obtain rfl := Option.some.inj h
  clear h
  have HV := Lib.hid (VS.new w)
  have HB := Lib.hid (Below.alloc (Below.refl w.heap.size w) (Nat.le_refl _) (.cells #[.slice none 0 0] 68))
  have HC := SetColor_calls HV.out fg bg bold (by simp)
  rw [List.nil_append] at HC
  generalize [27, 91] ++ attB (if bold then 1 else 0) ++ tailB fg bg ++ [109] = X at *
  have HC := Lib.hid HC
  go_enter Try.func18, Try.ntmps18
  go_wp2_with fail
  refine HC.out.mono ?_
  rintro e w1 ⟨rfl, T', c', hT⟩
  have HT := Lib.hid hT
  clear hT
  go_wp2_with fail
  refine (Bytes_calls HT.out.state).mono ?_
  rintro e w2 ⟨rfl, rfl⟩
  have hs := own_string (P := Try.prog) Try.underlying41 Try.underlying5 Try.underlying9 HT.out.state.row
  go_wp2_with fail
  go_ret
  exact ⟨rfl, HB.out.trans HT.out.below⟩
theorem infoA : (Try.prog.info? 73).map (fun i => (i.zero, i.size, i.bytes)) = some (some (.int .i64 0), 1, 8) := by kernel_rfl
theorem one_at {w : World} {x : Value} {t : TypeId} {H : Nat} (h : w.heap.size = H) : ∀ j u, [x][j]? = some u → (w.alloc (.cells #[x] t)).cell? ((⟨H, 0, none⟩ : Addr).add j) = some u := h ▸ row_new w [x] t
theorem row_cap {w : World} {N n c : Nat} {e : TypeId} {T : Option Addr} {xs : List Value} (h : w.ownsRow N e 1 (.slice T n c) n xs) : n ≤ c := by
  rcases h.2 with ⟨_, h0⟩ | ⟨g, cap, cur, e1, _, _, hle, _⟩
  · omega
  · injection e1 with _ _ e3
    omega
theorem nms_of {w : World} {N c m : Nat} {e : TypeId} {T : Option Addr} {l : List Int} {c0 : Nat} (h : w.ownsRow N e 1 (.slice T l.length c) l.length (l.map (Value.int .i64))) (hm : m < N) : ∀ j x, l[j]? = some x → ∃ ad, T = some ad ∧ (ad.add j).block < w.heap.size ∧ (ad.add j).block ≠ m ∧ (Value.slice none 0 c0).ownBlock ≠ some (ad.add j).block ∧ w.cell? (ad.add j) = some (.int .i64 x) := by
  intro j x hx
  have hp : 0 < l.length := by
    have := (List.getElem?_eq_some_iff.1 hx).1; omega
  obtain ⟨g, cap, e1, h1, h2⟩ := World.ownsRow.form h hp
  injection e1 with e1 _ e3
  subst e1
  have hblk : ((⟨g, 0, none⟩ : Addr).add j).block = g := by cases j <;> simp [Addr.add]
  refine ⟨_, rfl, by rw [hblk]; exact h2, by rw [hblk]; omega, by simp [Value.ownBlock], World.ownsRow.cells h rfl j _ (by rw [List.getElem?_map, hx]; rfl)⟩
/-- Numbers that a slice reads as. -/
def Nms (w : World) (A : Option Addr) (l : List Int) : Prop := ∀ j x, l[j]? = some x → ∃ ad, A = some ad ∧ (ad.add j).block < w.heap.size ∧ w.cell? (ad.add j) = some (.int .i64 x)
def impl_Attributed.f (fg bg : Int) (l : List Int) : Option ByteArray := if l.length ≤ 1000 then some (strOfNums ([27, 91] ++ l.flatMap attB ++ tailB fg bg ++ [109])) else none
set_option maxRecDepth 100000 in
set_option maxHeartbeats 8000000 in
theorem Attributed_calls (fg bg : Int) (A : Option Addr) (c : Nat) (l : List Int) (w : World) (hl : l.length ≤ 1000) (hlc : l.length ≤ c) (hA : Nms w A l) : Calls Try.prog 19 #[.int .i64 fg, .int .i64 bg, .slice A l.length c] w fun e w' => e = .returned (.string (strOfNums ([27, 91] ++ l.flatMap attB ++ tailB fg bg ++ [109]))) ∧ Below w.heap.size w w' := by
  obtain ⟨X, hX⟩ : ∃ X, X = [27, 91] ++ l.flatMap attB ++ tailB fg bg ++ [109] := ⟨_, rfl⟩
  rw [← hX]
  obtain ⟨i0, hi, hz0, hz1, hz2⟩ := infoV_parts infoA
  have HI := Lib.hid (And.intro hi (And.intro hz0 (And.intro hz1 hz2)))
  have HV := Lib.hid (VS.new w)
  have HB := Lib.hid (Below.alloc (Below.refl w.heap.size w) (Nat.le_refl _) (.cells #[.slice none 0 0] 68))
  have HA := Lib.hid hA
  have HX := Lib.hid hX
  clear hA hX hi hz0 hz1 hz2
  go_enter Try.func19, Try.ntmps19
  go_wp2_with fail
  go_loopw [8, 15] (fun vs vi wr => ∃ (i : Nat) (Ti : Option Addr) (ci : Nat), i ≤ l.length ∧ vi = .int .i64 i ∧ vs = .slice Ti (l.take i).length ci ∧ wr.ownsRow (w.heap.size + 1) 73 1 (.slice Ti (l.take i).length ci) (l.take i).length ((l.take i).map (Value.int .i64)) ∧ Below (w.alloc (.cells #[.slice none 0 0] 68)).heap.size (w.alloc (.cells #[.slice none 0 0] 68)) wr) (fun _ vi _ => l.length - (intOf vi).toNat)
  case atStart => exact ⟨0, none, 0, Nat.zero_le _, rfl, rfl, World.ownsRow_nil _ _ _ 1, Below.refl _ _⟩
  case round =>
    obtain ⟨i, Ti, ci, hil, rfl, rfl, hO, hb⟩ := hrel
    have hzW : (w.alloc (.cells #[.slice none 0 0] 68)).heap.size = w.heap.size + 1 := by simp
    have hs := hb.size
    rw [hzW] at hs
    have HO := Lib.hid (And.intro hO hb)
    by_cases hlt : i < l.length
    · obtain ⟨ad, rfl, h1, h2⟩ := HA.out i l[i] (List.getElem?_eq_getElem hlt)
      have e0 : wr.cell? (ad.add i) = some (.int .i64 l[i]) := by
        rw [← h2]
        exact World.cell?_of_block ((hb.block _ (by rw [hzW]; omega)).trans (Below.heap_alloc w _ _ h1))
      have hnx : l.take (i + 1) = l.take i ++ [l[i]] := List.take_succ_eq_append_getElem hlt
      have HN := Lib.hid hnx
      have hti : (l.take i).length ≤ 1000 := by rw [List.length_take]; omega
      clear hO hb h1 h2 hnx hzW
      generalize l[i] = x at *
      generalize l.take i = li at *
      go_wp2_with (at_builtin; refine wpList_append_lies _ rfl (.tmp 19) (.tmp 21) _ rfl (w.heap.size + 1) 73 i0 (.int .i64 0) 1 8 Try.underlying72 HI.out.1 HI.out.2.1 HI.out.2.2.1 HI.out.2.2.2 rfl (by omega) (.slice Ti li.length ci) li.length (li.map (Value.int .i64)) rfl (World.ownsRow.alloc HO.out.1 _) ⟨wr.heap.size, 0, none⟩ 1 1 [.int .i64 x] rfl rfl (one_at (by simp)) (by simp [Value.oneCell']) (by omega) (by unfold maxLen; omega) (by omega) (by simp; omega) (wr.heap.size + 1) (by simp) ?_; intro g8 cap8 w8 ho8 hg8 hat8 hlt8; have HO8 := Lib.hid (And.intro ho8 hg8); clear ho8 hg8 hat8)
      go_roundw
      case rel =>
        have hlen : (li ++ [x]).length = li.length + 1 := by simp
        refine ⟨i + 1, some ⟨g8, 0, none⟩, cap8, by omega, by go_num, by rw [HN.out, hlen], by rw [HN.out, hlen, List.map_append]; exact HO8.out.1, ?_⟩
        refine HO.out.2.trans ?_
        have hg := HO8.out.2
        have hsz : (w.alloc (.cells #[.slice none 0 0] 68)).heap.size = w.heap.size + 1 := by simp
        rw [hsz]
        exact ((Below.refl _ wr).alloc hs _).trans ⟨hg.os, hg.tape, hg.output, hg.size, fun k hk => hg.block k (by simp; omega) (by intro e; have := (World.ownsRow.lt HO.out.1 k e.symm).1; omega)⟩
      case measure => simp only [intOf]; omega
    · obtain rfl : i = l.length := by omega
      rw [List.take_length] at HO
      have HS := SDA_calls (HV.out.stays HO.out.2) fg bg (l := l) (A := Ti) (cA := ci) hl (row_cap HO.out.1) (by simp) (nms_of HO.out.1 (by omega))
      rw [List.nil_append] at HS
      rw [← HX.out] at HS
      have HS := Lib.hid HS
      have HBB := Lib.hid (HB.out.trans (HO.out.2.mono (by rw [hzW]; omega)))
      clear hO hb hzW
      go_wp2_with fail
      refine HS.out.mono ?_
      rintro e w1 ⟨rfl, T', c', hT⟩
      have HT := Lib.hid hT
      clear hT
      go_wp2_with fail
      refine (Bytes_calls HT.out.state).mono ?_
      rintro e w2 ⟨rfl, rfl⟩
      have hs2 := own_string (P := Try.prog) Try.underlying41 Try.underlying5 Try.underlying9 HT.out.state.row
      go_wp2_with fail
      go_ret
      exact ⟨rfl, HBB.out.trans HT.out.below⟩
theorem impl_Attributed.calls (fg bg : Int) (A : Option Addr) (c : Nat) (l : List Int) (r : ByteArray) (w : World) (hr : Kd.C (Kd.int .i64) w A l.length l) (hc : l.length ≤ c) (h : impl_Attributed.f fg bg l = some r) : Calls Try.prog 19 #[.int .i64 fg, .int .i64 bg, .slice A l.length c] w fun e w' => e = .returned (.string r) ∧ Below w.heap.size w w' := by
  unfold impl_Attributed.f at h
  by_cases hl : l.length ≤ 1000
  · rw [if_pos hl] at h
    obtain rfl := Option.some.inj h
    obtain ⟨_, _, hA⟩ := Kd.reads_of_C (d := (0 : Int)) (h1 := fun _ => rfl) hr
    refine Attributed_calls fg bg A c l w hl hc fun j x hx => ?_
    obtain ⟨hj, hx'⟩ := List.getElem?_eq_some_iff.1 hx
    obtain ⟨ad, hAe, hA2⟩ := hA (by omega)
    have hcell := hA2 j hj
    have e : l.getD j 0 = x := by rw [List.getD_eq_getElem?_getD, hx]; rfl
    refine ⟨ad, hAe, ?_, by rw [← e]; exact hcell⟩
    rcases Nat.lt_or_ge (ad.add j).block w.heap.size with h1 | h1
    · exact h1
    · unfold World.cell? at hcell
      rw [Array.getElem?_eq_none h1] at hcell
      simp at hcell
  · rw [if_neg hl] at h
    cases h
end Go.Proofs.Ythbdaoapjnofkaa.H
