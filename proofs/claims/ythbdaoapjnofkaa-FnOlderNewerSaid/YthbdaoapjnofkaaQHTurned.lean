/- What turns over a history tell (impl.Turned); for at most 900 turns, with texts of ASCII. -/
import Derived.Test.YthbdaoapjnofkaaQHHist
namespace Go.Proofs.Ythbdaoapjnofkaa.H
open Go.RowKit Go.Proofs.YthbdaoapjnofkaaW.PrintWords Go.Proofs.YthbdaoapjnofkaaW.PrintLast Go.Proofs.Ythbdaoapjnofkaa.R Go.Proofs.Ythbdaoapjnofkaa.X
set_option linter.unusedVariables false
set_option linter.unusedSimpArgs false
attribute [local go_sem ↓] Go.wp_at_zero Go.wp_at_succ
/-- A history: the texts that are kept, those that are shown, and which one is. -/
structure Hst where
  hl : List ByteArray
  tl : List ByteArray
  sel : Nat
/-- A turn. -/
structure Tn where
  op : Int
  text : ByteArray
instance (s : ByteArray) : Decidable (Asc s) := inferInstanceAs (Decidable (∀ b ∈ s.data.toList, b.toNat < 128))
def goTo (h : Hst) (i : Nat) (x : ByteArray) : Option (Hst × ByteArray × Bool) :=
  match h.tl[i]? with
  | some y => if Asc y ∧ y.size ≤ 1000000 then some (⟨h.hl, h.tl.set h.sel x, i⟩, y, true) else none
  | none => none
def turn1 (h : Hst) (op : Int) (x : ByteArray) : Option (Hst × ByteArray × Bool) :=
  if h.hl.length ≤ 900 ∧ h.sel < h.tl.length ∧ h.tl.length ≤ 1000 then
    (if op = 1 then some (⟨h.hl ++ [x], h.hl ++ [x] ++ [⟨#[]⟩], (h.hl ++ [x]).length⟩, ⟨#[]⟩, false)
    else if op = 4 then some (⟨h.hl, h.hl ++ [⟨#[]⟩], h.hl.length⟩, ⟨#[]⟩, false)
    else if op = 2 then (if h.tl.length = 1 ∨ h.sel = 0 then some (h, x, false) else goTo h (h.sel - 1) x)
    else if op = 3 then (if h.tl.length ≤ h.sel + 1 then some (h, x, false) else goTo h (h.sel + 1) x)
    else none)
  else none
def turns (h : Hst) : List Tn → Option (List ByteArray × List Bool)
  | [] => some ([], [])
  | k :: l => (turn1 h k.op k.text).bind fun p => (turns p.1 l).bind fun q => some (p.2.1 :: q.1, p.2.2 :: q.2)
/-- A slice reads as turns. -/
def TRd (w : World) (B : Nat) (A : Option Addr) (l : List Tn) : Prop := ∀ (j : Nat) (k : Tn), l[j]? = some k → ∃ ad, A = some ad ∧ (ad.add (j * 2)).block < B ∧ w.cell? (ad.add (j * 2)) = some (.int .i64 k.op) ∧ w.cell? ⟨(ad.add (j * 2)).block, (ad.add (j * 2)).off + 1, none⟩ = some (.string k.text)
theorem TRd.below {w w1 : World} {B : Nat} {A : Option Addr} {l : List Tn} (h : TRd w B A l) (hb : Below B w w1) : TRd w1 B A l := fun j k hj => by
  obtain ⟨ad, e, hlt, h0, h1⟩ := h j k hj
  exact ⟨ad, e, hlt, (hb.cell (p := ad.add (j * 2)) hlt).trans h0, (hb.cell (p := ⟨(ad.add (j * 2)).block, _, none⟩) hlt).trans h1⟩
/-- What holds of a world within the loop. -/
structure LT (w0 w : World) (m gH cH gT cT : Nat) (h : Hst) (v : Value) (d : List ByteArray) (u : Value) (e : List Bool) : Prop where
  hist : HS w w0.heap.size m gH cH gT cT h.hl h.tl (h.sel : Int)
  row : w.ownsRow w0.heap.size 9 1 v d.length (d.map Value.string)
  flags : w.ownsRow w0.heap.size 4 1 u e.length (e.map Value.bool)
  apart : ∀ k, v.ownBlock = some k → k ≠ gH ∧ k ≠ gT
  below : Below w0.heap.size w0 w
section
variable {w0 w w1 w4 : World} {m gH cH gT cT gH' cH' gT' cT' g g' cap : Nat} {h h' : Hst} {v u : Value} {d : List ByteArray} {e : List Bool} {o : Obj} {x : ByteArray} {b : Bool}
theorem LT.stays (L : LT w0 w m gH cH gT cT h v d u e) (hb : Below w.heap.size w w1) : LT w0 w1 m gH cH gT cT h v d u e :=
  ⟨L.hist.stays hb, own_move L.row (fun k hk => hb.block k (World.ownsRow.lt L.row k hk).2), own_move L.flags (fun k hk => hb.block k (World.ownsRow.lt L.flags k hk).2), L.apart, L.below.trans (hb.mono L.below.size)⟩
theorem own_type {w : World} {N : Nat} {ty : TypeId} {v : Value} {n : Nat} {xs : List Value} (h : w.ownsRow N ty 1 v n xs) (k : Nat) (hk : v.ownBlock = some k) : ∃ cs, w.heap[k]? = some (.cells cs ty (0, 0)) := by
  rcases h.2 with ⟨rfl, _⟩ | ⟨g, cap, cur, rfl, hb, hh, _⟩
  · simp [Value.ownBlock] at hk
  · have : g = k := by simpa [Value.ownBlock] using hk
    subst this
    exact ⟨cur, hh⟩
theorem type_ne {w : World} {i j : Nat} {c1 c2 : Array Value} {t1 t2 : TypeId} (h1 : w.heap[i]? = some (.cells c1 t1 (0, 0))) (h2 : w.heap[j]? = some (.cells c2 t2 (0, 0))) (ht : t1 ≠ t2) : i ≠ j := by
  rintro rfl
  have e := h1.symm.trans h2
  injection e with e; injection e with _ e
  exact ht e
/-- A step of the history. -/
theorem LT.step (L : LT w0 w m gH cH gT cT h v d u e) (hH : HS w1 w0.heap.size m gH' cH' gT' cT' h'.hl h'.tl (h'.sel : Int)) (hO : Only w0.heap.size m g w w1) (hg : g = gH ∨ g = gT ∨ g = m) (h1 : gH' = gH ∨ w.heap.size ≤ gH') (h2 : gT' = gT ∨ w.heap.size ≤ gT') : LT w0 w1 m gH' cH' gT' cT' h' v d u e := by
  obtain ⟨cH1, eH⟩ := L.hist.2.1.block
  obtain ⟨cT1, eT⟩ := L.hist.2.2.1.block
  have eM : w.heap[m]? = _ := L.hist.1
  have hz := L.hist.size
  refine ⟨hH, own_move L.row (fun k hk => ?_), own_move L.flags (fun k hk => ?_), fun k hk => ?_, L.below.trans hO.1⟩
  · obtain ⟨cs, ek⟩ := own_type L.row k hk
    have a := L.apart k hk
    have b := type_ne ek eM (by decide)
    exact hO.2 k (World.ownsRow.lt L.row k hk).2 b (by rcases hg with rfl | rfl | rfl <;> first | exact a.1 | exact a.2 | exact b)
  · obtain ⟨cs, ek⟩ := own_type L.flags k hk
    have b := type_ne ek eM (by decide)
    exact hO.2 k (World.ownsRow.lt L.flags k hk).2 b (by rcases hg with rfl | rfl | rfl <;> first | exact type_ne ek eH (by decide) | exact type_ne ek eT (by decide) | exact b)
  · have a := L.apart k hk
    have b := (World.ownsRow.lt L.row k hk).2
    omega
/-- A text more that is told. -/
theorem LT.push (L : LT w0 w m gH cH gT cT h v d u e) (hg : (w.alloc o).grownBy w4 v.ownBlock) (ho : w4.ownsRow w0.heap.size 9 1 (Sl g' (d.length + 1) cap) (d.length + 1) (d.map Value.string ++ [.string x])) (hat : v.ownBlock = some g' ∨ g' = w.heap.size + 1) : LT w0 w4 m gH cH gT cT h (Sl g' (d.length + 1) cap) (d ++ [x]) u e := by
  have hz := L.hist.size
  obtain ⟨cH1, eH⟩ := L.hist.2.1.block
  obtain ⟨cT1, eT⟩ := L.hist.2.2.1.block
  have eM : w.heap[m]? = _ := L.hist.1
  have hk : ∀ k, k < w.heap.size → (∀ k', v.ownBlock = some k' → k ≠ k') → w4.heap[k]? = w.heap[k]? := fun k hk hne => (hg.block k (by simp; omega) (by intro e; exact hne k e.symm rfl)).trans (Below.heap_alloc w o k hk)
  refine ⟨L.hist.move (hk m hz.2.1 fun k e1 => ?_) (hk gH hz.2.2.1 fun k e1 => (L.apart k e1).1.symm) (hk gT hz.2.2.2.1 fun k e1 => (L.apart k e1).2.symm), by rw [List.length_append, List.map_append]; exact ho, own_move L.flags (fun k e1 => hk k (World.ownsRow.lt L.flags k e1).2 fun k' e2 => ?_), fun k e1 => ?_, ?_⟩
  · obtain ⟨cs, ek⟩ := own_type L.row k e1
    exact (type_ne ek eM (by decide)).symm
  · obtain ⟨cs, ek⟩ := own_type L.flags k e1
    obtain ⟨cs2, ek2⟩ := own_type L.row k' e2
    exact type_ne ek ek2 (by decide)
  · have e2 : g' = k := by simpa [Value.ownBlock, Sl] using e1
    subst e2
    rcases hat with e3 | e3
    · exact L.apart _ e3
    · omega
  · exact (L.below.alloc L.below.size o).trans ⟨hg.os, hg.tape, hg.output, hg.size, fun k hk' => hg.block k (by have := L.below.size; simp; omega) (by intro e; have := (World.ownsRow.lt L.row k e.symm).1; omega)⟩
/-- A flag more that is told. -/
theorem LT.flag (L : LT w0 w m gH cH gT cT h v d u e) (hg : (w.alloc o).grownBy w4 u.ownBlock) (ho : w4.ownsRow w0.heap.size 4 1 (Sl g' (e.length + 1) cap) (e.length + 1) (e.map Value.bool ++ [.bool b])) : LT w0 w4 m gH cH gT cT h v d (Sl g' (e.length + 1) cap) (e ++ [b]) := by
  have hz := L.hist.size
  obtain ⟨cH1, eH⟩ := L.hist.2.1.block
  obtain ⟨cT1, eT⟩ := L.hist.2.2.1.block
  have eM : w.heap[m]? = _ := L.hist.1
  have hk : ∀ k c t, k < w.heap.size → w.heap[k]? = some (.cells c t (0, 0)) → t ≠ 4 → w4.heap[k]? = w.heap[k]? := fun k c t hk e1 ht => (hg.block k (by simp; omega) (by
    intro e2
    obtain ⟨cs, ek⟩ := own_type L.flags k e2.symm
    exact type_ne e1 ek ht rfl)).trans (Below.heap_alloc w o k hk)
  refine ⟨L.hist.move (hk m _ _ hz.2.1 eM (by decide)) (hk gH _ _ hz.2.2.1 eH (by decide)) (hk gT _ _ hz.2.2.2.1 eT (by decide)), own_move L.row (fun k e1 => ?_), by rw [List.length_append, List.map_append]; exact ho, L.apart, ?_⟩
  · obtain ⟨cs, ek⟩ := own_type L.row k e1
    exact hk k _ _ (World.ownsRow.lt L.row k e1).2 ek (by decide)
  · exact (L.below.alloc L.below.size o).trans ⟨hg.os, hg.tape, hg.output, hg.size, fun k hk' => hg.block k (by have := L.below.size; simp; omega) (by intro e; have := (World.ownsRow.lt L.flags k e.symm).1; omega)⟩
end
set_option maxRecDepth 100000 in
set_option maxHeartbeats 16000000 in
theorem info4 : (Try.prog.info? 4).map (fun i => (i.zero, i.size, i.bytes)) = some (some (.bool false), 1, 1) := by kernel_rfl
set_option maxRecDepth 100000 in
set_option maxHeartbeats 16000000 in
theorem Turned_calls (A : Option Addr) (c : Nat) (l : List Tn) (w : World) (t1 : List ByteArray) (t2 : List Bool) (hl : l.length ≤ 900) (hlc : l.length ≤ c) (hK : TRd w w.heap.size A l) (ht : turns ⟨[], [⟨#[]⟩], 0⟩ l = some (t1, t2)) :
    Calls Try.prog 9 #[.slice A l.length c] w fun e w' => ∃ T1 c1 T2 c2, e = .returned (.tuple #[.slice T1 t1.length c1, .slice T2 t2.length c2]) ∧ w'.ownsRow w.heap.size 9 1 (.slice T1 t1.length c1) t1.length (t1.map Value.string) ∧ w'.ownsRow w.heap.size 4 1 (.slice T2 t2.length c2) t2.length (t2.map Value.bool) ∧ Below w.heap.size w w' := by
  obtain ⟨i0, hi, hz0, hz1, hz2⟩ := info_parts info9
  obtain ⟨j0, gi, gz0, gz1, gz2⟩ := info_parts info4
  have HI := Lib.hid (And.intro hi (And.intro hz0 (And.intro hz1 hz2)))
  have HJ := Lib.hid (And.intro gi (And.intro gz0 (And.intro gz1 gz2)))
  have HK := Lib.hid hK
  have HT := Lib.hid ht
  clear hi hz0 hz1 hz2 gi gz0 gz1 gz2 hK ht
  go_enter Try.func9, Try.ntmps9
  go_wp2_with (go_at_call 20; refine (NewHistory_calls w).mono ?_; rintro e w1 ⟨rfl, hS1, hb1⟩; have L1 := Lib.hid (show LT w w1 (w.heap.size + 2) w.heap.size 0 (w.heap.size + 1) 1 ⟨[], [⟨#[]⟩], 0⟩ (.slice none 0 0) [] (.slice none 0 0) [] from ⟨hS1, World.ownsRow_nil _ _ 9 1, World.ownsRow_nil _ _ 4 1, (fun k hk => by simp [Value.ownBlock] at hk), hb1⟩); clear hS1 hb1)
  go_loopw [2, 3, 13] (fun vt vc vi wr => ∃ (i : Nat) (hs : Hst) (gH cH gT cT : Nat) (d1 : List ByteArray) (d2 : List Bool) (T1 : Option Addr) (c1 : Nat) (T2 : Option Addr) (c2 : Nat), i ≤ l.length ∧ vt = .slice T1 d1.length c1 ∧ vc = .slice T2 d2.length c2 ∧ vi = .int .i64 i ∧ LT w wr (w.heap.size + 2) gH cH gT cT hs (.slice T1 d1.length c1) d1 (.slice T2 d2.length c2) d2 ∧ ∃ (r1 : List ByteArray) (r2 : List Bool), turns hs (l.drop i) = some (r1, r2) ∧ d1 ++ r1 = t1 ∧ d2 ++ r2 = t2 ∧ d1.length = i ∧ d2.length = i) (fun _ _ vi _ => l.length - (intOf vi).toNat)
  case atStart => exact ⟨0, ⟨[], [⟨#[]⟩], 0⟩, w.heap.size, 0, w.heap.size + 1, 1, [], [], none, 0, none, 0, Nat.zero_le _, rfl, rfl, rfl, L1.out, t1, t2, HT.out, rfl, rfl, rfl, rfl⟩
  case round =>
    obtain ⟨i, hs, gH, cH, gT, cT, d1, d2, T1, c1, T2, c2, hil, rfl, rfl, rfl, hLT, r1, r2, hr, hd1, hd2, hn1, hn2⟩ := hrel
    have L := Lib.hid hLT
    have HN := Lib.hid (And.intro hn1 hn2)
    have hb1 : d1.length ≤ 900 := by omega
    have hb2 : d2.length ≤ 900 := by omega
    clear hn1 hn2
    by_cases hlt : i < l.length
    · obtain ⟨ad, rfl, hadl, e0, e1⟩ := (HK.out.below hLT.below) i l[i] (List.getElem?_eq_getElem hlt)
      have hd : l.drop i = l[i] :: l.drop (i + 1) := List.drop_eq_getElem_cons hlt
      rw [hd] at hr
      obtain ⟨p, hp, hr⟩ := Option.bind_eq_some_iff.1 hr
      obtain ⟨q, hq, hr⟩ := Option.bind_eq_some_iff.1 hr
      have hr := Option.some.inj hr
      simp only [Prod.mk.injEq] at hr
      obtain ⟨rfl, rfl⟩ := hr
      clear hd
      generalize l[i] = k at *
      obtain ⟨op, text⟩ := k
      dsimp only at e0 e1 hp
      unfold turn1 at hp
      by_cases hc : hs.hl.length ≤ 900 ∧ hs.sel < hs.tl.length ∧ hs.tl.length ≤ 1000
      · rw [if_pos hc] at hp
        obtain ⟨hc1, hc2, hc3⟩ := hc
        have hT0 := hLT
        clear hLT
        have nb0 := Rec.new wr [.int .i64 op, .string text] 27
        have n0 := nb0.cell 0 rfl
        have n1 := nb0.cell 1 rfl
        clear nb0
        by_cases o1 : op = 1
        · subst o1
          rw [if_pos rfl] at hp
          obtain rfl := Option.some.inj hp
          clear hp
          have HQ := Lib.hid (And.intro hq (And.intro hd1 hd2))
          clear hq hd1 hd2
          clear hT0
          go_wp2_with (first
            | (go_at_call 21; refine (BufferAt_calls text 0 (Int.le_refl 0) (wr.alloc (.cells #[.int .i64 1, .string text] 27))).mono ?_; rintro e w2 ⟨rfl, hB2, hb2⟩; have hB2s : BS w2 (wr.heap.size + 1) (wr.heap.size + 1 + 1) (wr.heap.size + 1) text 0 (-1) := (by simpa using hB2); have nb2 := (Rec.new wr [.int .i64 1, .string text] 27).stays hb2; have k0 := nb2.cell 0 rfl; have k1 := nb2.cell 1 rfl; have L2 := Lib.hid (((L.out.stays ((Below.refl _ _).alloc (Nat.le_refl _) (.cells #[.int .i64 1, .string text] 27)))).stays hb2); have HB2 := Lib.hid hB2s; clear hB2 hB2s hb2 nb2)
            | (go_at_call 22; refine (Add_calls L2.out.hist (by omega) text).mono ?_; rintro e wK ⟨rfl, gH', cH', gT', cT', hS, hg1, hg2, hO⟩; have LK := Lib.hid (L2.out.step (h' := ⟨hs.hl ++ [text], hs.hl ++ [text] ++ [⟨#[]⟩], (hs.hl ++ [text]).length⟩) hS hO (.inl rfl) hg1 (.inr hg2)); clear hS hg1 hg2 hO)
            | (at_builtin; refine wpList_append_lies _ rfl (.tmp 52) (.tmp 54) _ rfl w.heap.size 9 i0 (.string ⟨#[]⟩) 1 16 Try.underlying22 HI.out.1 HI.out.2.1 HI.out.2.2.1 HI.out.2.2.2 rfl (by omega) (.slice T1 d1.length c1) d1.length (d1.map Value.string) rfl (World.ownsRow.alloc LK.out.row _) ⟨wK.heap.size, 0, none⟩ 1 1 [.string (⟨#[]⟩ : ByteArray)] rfl rfl (cell_one_at (by simp)) (by simp [Value.oneCell']) (by omega) (by unfold maxLen; omega) (by omega) (by have := LK.out.below.size; simp; omega) (wK.heap.size + 1) (by simp) ?_; intro g8 cap8 w8 ho8 hg8 hat8 hlt8; have LM := Lib.hid (LK.out.push hg8 ho8 hat8); clear ho8 hg8 hat8)
            | (at_builtin; refine wpList_append_lies _ rfl (.tmp 56) (.tmp 58) _ rfl w.heap.size 4 j0 (.bool false) 1 1 Try.underlying28 HJ.out.1 HJ.out.2.1 HJ.out.2.2.1 HJ.out.2.2.2 rfl (by omega) (.slice T2 d2.length c2) d2.length (d2.map Value.bool) rfl (World.ownsRow.alloc LM.out.flags _) ⟨w8.heap.size, 0, none⟩ 1 1 [.bool false] rfl rfl (cell_one_at (by simp)) (by simp [Value.oneCell']) (by omega) (by unfold maxLen; omega) (by omega) (by have := LM.out.below.size; simp; omega) (w8.heap.size + 1) (by simp) ?_; intro g9 cap9 w9 ho9 hg9 hat9 hlt9; have LN := Lib.hid (LM.out.flag hg9 ho9); clear ho9 hg9 hat9))
          have hln := (show (d1 ++ [(⟨#[]⟩ : ByteArray)]).length = d1.length + 1 by simp)
          have hle := (show (d2 ++ [false]).length = d2.length + 1 by simp)
          have HLN := Lib.hid (And.intro hln hle)
          clear hln hle
          go_roundw
          case rel => exact ⟨i + 1, ⟨hs.hl ++ [text], hs.hl ++ [text] ++ [⟨#[]⟩], (hs.hl ++ [text]).length⟩, _, _, _, _, d1 ++ [(⟨#[]⟩ : ByteArray)], d2 ++ [false], some ⟨g8, 0, none⟩, cap8, some ⟨g9, 0, none⟩, cap9, by omega, by rw [HLN.out.1], by rw [HLN.out.2], by go_num, by rw [HLN.out.1, HLN.out.2]; exact LN.out, q.1, q.2, HQ.out.1, by rw [← HQ.out.2.1]; simp, by rw [← HQ.out.2.2]; simp, by rw [HLN.out.1, HN.out.1], by rw [HLN.out.2, HN.out.2]⟩
          case measure => simp only [intOf]; omega
        rw [if_neg o1] at hp
        by_cases o4 : op = 4
        · subst o4
          rw [if_pos rfl] at hp
          obtain rfl := Option.some.inj hp
          clear hp
          have HQ := Lib.hid (And.intro hq (And.intro hd1 hd2))
          clear hq hd1 hd2
          clear hT0
          go_wp2_with (first
            | (go_at_call 21; refine (BufferAt_calls text 0 (Int.le_refl 0) (wr.alloc (.cells #[.int .i64 4, .string text] 27))).mono ?_; rintro e w2 ⟨rfl, hB2, hb2⟩; have hB2s : BS w2 (wr.heap.size + 1) (wr.heap.size + 1 + 1) (wr.heap.size + 1) text 0 (-1) := (by simpa using hB2); have nb2 := (Rec.new wr [.int .i64 4, .string text] 27).stays hb2; have k0 := nb2.cell 0 rfl; have k1 := nb2.cell 1 rfl; have L2 := Lib.hid (((L.out.stays ((Below.refl _ _).alloc (Nat.le_refl _) (.cells #[.int .i64 4, .string text] 27)))).stays hb2); have HB2 := Lib.hid hB2s; clear hB2 hB2s hb2 nb2)
            | (go_at_call 23; refine (Clear_calls L2.out.hist (by omega)).mono ?_; rintro e wK ⟨rfl, gT', cT', hS, hg2, hO⟩; have LK := Lib.hid (L2.out.step (h' := ⟨hs.hl, hs.hl ++ [⟨#[]⟩], hs.hl.length⟩) hS hO (.inr (.inr rfl)) (.inl rfl) (.inr hg2)); clear hS hg2 hO)
            | (at_builtin; refine wpList_append_lies _ rfl (.tmp 52) (.tmp 54) _ rfl w.heap.size 9 i0 (.string ⟨#[]⟩) 1 16 Try.underlying22 HI.out.1 HI.out.2.1 HI.out.2.2.1 HI.out.2.2.2 rfl (by omega) (.slice T1 d1.length c1) d1.length (d1.map Value.string) rfl (World.ownsRow.alloc LK.out.row _) ⟨wK.heap.size, 0, none⟩ 1 1 [.string (⟨#[]⟩ : ByteArray)] rfl rfl (cell_one_at (by simp)) (by simp [Value.oneCell']) (by omega) (by unfold maxLen; omega) (by omega) (by have := LK.out.below.size; simp; omega) (wK.heap.size + 1) (by simp) ?_; intro g8 cap8 w8 ho8 hg8 hat8 hlt8; have LM := Lib.hid (LK.out.push hg8 ho8 hat8); clear ho8 hg8 hat8)
            | (at_builtin; refine wpList_append_lies _ rfl (.tmp 56) (.tmp 58) _ rfl w.heap.size 4 j0 (.bool false) 1 1 Try.underlying28 HJ.out.1 HJ.out.2.1 HJ.out.2.2.1 HJ.out.2.2.2 rfl (by omega) (.slice T2 d2.length c2) d2.length (d2.map Value.bool) rfl (World.ownsRow.alloc LM.out.flags _) ⟨w8.heap.size, 0, none⟩ 1 1 [.bool false] rfl rfl (cell_one_at (by simp)) (by simp [Value.oneCell']) (by omega) (by unfold maxLen; omega) (by omega) (by have := LM.out.below.size; simp; omega) (w8.heap.size + 1) (by simp) ?_; intro g9 cap9 w9 ho9 hg9 hat9 hlt9; have LN := Lib.hid (LM.out.flag hg9 ho9); clear ho9 hg9 hat9))
          have hln := (show (d1 ++ [(⟨#[]⟩ : ByteArray)]).length = d1.length + 1 by simp)
          have hle := (show (d2 ++ [false]).length = d2.length + 1 by simp)
          have HLN := Lib.hid (And.intro hln hle)
          clear hln hle
          go_roundw
          case rel => exact ⟨i + 1, ⟨hs.hl, hs.hl ++ [⟨#[]⟩], hs.hl.length⟩, _, _, _, _, d1 ++ [(⟨#[]⟩ : ByteArray)], d2 ++ [false], some ⟨g8, 0, none⟩, cap8, some ⟨g9, 0, none⟩, cap9, by omega, by rw [HLN.out.1], by rw [HLN.out.2], by go_num, by rw [HLN.out.1, HLN.out.2]; exact LN.out, q.1, q.2, HQ.out.1, by rw [← HQ.out.2.1]; simp, by rw [← HQ.out.2.2]; simp, by rw [HLN.out.1, HN.out.1], by rw [HLN.out.2, HN.out.2]⟩
          case measure => simp only [intOf]; omega
        rw [if_neg o4] at hp
        by_cases o2 : op = 2
        · subst o2
          rw [if_pos rfl] at hp
          by_cases hx : hs.tl.length = 1 ∨ hs.sel = 0
          · rw [if_pos hx] at hp
            obtain rfl := Option.some.inj hp
            clear hp
            have HX := Lib.hid hx
            have HQ := Lib.hid (And.intro hq (And.intro hd1 hd2))
            clear hq hd1 hd2 hx
            clear hT0
            go_wp2_with (first
              | (go_at_call 21; refine (BufferAt_calls text 0 (Int.le_refl 0) (wr.alloc (.cells #[.int .i64 2, .string text] 27))).mono ?_; rintro e w2 ⟨rfl, hB2, hb2⟩; have hB2s : BS w2 (wr.heap.size + 1) (wr.heap.size + 1 + 1) (wr.heap.size + 1) text 0 (-1) := (by simpa using hB2); have nb2 := (Rec.new wr [.int .i64 2, .string text] 27).stays hb2; have k0 := nb2.cell 0 rfl; have k1 := nb2.cell 1 rfl; have L2 := Lib.hid (((L.out.stays ((Below.refl _ _).alloc (Nat.le_refl _) (.cells #[.int .i64 2, .string text] 27)))).stays hb2); have HB2 := Lib.hid hB2s; clear hB2 hB2s hb2 nb2)
              | (go_at_call 24; refine (OlderNot_calls L2.out.hist (by omega) (by omega) (HX.out)).mono ?_; rintro e w5 ⟨rfl, n5, hw5⟩; have L5 := Lib.hid (L2.out.stays (hw5 ▸ pw_below_drewN (Below.refl _ _) n5)); have HB5 := Lib.hid (HB2.out.below (hw5 ▸ pw_below_drewN (Below.refl _ _) n5)); clear hw5)
              | (go_at_call 25; refine (Text_calls HB5.out).mono ?_; rintro e wK ⟨rfl, n6, hw6⟩; have LK := Lib.hid (L5.out.stays (hw6 ▸ pw_below_drewN (Below.refl _ _) n6)); clear hw6)
              | (at_builtin; refine wpList_append_lies _ rfl (.tmp 52) (.tmp 54) _ rfl w.heap.size 9 i0 (.string ⟨#[]⟩) 1 16 Try.underlying22 HI.out.1 HI.out.2.1 HI.out.2.2.1 HI.out.2.2.2 rfl (by omega) (.slice T1 d1.length c1) d1.length (d1.map Value.string) rfl (World.ownsRow.alloc LK.out.row _) ⟨wK.heap.size, 0, none⟩ 1 1 [.string text] rfl rfl (cell_one_at (by simp)) (by simp [Value.oneCell']) (by omega) (by unfold maxLen; omega) (by omega) (by have := LK.out.below.size; simp; omega) (wK.heap.size + 1) (by simp) ?_; intro g8 cap8 w8 ho8 hg8 hat8 hlt8; have LM := Lib.hid (LK.out.push hg8 ho8 hat8); clear ho8 hg8 hat8)
              | (at_builtin; refine wpList_append_lies _ rfl (.tmp 56) (.tmp 58) _ rfl w.heap.size 4 j0 (.bool false) 1 1 Try.underlying28 HJ.out.1 HJ.out.2.1 HJ.out.2.2.1 HJ.out.2.2.2 rfl (by omega) (.slice T2 d2.length c2) d2.length (d2.map Value.bool) rfl (World.ownsRow.alloc LM.out.flags _) ⟨w8.heap.size, 0, none⟩ 1 1 [.bool false] rfl rfl (cell_one_at (by simp)) (by simp [Value.oneCell']) (by omega) (by unfold maxLen; omega) (by omega) (by have := LM.out.below.size; simp; omega) (w8.heap.size + 1) (by simp) ?_; intro g9 cap9 w9 ho9 hg9 hat9 hlt9; have LN := Lib.hid (LM.out.flag hg9 ho9); clear ho9 hg9 hat9))
            have hln := (show (d1 ++ [text]).length = d1.length + 1 by simp)
            have hle := (show (d2 ++ [false]).length = d2.length + 1 by simp)
            have HLN := Lib.hid (And.intro hln hle)
            clear hln hle
            go_roundw
            case rel => exact ⟨i + 1, hs, _, _, _, _, d1 ++ [text], d2 ++ [false], some ⟨g8, 0, none⟩, cap8, some ⟨g9, 0, none⟩, cap9, by omega, by rw [HLN.out.1], by rw [HLN.out.2], by go_num, by rw [HLN.out.1, HLN.out.2]; exact LN.out, q.1, q.2, HQ.out.1, by rw [← HQ.out.2.1]; simp, by rw [← HQ.out.2.2]; simp, by rw [HLN.out.1, HN.out.1], by rw [HLN.out.2, HN.out.2]⟩
            case measure => simp only [intOf]; omega
          · rw [if_neg hx] at hp
            unfold goTo at hp
            have hlt1 : hs.sel - 1 < hs.tl.length := by omega
            cases hy : hs.tl[hs.sel - 1]? with
            | none => rw [hy] at hp; cases hp
            | some y =>
              rw [hy] at hp
              dsimp only at hp
              by_cases hya : Asc y ∧ y.size ≤ 1000000
              · rw [if_pos hya] at hp
                obtain rfl := Option.some.inj hp
                have hYA := Lib.hid hya
                have HX := Lib.hid hx
                have HQ := Lib.hid (And.intro hq (And.intro hd1 hd2))
                clear hq hd1 hd2 hx hp hya
                clear hT0
                go_wp2_with (first
                  | (go_at_call 21; refine (BufferAt_calls text 0 (Int.le_refl 0) (wr.alloc (.cells #[.int .i64 2, .string text] 27))).mono ?_; rintro e w2 ⟨rfl, hB2, hb2⟩; have hB2s : BS w2 (wr.heap.size + 1) (wr.heap.size + 1 + 1) (wr.heap.size + 1) text 0 (-1) := (by simpa using hB2); have nb2 := (Rec.new wr [.int .i64 2, .string text] 27).stays hb2; have k0 := nb2.cell 0 rfl; have k1 := nb2.cell 1 rfl; have L2 := Lib.hid (((L.out.stays ((Below.refl _ _).alloc (Nat.le_refl _) (.cells #[.int .i64 2, .string text] 27)))).stays hb2); have HB2 := Lib.hid hB2s; clear hB2 hB2s hb2 nb2)
                  | (go_at_call 24; refine (Older_calls L2.out.hist HB2.out (by omega) (by omega) (by have := HX.out; omega) hlt1 hy hYA.out.1 hYA.out.2).mono ?_; rintro e w5 ⟨B5, m5, g5, p5, q5, rfl, hB5, hS, hO⟩; have L5 := Lib.hid (L2.out.step (h' := ⟨hs.hl, hs.tl.set hs.sel text, hs.sel - 1⟩) hS hO (.inr (.inl rfl)) (.inl rfl) (.inl rfl)); have HB5 := Lib.hid hB5; clear hS hO hB5)
                  | (go_at_call 25; refine (Text_calls HB5.out).mono ?_; rintro e wK ⟨rfl, n6, hw6⟩; have LK := Lib.hid (L5.out.stays (hw6 ▸ pw_below_drewN (Below.refl _ _) n6)); clear hw6)
                  | (at_builtin; refine wpList_append_lies _ rfl (.tmp 52) (.tmp 54) _ rfl w.heap.size 9 i0 (.string ⟨#[]⟩) 1 16 Try.underlying22 HI.out.1 HI.out.2.1 HI.out.2.2.1 HI.out.2.2.2 rfl (by omega) (.slice T1 d1.length c1) d1.length (d1.map Value.string) rfl (World.ownsRow.alloc LK.out.row _) ⟨wK.heap.size, 0, none⟩ 1 1 [.string y] rfl rfl (cell_one_at (by simp)) (by simp [Value.oneCell']) (by omega) (by unfold maxLen; omega) (by omega) (by have := LK.out.below.size; simp; omega) (wK.heap.size + 1) (by simp) ?_; intro g8 cap8 w8 ho8 hg8 hat8 hlt8; have LM := Lib.hid (LK.out.push hg8 ho8 hat8); clear ho8 hg8 hat8)
                  | (at_builtin; refine wpList_append_lies _ rfl (.tmp 56) (.tmp 58) _ rfl w.heap.size 4 j0 (.bool false) 1 1 Try.underlying28 HJ.out.1 HJ.out.2.1 HJ.out.2.2.1 HJ.out.2.2.2 rfl (by omega) (.slice T2 d2.length c2) d2.length (d2.map Value.bool) rfl (World.ownsRow.alloc LM.out.flags _) ⟨w8.heap.size, 0, none⟩ 1 1 [.bool true] rfl rfl (cell_one_at (by simp)) (by simp [Value.oneCell']) (by omega) (by unfold maxLen; omega) (by omega) (by have := LM.out.below.size; simp; omega) (w8.heap.size + 1) (by simp) ?_; intro g9 cap9 w9 ho9 hg9 hat9 hlt9; have LN := Lib.hid (LM.out.flag hg9 ho9); clear ho9 hg9 hat9))
                have hln := (show (d1 ++ [y]).length = d1.length + 1 by simp)
                have hle := (show (d2 ++ [true]).length = d2.length + 1 by simp)
                have HLN := Lib.hid (And.intro hln hle)
                clear hln hle
                go_roundw
                case rel => exact ⟨i + 1, ⟨hs.hl, hs.tl.set hs.sel text, hs.sel - 1⟩, _, _, _, _, d1 ++ [y], d2 ++ [true], some ⟨g8, 0, none⟩, cap8, some ⟨g9, 0, none⟩, cap9, by omega, by rw [HLN.out.1], by rw [HLN.out.2], by go_num, by rw [HLN.out.1, HLN.out.2]; exact LN.out, q.1, q.2, HQ.out.1, by rw [← HQ.out.2.1]; simp, by rw [← HQ.out.2.2]; simp, by rw [HLN.out.1, HN.out.1], by rw [HLN.out.2, HN.out.2]⟩
                case measure => simp only [intOf]; omega
              · rw [if_neg hya] at hp; cases hp
        rw [if_neg o2] at hp
        by_cases o3 : op = 3
        · subst o3
          rw [if_pos rfl] at hp
          by_cases hx : hs.tl.length ≤ hs.sel + 1
          · rw [if_pos hx] at hp
            obtain rfl := Option.some.inj hp
            clear hp
            have HX := Lib.hid hx
            have HQ := Lib.hid (And.intro hq (And.intro hd1 hd2))
            clear hq hd1 hd2 hx
            clear hT0
            go_wp2_with (first
              | (go_at_call 21; refine (BufferAt_calls text 0 (Int.le_refl 0) (wr.alloc (.cells #[.int .i64 3, .string text] 27))).mono ?_; rintro e w2 ⟨rfl, hB2, hb2⟩; have hB2s : BS w2 (wr.heap.size + 1) (wr.heap.size + 1 + 1) (wr.heap.size + 1) text 0 (-1) := (by simpa using hB2); have nb2 := (Rec.new wr [.int .i64 3, .string text] 27).stays hb2; have k0 := nb2.cell 0 rfl; have k1 := nb2.cell 1 rfl; have L2 := Lib.hid (((L.out.stays ((Below.refl _ _).alloc (Nat.le_refl _) (.cells #[.int .i64 3, .string text] 27)))).stays hb2); have HB2 := Lib.hid hB2s; clear hB2 hB2s hb2 nb2)
              | (go_at_call 26; refine (NewerNot_calls L2.out.hist (by omega) (by omega) (HX.out)).mono ?_; rintro e w5 ⟨rfl, n5, hw5⟩; have L5 := Lib.hid (L2.out.stays (hw5 ▸ pw_below_drewN (Below.refl _ _) n5)); have HB5 := Lib.hid (HB2.out.below (hw5 ▸ pw_below_drewN (Below.refl _ _) n5)); clear hw5)
              | (go_at_call 25; refine (Text_calls HB5.out).mono ?_; rintro e wK ⟨rfl, n6, hw6⟩; have LK := Lib.hid (L5.out.stays (hw6 ▸ pw_below_drewN (Below.refl _ _) n6)); clear hw6)
              | (at_builtin; refine wpList_append_lies _ rfl (.tmp 52) (.tmp 54) _ rfl w.heap.size 9 i0 (.string ⟨#[]⟩) 1 16 Try.underlying22 HI.out.1 HI.out.2.1 HI.out.2.2.1 HI.out.2.2.2 rfl (by omega) (.slice T1 d1.length c1) d1.length (d1.map Value.string) rfl (World.ownsRow.alloc LK.out.row _) ⟨wK.heap.size, 0, none⟩ 1 1 [.string text] rfl rfl (cell_one_at (by simp)) (by simp [Value.oneCell']) (by omega) (by unfold maxLen; omega) (by omega) (by have := LK.out.below.size; simp; omega) (wK.heap.size + 1) (by simp) ?_; intro g8 cap8 w8 ho8 hg8 hat8 hlt8; have LM := Lib.hid (LK.out.push hg8 ho8 hat8); clear ho8 hg8 hat8)
              | (at_builtin; refine wpList_append_lies _ rfl (.tmp 56) (.tmp 58) _ rfl w.heap.size 4 j0 (.bool false) 1 1 Try.underlying28 HJ.out.1 HJ.out.2.1 HJ.out.2.2.1 HJ.out.2.2.2 rfl (by omega) (.slice T2 d2.length c2) d2.length (d2.map Value.bool) rfl (World.ownsRow.alloc LM.out.flags _) ⟨w8.heap.size, 0, none⟩ 1 1 [.bool false] rfl rfl (cell_one_at (by simp)) (by simp [Value.oneCell']) (by omega) (by unfold maxLen; omega) (by omega) (by have := LM.out.below.size; simp; omega) (w8.heap.size + 1) (by simp) ?_; intro g9 cap9 w9 ho9 hg9 hat9 hlt9; have LN := Lib.hid (LM.out.flag hg9 ho9); clear ho9 hg9 hat9))
            have hln := (show (d1 ++ [text]).length = d1.length + 1 by simp)
            have hle := (show (d2 ++ [false]).length = d2.length + 1 by simp)
            have HLN := Lib.hid (And.intro hln hle)
            clear hln hle
            go_roundw
            case rel => exact ⟨i + 1, hs, _, _, _, _, d1 ++ [text], d2 ++ [false], some ⟨g8, 0, none⟩, cap8, some ⟨g9, 0, none⟩, cap9, by omega, by rw [HLN.out.1], by rw [HLN.out.2], by go_num, by rw [HLN.out.1, HLN.out.2]; exact LN.out, q.1, q.2, HQ.out.1, by rw [← HQ.out.2.1]; simp, by rw [← HQ.out.2.2]; simp, by rw [HLN.out.1, HN.out.1], by rw [HLN.out.2, HN.out.2]⟩
            case measure => simp only [intOf]; omega
          · rw [if_neg hx] at hp
            unfold goTo at hp
            have hlt1 : hs.sel + 1 < hs.tl.length := by omega
            cases hy : hs.tl[hs.sel + 1]? with
            | none => rw [hy] at hp; cases hp
            | some y =>
              rw [hy] at hp
              dsimp only at hp
              by_cases hya : Asc y ∧ y.size ≤ 1000000
              · rw [if_pos hya] at hp
                obtain rfl := Option.some.inj hp
                have hYA := Lib.hid hya
                have HX := Lib.hid hx
                have HQ := Lib.hid (And.intro hq (And.intro hd1 hd2))
                clear hq hd1 hd2 hx hp hya
                clear hT0
                go_wp2_with (first
                  | (go_at_call 21; refine (BufferAt_calls text 0 (Int.le_refl 0) (wr.alloc (.cells #[.int .i64 3, .string text] 27))).mono ?_; rintro e w2 ⟨rfl, hB2, hb2⟩; have hB2s : BS w2 (wr.heap.size + 1) (wr.heap.size + 1 + 1) (wr.heap.size + 1) text 0 (-1) := (by simpa using hB2); have nb2 := (Rec.new wr [.int .i64 3, .string text] 27).stays hb2; have k0 := nb2.cell 0 rfl; have k1 := nb2.cell 1 rfl; have L2 := Lib.hid (((L.out.stays ((Below.refl _ _).alloc (Nat.le_refl _) (.cells #[.int .i64 3, .string text] 27)))).stays hb2); have HB2 := Lib.hid hB2s; clear hB2 hB2s hb2 nb2)
                  | (go_at_call 26; refine (Newer_calls L2.out.hist HB2.out (by omega) (by omega) (rfl) hlt1 hy hYA.out.1 hYA.out.2).mono ?_; rintro e w5 ⟨B5, m5, g5, p5, q5, rfl, hB5, hS, hO⟩; have L5 := Lib.hid (L2.out.step (h' := ⟨hs.hl, hs.tl.set hs.sel text, hs.sel + 1⟩) hS hO (.inr (.inl rfl)) (.inl rfl) (.inl rfl)); have HB5 := Lib.hid hB5; clear hS hO hB5)
                  | (go_at_call 25; refine (Text_calls HB5.out).mono ?_; rintro e wK ⟨rfl, n6, hw6⟩; have LK := Lib.hid (L5.out.stays (hw6 ▸ pw_below_drewN (Below.refl _ _) n6)); clear hw6)
                  | (at_builtin; refine wpList_append_lies _ rfl (.tmp 52) (.tmp 54) _ rfl w.heap.size 9 i0 (.string ⟨#[]⟩) 1 16 Try.underlying22 HI.out.1 HI.out.2.1 HI.out.2.2.1 HI.out.2.2.2 rfl (by omega) (.slice T1 d1.length c1) d1.length (d1.map Value.string) rfl (World.ownsRow.alloc LK.out.row _) ⟨wK.heap.size, 0, none⟩ 1 1 [.string y] rfl rfl (cell_one_at (by simp)) (by simp [Value.oneCell']) (by omega) (by unfold maxLen; omega) (by omega) (by have := LK.out.below.size; simp; omega) (wK.heap.size + 1) (by simp) ?_; intro g8 cap8 w8 ho8 hg8 hat8 hlt8; have LM := Lib.hid (LK.out.push hg8 ho8 hat8); clear ho8 hg8 hat8)
                  | (at_builtin; refine wpList_append_lies _ rfl (.tmp 56) (.tmp 58) _ rfl w.heap.size 4 j0 (.bool false) 1 1 Try.underlying28 HJ.out.1 HJ.out.2.1 HJ.out.2.2.1 HJ.out.2.2.2 rfl (by omega) (.slice T2 d2.length c2) d2.length (d2.map Value.bool) rfl (World.ownsRow.alloc LM.out.flags _) ⟨w8.heap.size, 0, none⟩ 1 1 [.bool true] rfl rfl (cell_one_at (by simp)) (by simp [Value.oneCell']) (by omega) (by unfold maxLen; omega) (by omega) (by have := LM.out.below.size; simp; omega) (w8.heap.size + 1) (by simp) ?_; intro g9 cap9 w9 ho9 hg9 hat9 hlt9; have LN := Lib.hid (LM.out.flag hg9 ho9); clear ho9 hg9 hat9))
                have hln := (show (d1 ++ [y]).length = d1.length + 1 by simp)
                have hle := (show (d2 ++ [true]).length = d2.length + 1 by simp)
                have HLN := Lib.hid (And.intro hln hle)
                clear hln hle
                go_roundw
                case rel => exact ⟨i + 1, ⟨hs.hl, hs.tl.set hs.sel text, hs.sel + 1⟩, _, _, _, _, d1 ++ [y], d2 ++ [true], some ⟨g8, 0, none⟩, cap8, some ⟨g9, 0, none⟩, cap9, by omega, by rw [HLN.out.1], by rw [HLN.out.2], by go_num, by rw [HLN.out.1, HLN.out.2]; exact LN.out, q.1, q.2, HQ.out.1, by rw [← HQ.out.2.1]; simp, by rw [← HQ.out.2.2]; simp, by rw [HLN.out.1, HN.out.1], by rw [HLN.out.2, HN.out.2]⟩
                case measure => simp only [intOf]; omega
              · rw [if_neg hya] at hp; cases hp
        rw [if_neg o3] at hp
        cases hp
      · rw [if_neg hc] at hp; cases hp
    · have hE : l.drop i = [] := List.drop_eq_nil_of_le (by omega)
      rw [hE] at hr
      have hr := Option.some.inj hr
      simp only [Prod.mk.injEq] at hr
      obtain ⟨rfl, rfl⟩ := hr
      rw [List.append_nil] at hd1 hd2
      subst hd1 hd2
      clear hLT hE
      go_wp2
      go_ret2
      exact ⟨T1, c1, T2, c2, rfl, L.out.row, L.out.flags, L.out.below⟩
end Go.Proofs.Ythbdaoapjnofkaa.H
