/- What a buffer has behind a script, and what each step took out (impl.run, impl.EditedFrom): the contract by which the laws take it; of steps that fail, and of other steps than HBufS speaks of, nothing is said. -/
import Derived.Test.YtkfmjkiefckgoaaGreatDoorQHBufS
import Derived.Test.YtkfmjkiefckgoaaGreatDoorQHCaught
namespace Go.Proofs.YtkfmjkiefckgoaaGreatDoor.H
open Go.RowKit Go.Proofs.YtkfmjkiefckgoaaGreatDoorW.PrintWords Go.Proofs.YtkfmjkiefckgoaaGreatDoorW.PrintLast Go.Proofs.YtkfmjkiefckgoaaGreatDoor.R Go.Proofs.YtkfmjkiefckgoaaGreatDoor.X Go.Proofs.YtkfmjkiefckgoaaGreatDoor.PAroundOf
set_option linter.unusedVariables false
set_option linter.unusedSimpArgs false
attribute [local go_sem ↓] Go.wp_at_zero Go.wp_at_succ
theorem info9 : (Tryz.prog.info? 9).map (fun i => (i.zero, i.size, i.bytes)) = some (some (.string ⟨#[]⟩), 1, 16) := by kernel_rfl
theorem info_parts {t : TypeId} {z : Value} {n b : Nat} (h : (Tryz.prog.info? t).map (fun i => (i.zero, i.size, i.bytes)) = some (some z, n, b)) : ∃ i, Tryz.prog.info? t = some i ∧ i.zero = some z ∧ i.size = n ∧ i.bytes = b := by
  cases hi : Tryz.prog.info? t with
  | none => rw [hi] at h; cases h
  | some i =>
    rw [hi] at h
    simp only [Option.map_some, Option.some.injEq, Prod.mk.injEq] at h
    exact ⟨i, rfl, h.1, h.2.1, h.2.2⟩
/-- Behind world w0: only the blocks X of what was there are turned, none below B. -/
def FrX (B : Nat) (X : Nat → Prop) (w0 w : World) : Prop := Below B w0 w ∧ ∀ k, k < w0.heap.size → ¬ X k → w.heap[k]? = w0.heap[k]?
/-- Value v is a row of texts that was made behind N0. -/
def Strs (w : World) (N0 : Nat) (v : Value) (xs : List ByteArray) : Prop := w.ownsRow N0 9 1 v xs.length (xs.map Value.string)
section
variable {B N0 m g b : Nat} {X : Nat → Prop} {w w0 w1 w2 : World} {v u : Value} {t : TypeId} {l : List Value} {xs : List ByteArray}
theorem Strs.row (h : Strs w N0 v xs) : ∀ k, v.ownBlock = some k → N0 ≤ k ∧ k < w.heap.size := by
  intro k hk
  rcases h.2 with ⟨rfl, _⟩ | ⟨g, cap, cur, rfl, hb, hh, _⟩
  · simp [Value.ownBlock] at hk
  · have : g = k := by simpa [Value.ownBlock] using hk
    subst this
    exact ⟨hb, lt_of_block hh⟩
theorem Strs.move (h : Strs w N0 v xs) (hk : ∀ k, v.ownBlock = some k → w1.heap[k]? = w.heap[k]?) : Strs w1 N0 v xs := own_move h hk
theorem FrX.refl (B : Nat) (X : Nat → Prop) (w : World) : FrX B X w w := ⟨Below.refl _ _, fun _ _ _ => rfl⟩
theorem FrX.one (h : FrX B X w0 w) (ho : One w0 b v t) (hx : ¬ X b) : One w b v t := (h.2 b ho.lt hx).trans ho
theorem FrX.rec (h : FrX B X w0 w) (ho : Rec w0 b l t) (hx : ¬ X b) : Rec w b l t := (h.2 b ho.lt hx).trans ho
theorem FrX.alloc (h : FrX B X w0 w) (hB : B ≤ w.heap.size) (o : Obj) : FrX B X w0 (w.alloc o) := ⟨h.1.alloc hB o, fun k hk hx => (Below.heap_alloc w o k (Nat.lt_of_lt_of_le hk h.1.size)).trans (h.2 k hk hx)⟩
theorem FrX.only (h : FrX B X w0 w) (k : Only B m g w w1) (hm : X m) (hg : X g) : FrX B X w0 w1 := ⟨h.1.trans k.1, fun i hi hx => (k.2 i (Nat.lt_of_lt_of_le hi h.1.size) (fun e => hx (e ▸ hm)) (fun e => hx (e ▸ hg))).trans (h.2 i hi hx)⟩
theorem FrX.set (h : FrX B X w0 w) (hx : X b) (hB : B ≤ b) (i : Nat) (u : Value) : FrX B X w0 (w.setCell ⟨b, i, none⟩ u) := ⟨h.1.setCell hB u, fun k hk hn => (Below.heap_setCell w ⟨b, i, none⟩ u k (by rintro rfl; exact hn hx)).trans (h.2 k hk hn)⟩
theorem FrX.grown (h : FrX B X w0 w) {row : Option Nat} (hg : w.grownBy w1 row) (hr : ∀ k, row = some k → w0.heap.size ≤ k) (hB : B ≤ w0.heap.size) : FrX B X w0 w1 :=
  ⟨⟨hg.os.trans h.1.os, hg.tape.trans h.1.tape, hg.output.trans h.1.output, Nat.le_trans h.1.size hg.size, fun k hk => (hg.block k (by have := h.1.size; omega) (fun e => by have := hr k e.symm; omega)).trans (h.1.block k hk)⟩,
    fun k hk hx => (hg.block k (Nat.lt_of_lt_of_le hk h.1.size) (fun e => by have := hr k e.symm; omega)).trans (h.2 k hk hx)⟩
end
/-- A slice reads as steps. -/
def KR (w : World) (B : Nat) (A : Option Addr) (l : List Ed) : Prop := ∀ (j : Nat) (k : Ed), l[j]? = some k → ∃ ad, A = some ad ∧ (ad.add (j * 4)).block < B ∧ w.cell? (ad.add (j * 4)) = some (.int .i64 k.op) ∧ w.cell? ⟨(ad.add (j * 4)).block, (ad.add (j * 4)).off + 1, none⟩ = some (.int .i64 k.n) ∧ w.cell? ⟨(ad.add (j * 4)).block, (ad.add (j * 4)).off + 2, none⟩ = some (.string k.text) ∧ w.cell? ⟨(ad.add (j * 4)).block, (ad.add (j * 4)).off + 3, none⟩ = some (.bool k.flag)
theorem KR.below {w w1 : World} {B : Nat} {A : Option Addr} {l : List Ed} (h : KR w B A l) (hb : Below B w w1) : KR w1 B A l := fun j k hj => by
  obtain ⟨ad, e, hlt, h0, h1, h2, h3⟩ := h j k hj
  exact ⟨ad, e, hlt, (hb.cell (p := ad.add (j * 4)) hlt).trans h0, (hb.cell (p := ⟨(ad.add (j * 4)).block, _, none⟩) hlt).trans h1, (hb.cell (p := ⟨(ad.add (j * 4)).block, _, none⟩) hlt).trans h2, (hb.cell (p := ⟨(ad.add (j * 4)).block, _, none⟩) hlt).trans h3⟩
def erun (s : ES) : List Ed → Option (ES × List ByteArray)
  | [] => some (s, [])
  | k :: l => (estep s k).bind fun p => (erun p.1 l).bind fun q => some (q.1, p.2 :: q.2)
/-- The blocks that the loop turns. -/
def XS (m g f tb : Nat) (k : Nat) : Prop := k = m ∨ k = g ∨ k = f ∨ k = tb
/-- What holds of a world within the loop. -/
def LS (w0 w : World) (B a q f tb m g : Nat) (A : Option Addr) (n c : Nat) (s : ES) (v : Value) (ts : List ByteArray) : Prop :=
  One w a (.slice A n c) 24 ∧ One w q (Pt m) 49 ∧ One w f (.bool true) 4 ∧ One w tb v 27 ∧ BS w B m g s.t s.p s.q ∧ Strs w w0.heap.size v ts ∧ FrX B (XS m g f tb) w0 w
/-- The blocks are different ones, all of them were there, and none lies below B. -/
def NE (N0 B a q f tb m g : Nat) : Prop := a ≠ m ∧ q ≠ m ∧ f ≠ m ∧ tb ≠ m ∧ f ≠ tb ∧ a ≠ f ∧ a ≠ tb ∧ q ≠ f ∧ q ≠ tb ∧ B ≤ f ∧ B ≤ tb ∧ (a ≠ g ∧ q ≠ g ∧ f ≠ g ∧ tb ≠ g) ∧ (a < N0 ∧ q < N0 ∧ f < N0 ∧ tb < N0 ∧ m < N0 ∧ g < N0) ∧ B ≤ N0
theorem LS.step {w0 w w1 : World} {B a q f tb m g : Nat} {A : Option Addr} {n c : Nat} {s s1 : ES} {v : Value} {ts : List ByteArray} (h : LS w0 w B a q f tb m g A n c s v ts) (hN : NE w0.heap.size B a q f tb m g) (o : Obj)
    (hR : BS w1 B m g s1.t s1.p s1.q) (hF : Only B m g (w.alloc o) w1) : LS w0 w1 B a q f tb m g A n c s1 v ts := by
  obtain ⟨h1, h2, h3, h4, h5, h6, h7⟩ := h
  obtain ⟨n1, n2, n3, n4, n5, n6, n7, n8, n9, n10, n11, ⟨p1, p2, p3, p4⟩, ⟨z1, z2, z3, z4, z5, z6⟩, n12⟩ := hN
  have h6' : Strs (w.alloc o) w0.heap.size v ts := h6.move fun k hk => Below.heap_alloc w o k (h6.row k hk).2
  refine ⟨hF.one (h1.alloc o) n1 p1, hF.one (h2.alloc o) n2 p2, hF.one (h3.alloc o) n3 p3, hF.one (h4.alloc o) n4 p4, hR, ?_, (h7.alloc h5.lt.1 o).only hF (.inl rfl) (.inr (.inl rfl))⟩
  refine h6'.move fun k hk => hF.2 k (h6'.row k hk).2 ?_ ?_
  · have := (h6'.row k hk).1; omega
  · have := (h6'.row k hk).1; omega
theorem BS.far {w : World} {B m g : Nat} {t : ByteArray} {p q : Int} (h : BS w B m g t p q) {b : Nat} {x : Value} {ty : TypeId} (ho : One w b x ty) (hm : b ≠ m) (hg : b ≠ g) (hd : ty ≠ 67) (u : Value) : BS (w.setCell ⟨b, 0, none⟩ u) B m g t p q := by
  obtain ⟨cv, h1, h2, h3, h4, h5⟩ := h
  exact ⟨cv, h1.other (by exact Ne.symm hm) _, h2.other (by exact Ne.symm hg) _, h3.move fun d t p _ hd' => Below.heap_setCell w _ _ d (rec_ne hd' ho.rec (Ne.symm hd)), h4, h5⟩
theorem LS.setf {w0 w : World} {B a q f tb m g : Nat} {A : Option Addr} {n c : Nat} {s : ES} {v : Value} {ts : List ByteArray} (h : LS w0 w B a q f tb m g A n c s v ts) (hN : NE w0.heap.size B a q f tb m g) :
    LS w0 (w.setCell ⟨f, 0, none⟩ (.bool true)) B a q f tb m g A n c s v ts := by
  obtain ⟨h1, h2, h3, h4, h5, h6, h7⟩ := h
  obtain ⟨n1, n2, n3, n4, n5, n6, n7, n8, n9, n10, n11, ⟨p1, p2, p3, p4⟩, ⟨z1, z2, z3, z4, z5, z6⟩, n12⟩ := hN
  refine ⟨h1.other (by exact n6) _, h2.other (by exact n8) _, h3.set _, h4.other (by exact Ne.symm n5) _, h5.far h3 n3 p3 (by decide) _, ?_, h7.set (.inr (.inr (.inl rfl))) n10 _ _⟩
  refine h6.move fun k hk => Below.heap_setCell w _ _ k ?_
  have := (h6.row k hk).1
  show k ≠ f
  omega
theorem LS.box {w0 w w1 : World} {B a q f tb m g : Nat} {A : Option Addr} {n c : Nat} {s : ES} {v : Value} {ts : List ByteArray} (h : LS w0 w B a q f tb m g A n c s v ts) (hN : NE w0.heap.size B a q f tb m g) (o : Obj) (hg : (w.alloc o).grownBy w1 v.ownBlock) : One w1 tb v 27 := by
  obtain ⟨h1, h2, h3, h4, h5, h6, h7⟩ := h
  obtain ⟨n1, n2, n3, n4, n5, n6, n7, n8, n9, n10, n11, ⟨p1, p2, p3, p4⟩, ⟨z1, z2, z3, z4, z5, z6⟩, n12⟩ := hN
  exact (hg.block tb (h4.alloc o).lt (fun e => by have := (h6.row tb e.symm).1; omega)).trans (h4.alloc o)
theorem BS.grown {w w1 : World} {B m g : Nat} {t : ByteArray} {p q : Int} (h : BS w B m g t p q) {row : Option Nat} (hg : w.grownBy w1 row) (hm : some m ≠ row) (hgg : some g ≠ row) (hd : ∀ k, row = some k → ∃ cs ty, w.heap[k]? = some (.cells cs ty (0, 0)) ∧ ty ≠ 67) : BS w1 B m g t p q := by
  obtain ⟨cv, h1, h2, h3, h4, h5⟩ := h
  refine ⟨cv, (hg.block m h1.lt hm).trans h1, (hg.block g h2.lt hgg).trans h2, h3.move fun d t p _ hd' => hg.block d hd'.lt (fun e => ?_), h4, h5⟩
  obtain ⟨cs, ty, e1, e2⟩ := hd d e.symm
  rw [show w.heap[d]? = _ from hd'] at e1
  injection e1 with e1; injection e1 with _ e1
  exact e2 e1.symm
theorem LS.push {w0 w w1 : World} {B a q f tb m g : Nat} {A : Option Addr} {n c : Nat} {s : ES} {v v1 : Value} {ts ts1 : List ByteArray} (h : LS w0 w B a q f tb m g A n c s v ts) (hN : NE w0.heap.size B a q f tb m g) (o : Obj)
    (hg : (w.alloc o).grownBy w1 v.ownBlock) (ho : Strs w1 w0.heap.size v1 ts1) : LS w0 (w1.setCell ⟨tb, 0, none⟩ v1) B a q f tb m g A n c s v1 ts1 := by
  have g4 := h.box hN o hg
  obtain ⟨h1, h2, h3, h4, h5, h6, h7⟩ := h
  obtain ⟨n1, n2, n3, n4, n5, n6, n7, n8, n9, n10, n11, ⟨p1, p2, p3, p4⟩, ⟨z1, z2, z3, z4, z5, z6⟩, n12⟩ := hN
  have hne : ∀ k, k < w0.heap.size → some k ≠ v.ownBlock := fun k hk e => by have := (h6.row k e.symm).1; omega
  have h6' : Strs (w.alloc o) w0.heap.size v ts := h6.move fun k hk => Below.heap_alloc w o k (h6.row k hk).2
  have k1 : One w1 a _ _ := (hg.block a (h1.alloc o).lt (hne a z1)).trans (h1.alloc o)
  have k2 : One w1 q _ _ := (hg.block q (h2.alloc o).lt (hne q z2)).trans (h2.alloc o)
  have k3 : One w1 f _ _ := (hg.block f (h3.alloc o).lt (hne f z3)).trans (h3.alloc o)
  have k5 := (h5.alloc o).grown hg (hne m z5) (hne g z6) (fun k hk => by obtain ⟨cs, e⟩ := own_typed h6' k hk; exact ⟨cs, 9, e, by decide⟩)
  refine ⟨k1.other (by exact n7) _, k2.other (by exact n9) _, k3.other (by exact n5) _, g4.set _, k5.far g4 n4 p4 (by decide) _, ?_, ((h7.alloc h5.lt.1 o).grown hg (fun k hk => (h6.row k hk).1) n12).set (.inr (.inr (.inr rfl))) n11 _ _⟩
  refine ho.move fun k hk => Below.heap_setCell w1 _ _ k ?_
  have := (ho.row k hk).1
  show k ≠ tb
  omega
theorem cell_one_at {w : World} {x : Value} {t : TypeId} {H : Nat} (h : w.heap.size = H) : ∀ j u, [x][j]? = some u → (w.alloc (.cells #[x] t)).cell? ((⟨H, 0, none⟩ : Addr).add j) = some u := h ▸ cell_one_new w x t
theorem enterRun (args : Array Value) (w : World) : (callFunc 47 args).run Tryz.prog w = .ok (.enter 47 args) w := enters (P := Tryz.prog) Tryz.func47 (by kernel_rfl) rfl args w
set_option maxRecDepth 100000 in
set_option maxHeartbeats 8000000 in
theorem loop_closure (a q f tb m g B c : Nat) (A : Option Addr) (l : List Ed) (s0 s1 : ES) (ts : List ByteArray) (w : World) (hl : l.length ≤ 1000000) (hlc : l.length ≤ c) (ha : One w a (.slice A l.length c) 24) (hq : One w q (Pt m) 49) (hf : One w f (.bool true) 4) (htb : One w tb (.slice none 0 0) 27)
    (hN : NE w.heap.size B a q f tb m g) (hR : BS w B m g s0.t s0.p s0.q) (hK : KR w B A l) (hrun : erun s0 l = some (s1, ts)) :
    Calls Tryz.prog 47 #[Pt a, Pt q, Pt f, Pt tb] w fun e w' => e = .returned (.tuple #[]) ∧ ∃ T ct, LS w w' B a q f tb m g A l.length c s1 (.slice T ts.length ct) ts := by
  have L0 : LS w w B a q f tb m g A l.length c s0 (.slice none 0 0) [] := ⟨ha, hq, hf, htb, hR, World.ownsRow_nil w _ 9 1, FrX.refl _ _ _⟩
  have ca := ha.cell
  obtain ⟨i0, hi, hz0, hz1, hz2⟩ := info_parts info9
  have HNE := Lib.hid hN
  have HI := Lib.hid (And.intro hi (And.intro hz0 (And.intro hz1 hz2)))
  clear hN hi hz0 hz1 hz2
  have HK := Lib.hid hK
  have HL0 := Lib.hid L0
  have HRUN := Lib.hid hrun
  clear ha hq hf htb hR hK hrun L0
  go_enter Tryz.func47, Tryz.ntmps47
  go_wp2
  go_loopw [10] (fun vi wr => ∃ (i : Nat) (si : ES) (done rest : List ByteArray) (T : Option Addr) (ct : Nat), i ≤ l.length ∧ vi = .int .i64 i ∧ LS w wr B a q f tb m g A l.length c si (.slice T done.length ct) done ∧ erun si (l.drop i) = some (s1, rest) ∧ done ++ rest = ts ∧ done.length = i) (fun vi _ => l.length - (intOf vi).toNat)
  case atStart => exact ⟨0, s0, [], ts, none, 0, Nat.zero_le _, rfl, HL0.out, HRUN.out, rfl, rfl⟩
  case round =>
    obtain ⟨i, si, done, rest, T, ct, hil, rfl, hLS, hkr, hts, hdl⟩ := hrel
    have HT := Lib.hid (And.intro hts (And.intro hkr hdl))
    clear hts hkr hdl
    have HL := Lib.hid hLS
    by_cases hlt : i < l.length
    · obtain ⟨h1, h2, h3, h4, h5, h6, h7⟩ := hLS
      obtain ⟨ad, rfl, hadl, e0, e1, e2, e3⟩ := (HK.out.below h7.1) i l[i] (List.getElem?_eq_getElem hlt)
      have hd : l.drop i = l[i] :: l.drop (i + 1) := List.drop_eq_getElem_cons hlt
      have HD := Lib.hid hd
      clear hd
      generalize l[i] = k at *
      obtain ⟨op, n, text, flag⟩ := k
      dsimp only at e0 e1 e2 e3
      have hstep : ∃ p, estep si ⟨op, n, text, flag⟩ = some p ∧ ∃ q, erun p.1 (l.drop (i + 1)) = some q ∧ (s1, rest) = (q.1, p.2 :: q.2) := by
        have := HT.out.2.1
        rw [HD.out] at this
        obtain ⟨p, hp, this⟩ := Option.bind_eq_some_iff.1 this
        obtain ⟨q, hq, this⟩ := Option.bind_eq_some_iff.1 this
        exact ⟨p, hp, q, hq, (Option.some.inj this).symm⟩
      obtain ⟨p, hp, q', hq', hpq⟩ := hstep
      have HC := Lib.hid (step_calls B m g si ⟨op, n, text, flag⟩ (wr.alloc (.cells #[.int .i64 op, .int .i64 n, .string text, .bool flag] 31)) (h5.alloc _) p hp)
      have HQ := Lib.hid (And.intro hq' hpq)
      clear hp hq' hpq HD
      obtain ⟨s2, tv⟩ := p
      have c1 := h1.cell
      have c2 := (h2.alloc (.cells #[.int .i64 op, .int .i64 n, .string text, .bool flag] 31)).cell
      have nb0 := (Rec.new wr [.int .i64 op, .int .i64 n, .string text, .bool flag] 31)
      have n0 := nb0.cell 0 rfl
      have n1 := nb0.cell 1 rfl
      have n2 := nb0.cell 2 rfl
      have n3 := nb0.cell 3 rfl
      clear h1 h2 h3 h4 h5 h6 h7 nb0
      have HST := Lib.hid (fun w2 (hR2 : BS w2 B m g s2.t s2.p s2.q) (hF2 : Only B m g (wr.alloc (.cells #[.int .i64 op, .int .i64 n, .string text, .bool flag] 31)) w2) => HL.out.step HNE.out _ hR2 hF2)
      have hd1 : done.length ≤ 1000000 := by have := HT.out.2.2; omega
      go_wp2_with (first
        | (go_at_call 48; refine HC.out.mono ?_; rintro e w2 ⟨rfl, hR2, hF2⟩; have L2 := HST.out _ hR2 hF2; have d3 := L2.2.2.1.cell; have y3 := L2.2.2.1.free; have L3 := L2.setf HNE.out; have L3H := Lib.hid L3; have d4 := L3.2.2.2.1.cell; have hzB : w.heap.size ≤ w2.heap.size := L2.2.2.2.2.2.2.1.size)
        | (at_builtin; refine wpList_append_lies _ rfl (.tmp 24) (.tmp 26) _ rfl w.heap.size 9 i0 (.string ⟨#[]⟩) 1 16 Tryz.underlying27 HI.out.1 HI.out.2.1 HI.out.2.2.1 HI.out.2.2.2 rfl (by omega) (.slice T done.length ct) done.length (done.map Value.string) rfl (World.ownsRow.alloc L3H.out.2.2.2.2.2.1 _) ⟨w2.heap.size, 0, none⟩ 1 1 [.string tv] rfl rfl (cell_one_at (by simp)) (by simp [Value.oneCell']) (by omega) (by unfold maxLen; omega) (by omega) (by simp; omega) (w2.heap.size + 1) (by simp) ?_; intro g' cap w4 ho4 hg4 hat4 hlt4; have b4 := L3H.out.box HNE.out _ hg4; have q4 := b4.cell; have z4 := b4.free))
      have L5 := L3H.out.push HNE.out _ hg4 (ts1 := done ++ [tv]) (by unfold Strs; rw [List.length_append, List.map_append]; exact ho4)
      have hlen : (done ++ [tv]).length = done.length + 1 := by simp
      have HL5 := Lib.hid L5
      have HLEN := Lib.hid hlen
      clear L5 hlen b4 q4 z4 ho4 hg4 hat4
      go_roundw
      case rel =>
        have h9 := HQ.out.2
        simp only [Prod.mk.injEq] at h9
        obtain ⟨h9a, h9b⟩ := h9
        have h10 := HT.out.1
        have h11 := HT.out.2.2
        refine ⟨i + 1, s2, done ++ [tv], q'.2, some ⟨g', 0, none⟩, cap, by omega, by go_num, by rw [HLEN.out]; exact HL5.out, ?_, ?_, by rw [HLEN.out, h11]⟩
        · rw [h9a]; exact HQ.out.1
        · rw [← h10, h9b]; simp
      case measure => simp only [intOf]; omega
    · have hE : l.drop i = [] := List.drop_eq_nil_of_le (by omega)
      have HE := Lib.hid (show (s1, rest) = (si, []) by
        have := HT.out.2.1
        rw [hE] at this
        exact (Option.some.inj this).symm)
      clear hLS hE
      go_wp2
      go_end0
      have h9 := HE.out
      simp only [Prod.mk.injEq] at h9
      obtain ⟨rfl, rfl⟩ := h9
      have h8 := HT.out.1
      rw [List.append_nil] at h8
      subst h8
      exact ⟨rfl, T, ct, HL.out⟩
end Go.Proofs.YtkfmjkiefckgoaaGreatDoor.H
namespace Go.Proofs.YtkfmjkiefckgoaaGreatDoor.H
open Go.RowKit Go.Proofs.YtkfmjkiefckgoaaGreatDoorW.PrintWords Go.Proofs.YtkfmjkiefckgoaaGreatDoorW.PrintLast Go.Proofs.YtkfmjkiefckgoaaGreatDoor.R Go.Proofs.YtkfmjkiefckgoaaGreatDoor.X Go.Proofs.YtkfmjkiefckgoaaGreatDoor.PAroundOf
set_option linter.unusedVariables false
set_option linter.unusedSimpArgs false
attribute [local go_sem ↓] Go.wp_at_zero Go.wp_at_succ
theorem KR.up {w w1 : World} {N B : Nat} {A : Option Addr} {l : List Ed} (h : KR w N A l) (hle : N ≤ B) (hb : Below N w w1) : KR w1 B A l := fun j k hj => by
  obtain ⟨ad, e, hlt, r⟩ := (h.below hb) j k hj
  exact ⟨ad, e, Nat.lt_of_lt_of_le hlt hle, r⟩
theorem made_f : ∀ (fn : Fn) (first cap : Array Value) (w : World), (Instr.makeFunc fn first cap).run Tryz.prog w = .ok (.func fn first cap) w := fun _ _ _ _ => rfl
theorem At_calls {B m g : Nat} {w : World} {t : ByteArray} {p q : Int} (h : BS w B m g t p q) : Calls Tryz.prog 50 #[Pt m] w fun e w' => e = .returned (.int .i64 p) ∧ w' = w := by
  have k2 := h.reads.1
  clear h
  go_enter Tryz.func50, Tryz.ntmps50
  go_wp2
  go_ret
  exact ⟨rfl, rfl⟩
/-- The world in which the steps are run. -/
def W5 (w : World) (m : Nat) (A : Option Addr) (n c : Nat) : World := ((((w.alloc (.cells #[Pt m] 49)).alloc (.cells #[.slice A n c] 24)).alloc (.cells #[.string ⟨#[]⟩, .int .i64 0] 23)).alloc (.cells #[.slice none 0 0] 27)).alloc (.cells #[.bool true] 4)
theorem W5_size (w : World) (m : Nat) (A : Option Addr) (n c : Nat) : (W5 w m A n c).heap.size = w.heap.size + 5 := by simp [W5]
theorem W5_below (w : World) (m : Nat) (A : Option Addr) (n c : Nat) : Below w.heap.size w (W5 w m A n c) := ((((((Below.refl _ _).alloc (Nat.le_refl _) _).alloc (by simp) _).alloc (by simp; omega) _).alloc (by simp; omega) _).alloc (by simp; omega) _)
theorem W5_facts (w : World) (m : Nat) (A : Option Addr) (n c : Nat) : One (W5 w m A n c) w.heap.size (Pt m) 49 ∧ One (W5 w m A n c) (w.heap.size + 1) (.slice A n c) 24 ∧ Rec (W5 w m A n c) (w.heap.size + 2) [.string ⟨#[]⟩, .int .i64 0] 23 ∧ One (W5 w m A n c) (w.heap.size + 3) (.slice none 0 0) 27 ∧ One (W5 w m A n c) (w.heap.size + 4) (.bool true) 4 := by
  have h0 := One.new w (Pt m) 49
  have h1 := One.at_ (b := w.heap.size + 1) (w.alloc (.cells #[Pt m] 49)) (.slice A n c) 24 (by simp)
  have h2 := Rec.at_ (b := w.heap.size + 2) ((w.alloc (.cells #[Pt m] 49)).alloc (.cells #[.slice A n c] 24)) [.string ⟨#[]⟩, .int .i64 0] 23 (by simp)
  have h3 := One.at_ (b := w.heap.size + 3) (((w.alloc (.cells #[Pt m] 49)).alloc (.cells #[.slice A n c] 24)).alloc (.cells #[.string ⟨#[]⟩, .int .i64 0] 23)) (.slice none 0 0) 27 (by simp)
  have h4 := One.at_ (b := w.heap.size + 4) ((((w.alloc (.cells #[Pt m] 49)).alloc (.cells #[.slice A n c] 24)).alloc (.cells #[.string ⟨#[]⟩, .int .i64 0] 23)).alloc (.cells #[.slice none 0 0] 27)) (.bool true) 4 (by simp)
  exact ⟨(((h0.alloc _).alloc _).alloc _).alloc _, ((h1.alloc _).alloc _).alloc _, (h2.alloc _).alloc _, h3.alloc _, h4⟩
/-- What the steps leave. -/
def K5 (w w' : World) (B m g : Nat) (s1 : ES) (v : Value) (ts : List ByteArray) : Prop := One w' w.heap.size (Pt m) 49 ∧ Rec w' (w.heap.size + 2) [.string ⟨#[]⟩, .int .i64 0] 23 ∧ One w' (w.heap.size + 3) v 27 ∧ One w' (w.heap.size + 4) (.bool true) 4 ∧ BS w' B m g s1.t s1.p s1.q ∧ Strs w' w.heap.size v ts ∧ Below B w w'
theorem Strs.setrec {w : World} {N0 : Nat} {v : Value} {xs : List ByteArray} (h : Strs w N0 v xs) {b : Nat} {l : List Value} {t : TypeId} (hr : Rec w b l t) (ht : t ≠ 9 ∨ ∀ k, v.ownBlock = some k → k ≠ b) (i : Nat) (u : Value) : Strs (w.setCell ⟨b, i, none⟩ u) N0 v xs :=
  h.move fun k hk => Below.heap_setCell w ⟨b, i, none⟩ u k (by
    show k ≠ b
    rintro rfl
    rcases ht with ht | ht
    · obtain ⟨cs, e⟩ := own_typed h k hk
      rw [show w.heap[k]? = _ from hr] at e
      injection e with e; injection e with _ e
      exact ht e
    · exact ht k hk rfl)
theorem Strs.lower {w : World} {N0 N1 : Nat} {v : Value} {xs : List ByteArray} (h : Strs w N0 v xs) (hle : N1 ≤ N0) : Strs w N1 v xs := by
  obtain ⟨h1, h2 | ⟨g, cap, cur, hv, hb, h3⟩⟩ := h
  · exact ⟨h1, .inl h2⟩
  · exact ⟨h1, .inr ⟨g, cap, cur, hv, by omega, h3⟩⟩
set_option maxHeartbeats 1000000 in
theorem caught_steps (B m g : Nat) (A : Option Addr) (c : Nat) (l : List Ed) (w : World) (s0 s1 : ES) (ts : List ByteArray) (hb : BS w B m g s0.t s0.p s0.q) (hl : l.length ≤ 1000000) (hlc : l.length ≤ c) (hK : KR w B A l) (hrun : erun s0 l = some (s1, ts)) :
    Calls Tryz.prog 46 #[.func (.func 47) #[] #[Pt (w.heap.size + 1), Pt w.heap.size, Pt (w.heap.size + 4), Pt (w.heap.size + 3)]] (W5 w m A l.length c) fun e w' => e = .returned (.bool true) ∧ ∃ T ct, K5 w w' B m g s1 (.slice T ts.length ct) ts := by
  obtain ⟨h0, h1, h2, h3, h4⟩ := W5_facts w m A l.length c
  have hz := W5_size w m A l.length c
  have hbw := W5_below w m A l.length c
  have hb5 := hb.below hbw
  have hlt := hb.lt
  have hge := hb.ge
  generalize W5 w m A l.length c = W at *
  have hN : NE (W.alloc (.cells #[.bool false] 4)).heap.size B (w.heap.size + 1) w.heap.size (w.heap.size + 4) (w.heap.size + 3) m g := by
    have e : (W.alloc (.cells #[.bool false] 4)).heap.size = w.heap.size + 6 := by simp [hz]
    rw [e]
    unfold NE
    omega
  refine (caught_calls 47 _ W (fun w' => ∃ T ct, LS (W.alloc (.cells #[.bool false] 4)) w' B (w.heap.size + 1) w.heap.size (w.heap.size + 4) (w.heap.size + 3) m g A l.length c s1 (.slice T ts.length ct) ts) enterRun ?_).mono ?_
  · refine (loop_closure (w.heap.size + 1) w.heap.size (w.heap.size + 4) (w.heap.size + 3) m g B c A l s0 s1 ts _ hl hlc (h1.alloc _) (h0.alloc _) (h4.alloc _) (h3.alloc _) hN (hb5.alloc _) ((hK.below (hbw.mono hlt.1)).below ((Below.refl B W).alloc (by omega) _)) hrun).mono ?_
    rintro e w' ⟨rfl, T, ct, hL⟩
    exact ⟨rfl, hL.2.2.2.2.2.2.one (One.new W (.bool false) 4) (by unfold XS; omega), T, ct, hL⟩
  · rintro e w' ⟨rfl, w1, ⟨T, ct, g1, g2, g3, g4, g5, g6, g7⟩, ho, rfl⟩
    have hrow := fun k hk => g6.row k hk
    have e6 : (W.alloc (.cells #[.bool false] 4)).heap.size = w.heap.size + 6 := by simp [hz]
    refine ⟨rfl, T, ct, g2.other (by show _ ≠ W.heap.size; omega) _, (g7.rec (h2.alloc _) (by unfold XS; omega)).other (by show _ ≠ W.heap.size; omega) _, g4.other (by show _ ≠ W.heap.size; omega) _, g3.other (by show _ ≠ W.heap.size; omega) _, g5.far ho (by omega) (by omega) (by decide) _, (Strs.lower (N1 := w.heap.size) g6 (by omega)).move fun k hk => Below.heap_setCell w1 _ _ k (by have := (hrow k hk).1; show k ≠ W.heap.size; omega), ?_⟩
    exact (((hbw.mono hlt.1).alloc (by omega) _).trans g7.1).setCell (by show _ ≤ W.heap.size; omega) _
set_option maxRecDepth 100000 in
set_option maxHeartbeats 8000000 in
theorem run_calls (B m g : Nat) (A : Option Addr) (c : Nat) (l : List Ed) (w : World) (s0 s1 : ES) (ts : List ByteArray) (hb : BS w B m g s0.t s0.p s0.q) (hl : l.length ≤ 1000000) (hlc : l.length ≤ c) (hK : KR w B A l) (hrun : erun s0 l = some (s1, ts)) :
    Calls Tryz.prog 23 #[Pt m, .slice A l.length c] w fun e w' => (∃ T ct, e = .returned (.tuple #[.agg #[.string s1.t, .int .i64 s1.p], .slice T ts.length ct, .bool true]) ∧ Strs w' w.heap.size (.slice T ts.length ct) ts) ∧ Below B w w' := by
  have hmf := made_f
  have HC := Lib.hid (caught_steps B m g A c l w s0 s1 ts hb hl hlc hK hrun)
  have hBw := hb.lt.1
  clear hK hrun hb
  go_enter Tryz.func23, Tryz.ntmps23
  go_wp2_with fail
  refine HC.out.mono ?_
  rintro e w1 ⟨rfl, T, ct, g1, g2, g3, g4, g5, g6, g7⟩
  have HG := Lib.hid (And.intro g1 (And.intro g2 (And.intro g3 (And.intro g4 (And.intro g5 (And.intro g6 g7))))))
  have c1 := g1.cell
  have c4 := g4.cell
  have c3 := g3.cell
  have z3 := g3.free
  have c2 := g2.cell 0 rfl
  have c2b := g2.cell 1 rfl
  have z2 := g2.free 0
  have z2b := g2.free 1
  have hl1 := g1.lt
  have hl2 := g2.lt
  have hl3 := g3.lt
  have hl4 := g4.lt
  have HB := Lib.hid g5
  clear g1 g2 g3 g4 g5 g6 g7
  go_wp2
  refine wp_region_noPanic ?_
  refine wp_region_held_drew (S := fun w' => w'.cell? ⟨w.heap.size, 0, none⟩ = some (Pt m) ∧ w'.cell? ⟨w.heap.size + 1 + 1 + 1, 0, none⟩ = some (.slice T ts.length ct)) (by kernel_rfl) (⟨c1, c3⟩) (fun hHeld => ?_)
  refine wpAnyH_take (i := 0) (v := ?v0) (by simp only [List.getElem?_toArray, List.getElem?_cons_succ, List.getElem?_cons_zero]; rfl) (by kernel_rfl) (by kernel_rfl) (by kernel_rfl) (fun _ _ _ h => h) (Or.inl ⟨by rfl, ?h0⟩) (by assumption) ?_
  case h0 => (intro wS hSw; (try dsimp only at hSw); go_simp; try with_reducible rfl)
  try simp only [Act.put, List.setIfInBounds_toArray, List.set_cons_zero, List.set_cons_succ]
  refine wpAnyH_take (i := 2) (v := ?v2) (by simp only [List.getElem?_toArray, List.getElem?_cons_succ, List.getElem?_cons_zero]; rfl) (by kernel_rfl) (by kernel_rfl) (by kernel_rfl) (fun _ _ _ h => h) (Or.inl ⟨by rfl, ?h2⟩) (by assumption) ?_
  case h2 => (intro wS hSw; (try dsimp only at hSw); go_simp; try with_reducible rfl)
  try simp only [Act.put, List.setIfInBounds_toArray, List.set_cons_zero, List.set_cons_succ]
  refine wpAnyH_take (i := 5) (v := ?v5) (by simp only [List.getElem?_toArray, List.getElem?_cons_succ, List.getElem?_cons_zero]; rfl) (by kernel_rfl) (by kernel_rfl) (by kernel_rfl) (fun _ _ _ h => h) (Or.inl ⟨by rfl, ?h5⟩) (by assumption) ?_
  case h5 => (intro wS hSw; (try dsimp only at hSw); go_simp; try with_reducible rfl)
  try simp only [Act.put, List.setIfInBounds_toArray, List.set_cons_zero, List.set_cons_succ]
  refine wpAnyH_ready (rs := [1]) (by kernel_rfl) (by simp) ?_
  refine AllReadyH.cons (o := _) rfl (fun K hK => ?_) AllReadyH.nil
  go_simp
  refine (Text_calls (HB.out.drewN 1)).mono ?_
  rintro e w2 ⟨rfl, n2, rfl⟩
  refine hK.out _ _ (⟨c1, c3⟩) (fun hHeld1_0 => ?_)
  clear hK K
  try simp only [Act.put, List.setIfInBounds_toArray, List.set_cons_zero, List.set_cons_succ]
  refine wpAnyH_ready (rs := [3]) (by kernel_rfl) (by simp) ?_
  refine AllReadyH.cons (o := _) rfl (fun K hK => ?_) AllReadyH.nil
  go_simp
  refine (At_calls (by first | exact HB.out.drewN 1 | exact (HB.out.drewN 1).drewN _)).mono ?_
  rintro e w3 ⟨rfl, rfl⟩
  refine hK.out _ _ (⟨c1, c3⟩) (fun hHeld3_1 => ?_)
  clear hK K
  try simp only [Act.put, List.setIfInBounds_toArray, List.set_cons_zero, List.set_cons_succ]
  refine wpAnyH_take (i := 4) (v := ?v4) (by simp only [List.getElem?_toArray, List.getElem?_cons_succ, List.getElem?_cons_zero]; rfl) (by kernel_rfl) (by kernel_rfl) (by kernel_rfl) (fun _ _ _ h => h) (Or.inl ⟨by rfl, ?h4⟩) (by assumption) ?_
  case h4 => (intro wS hSw; (try dsimp only at hSw); go_simp; try with_reducible rfl)
  try simp only [Act.put, List.setIfInBounds_toArray, List.set_cons_zero, List.set_cons_succ]
  refine wpAnyH_ready (rs := [6]) (by kernel_rfl) (by simp) ?_
  refine AllReadyH.cons (o := _) rfl (fun K hK => ?_) AllReadyH.nil
  go_simp
  have s6r := ((HG.out.2.1.drewN (1 + n2)).set 0 (.string s1.t)).set 1 (.int .i64 s1.p)
  have s6q := ((HG.out.1.drewN (1 + n2)).other (a := ⟨w.heap.size + 2, 0, none⟩) (by show w.heap.size ≠ w.heap.size + 2; omega) (.string s1.t)).other (a := ⟨w.heap.size + 2, 1, none⟩) (by show w.heap.size ≠ w.heap.size + 2; omega) (.int .i64 s1.p)
  have s6t := ((HG.out.2.2.1.drewN (1 + n2)).other (a := ⟨w.heap.size + 2, 0, none⟩) (by show w.heap.size + 3 ≠ w.heap.size + 2; omega) (.string s1.t)).other (a := ⟨w.heap.size + 2, 1, none⟩) (by show w.heap.size + 3 ≠ w.heap.size + 2; omega) (.int .i64 s1.p)
  have hn6 : Strs _ w.heap.size (.slice T ts.length ct) ts := ((HG.out.2.2.2.2.2.1.move (w1 := w1.drewN (1 + n2)) (fun k hk => rfl)).setrec (HG.out.2.1.drewN (1 + n2)) (.inl (by decide)) 0 (.string s1.t)).setrec ((HG.out.2.1.drewN (1 + n2)).set 0 (.string s1.t)) (.inl (by decide)) 1 (.int .i64 s1.p)
  have b6 := (((pw_below_drewN HG.out.2.2.2.2.2.2 (1 + n2))).setCell (p := ⟨w.heap.size + 2, 0, none⟩) (by show B ≤ w.heap.size + 2; omega) (.string s1.t)).setCell (p := ⟨w.heap.size + 2, 1, none⟩) (by show B ≤ w.heap.size + 2; omega) (.int .i64 s1.p)
  have t6c := s6t.cell
  have t6f := s6t.free
  refine hK.out _ _ (⟨s6q.cell, s6t.cell⟩) (fun hHeld6_2 => ?_)
  clear hK K
  try simp only [Act.put, List.setIfInBounds_toArray, List.set_cons_zero, List.set_cons_succ]
  refine wpAnyH_ready (rs := [7]) (by kernel_rfl) (by simp) ?_
  refine AllReadyH.cons (o := _) rfl (fun K hK => ?_) AllReadyH.nil
  go_simp
  have s7q := s6q.other (a := ⟨w.heap.size + 3, 0, none⟩) (by show w.heap.size ≠ w.heap.size + 3; omega) (.slice T ts.length ct)
  have s7t := s6t.set (.slice T ts.length ct)
  have s7r : Rec _ _ _ _ := s6r.other (a := ⟨w.heap.size + 3, 0, none⟩) (by show w.heap.size + 2 ≠ w.heap.size + 3; omega) (.slice T ts.length ct)
  have n7 := hn6.setrec s6t.rec (.inl (by decide)) 0 (.slice T ts.length ct)
  have b7 := b6.setCell (p := ⟨w.heap.size + 3, 0, none⟩) (by show B ≤ w.heap.size + 3; omega) (.slice T ts.length ct)
  refine hK.out _ _ (⟨s7q.cell, s7t.cell⟩) (fun hHeld7_3 => ?_)
  clear hK K
  try simp only [Act.put, List.setIfInBounds_toArray, List.set_cons_zero, List.set_cons_succ]
  refine wpAnyH_take (i := 8) (v := ?v8) (by simp only [List.getElem?_toArray, List.getElem?_cons_succ, List.getElem?_cons_zero]; rfl) (by kernel_rfl) (by kernel_rfl) (by kernel_rfl) (fun _ _ _ h => h) (Or.inl ⟨by rfl, ?h8⟩) (by assumption) ?_
  case h8 => (intro wS hSw; (try dsimp only at hSw); go_simp; try with_reducible rfl)
  try simp only [Act.put, List.setIfInBounds_toArray, List.set_cons_zero, List.set_cons_succ]
  refine wpAnyH_done (by kernel_rfl) ?_ _
  refine NoPanic.normal ?_
  have e0 := s7r.cell 0 rfl
  have e1 := s7r.cell 1 rfl
  have e2 := s7t.cell
  go_wp2
  exact bodyPost_ret (v := .tuple #[.agg #[.string s1.t, .int .i64 s1.p], .slice T ts.length ct, .bool true]) (by simp [results, Tryz.results23, go_sem, e0, e1, e2]) rfl ⟨⟨T, ct, rfl, n7⟩, b7⟩
set_option maxRecDepth 100000 in
set_option maxHeartbeats 4000000 in
theorem edited_calls (t : ByteArray) (p : Nat) (A : Option Addr) (c : Nat) (l : List Ed) (w : World) (s1 : ES) (ts : List ByteArray) (hok : OkT t p) (hl : l.length ≤ 1000000) (hlc : l.length ≤ c) (hK : KR w w.heap.size A l) (hrun : erun ⟨t, p, -1⟩ l = some (s1, ts)) :
    Calls Tryz.prog 9 #[.agg #[.string t, .int .i64 (p : Int)], .slice A l.length c] w fun e w' => (∃ T ct, e = .returned (.tuple #[.agg #[.string s1.t, .int .i64 s1.p], .slice T ts.length ct, .bool true]) ∧ Strs w' w.heap.size (.slice T ts.length ct) ts) ∧ Below w.heap.size w w' := by
  have HOK := Lib.hid hok
  have HRUN := Lib.hid hrun
  have HK := Lib.hid hK
  have hp0 : (0 : Int) ≤ (p : Int) := by omega
  have r0 := (Rec.new w [.string t, .int .i64 (p : Int)] 23).alloc (.cells #[.string ⟨#[]⟩, .int .i64 0] 23)
  have r1 := Rec.at_ (b := w.heap.size + 1) (w.alloc (.cells #[.string t, .int .i64 (p : Int)] 23)) [.string ⟨#[]⟩, .int .i64 0] 23 (by simp)
  have b0 : Below w.heap.size w ((w.alloc (.cells #[.string t, .int .i64 (p : Int)] 23)).alloc (.cells #[.string ⟨#[]⟩, .int .i64 0] 23)) := ((Below.refl _ _).alloc (Nat.le_refl _) _).alloc (by simp) _
  have HR := Lib.hid (And.intro r0 (And.intro r1 b0))
  have k0 := r0.cell 0 rfl
  have k1 := r0.cell 1 rfl
  have HD := Lib.hid (fun W => document_calls t (p : Int) W hp0 (by rw [runesOf_asc hok.2.1, ints_length]; have := hok.2.2; omega) (by have := hok.1; omega))
  clear hok hrun hK r0 r1 b0
  go_enter Tryz.func9, Tryz.ntmps9
  go_wp2_with (first
    | (go_at_call 22; refine (HD.out _).mono ?_; rintro e w1 ⟨d, rfl, hI, hb1⟩; have q0 := HR.out.1.stays hb1; have q1 := HR.out.2.1.stays hb1; have j0 := q0.cell 0 rfl; have j1 := q0.cell 1 rfl; have HQ := Lib.hid (And.intro q0 (And.intro q1 (HR.out.2.2.trans (hb1.mono HR.out.2.2.size)))); clear q0 q1 hI hb1)
    | (go_at_call 24; refine (BufferAt_calls t (p : Int) hp0 _).mono ?_; rintro e w2 ⟨rfl, hB2, hb2⟩; have HB2 := Lib.hid hB2; have HQ2 := Lib.hid (And.intro (HQ.out.1.stays hb2) (And.intro (HQ.out.2.1.stays hb2) (HQ.out.2.2.trans (hb2.mono HQ.out.2.2.size)))); clear hB2 hb2)
    | (go_at_call 23; refine (run_calls w1.heap.size (w1.heap.size + 1) w1.heap.size A c l w2 ⟨t, p, -1⟩ s1 ts HB2.out hl hlc (KR.up HK.out HQ.out.2.2.size HQ2.out.2.2) HRUN.out).mono ?_; rintro e w3 ⟨⟨T, ct, rfl, hS3⟩, hb3⟩; have hz1 : w.heap.size ≤ w1.heap.size := HQ.out.2.2.size; have q3 : Rec w3 (w.heap.size + 1) [.string ⟨#[]⟩, .int .i64 0] 23 := HQ2.out.2.1.below hb3 (HQ.out.2.1.lt); have y0 := q3.cell 0 rfl; have y1 := q3.cell 1 rfl; have x0 := q3.free 0; have x1 := q3.free 1; have HS3 := Lib.hid (And.intro q3 (And.intro hS3 (HQ2.out.2.2.trans (hb3.mono hz1)))); clear q3 hS3 hb3))
  have s1r := (HS3.out.1.set 0 (.string s1.t)).set 1 (.int .i64 (s1.p : Int))
  have n1 : Strs _ w2.heap.size (.slice T ts.length ct) ts := (HS3.out.2.1.setrec HS3.out.1 (.inl (by decide)) 0 (.string s1.t)).setrec (HS3.out.1.set 0 (.string s1.t)) (.inl (by decide)) 1 (.int .i64 (s1.p : Int))
  have bb := below_put (below_put HS3.out.2.2 (b := w.heap.size + 1) (by omega) 0 (.string s1.t)) (b := w.heap.size + 1) (by omega) 1 (.int .i64 (s1.p : Int))
  have e0 := s1r.cell 0 rfl
  have e1 := s1r.cell 1 rfl
  exact bodyPost_ret (v := .tuple #[.agg #[.string s1.t, .int .i64 s1.p], .slice T ts.length ct, .bool true]) (by simp [results, Tryz.results9, go_sem, e0, e1]) rfl ⟨⟨T, ct, rfl, n1.lower HQ2.out.2.2.size⟩, bb⟩
end Go.Proofs.YtkfmjkiefckgoaaGreatDoor.H
