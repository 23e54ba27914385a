/- Steps over readline's buffer one behind the other (the closure of impl.Keyed): what they make of the buffer, and what they tell; no condition but what the steps themselves ask. -/
import Derived.Test.YtdinikcfhpfojaaDoorQHKeyed1
import Derived.Test.YtdinikcfhpfojaaDoorQHCaught
namespace Go.Proofs.YtdinikcfhpfojaaDoor.H
open Go.RowKit Go.Proofs.YtdinikcfhpfojaaDoorW.PrintWords Go.Proofs.YtdinikcfhpfojaaDoorW.PrintLast Go.Proofs.YtdinikcfhpfojaaDoor.R
set_option linter.unusedVariables false
set_option linter.unusedSimpArgs false
attribute [local go_sem ↓] Go.wp_at_zero Go.wp_at_succ
theorem info3 : (Tryd.prog.info? 3).map (fun i => (i.zero, i.size, i.bytes)) = some (some (.int .i64 0), 1, 8) := by kernel_rfl
/-- Block k holds whole numbers. -/
def IsNum (w : World) (k : Nat) : Prop := ∃ cs, w.heap[k]? = some (.cells cs 3 (0, 0))
/-- As Fr; rows of whole numbers may be turned, too. -/
def Fr3 (B : Nat) (X : Nat → Prop) (w w' : World) : Prop := Below B w w' ∧ ∀ k, k < w.heap.size → ¬ X k → ¬ IsRow w k → ¬ IsNum w k → w'.heap[k]? = w.heap[k]?
section
variable {B : Nat} {X Y : Nat → Prop} {w w1 w2 : World} {b m : Nat} {v u : Value} {t : TypeId} {l : List Value} {r : Rest} {s : KS}
theorem Fr3.refl (B : Nat) (X : Nat → Prop) (w : World) : Fr3 B X w w := ⟨Below.refl _ _, fun _ _ _ _ _ => rfl⟩
theorem Fr3.trans (h : Fr3 B X w w1) (k : Fr3 B X w1 w2) : Fr3 B X w w2 :=
  ⟨h.1.trans k.1, fun i hi hx hr hn => (k.2 i (Nat.lt_of_lt_of_le hi h.1.size) hx (fun ⟨cs, e⟩ => hr ⟨cs, (h.2 i hi hx hr hn).symm.trans e⟩) (fun ⟨cs, e⟩ => hn ⟨cs, (h.2 i hi hx hr hn).symm.trans e⟩)).trans (h.2 i hi hx hr hn)⟩
theorem Fr.fr3 (h : Fr B X w w1) (hXY : ∀ k, X k → Y k) : Fr3 B Y w w1 := ⟨h.1, fun k hk hy hr _ => h.2 k hk (fun hx => hy (hXY k hx)) hr⟩
theorem Fr3.alloc (h : Fr3 B X w w1) (hB : B ≤ w1.heap.size) (o : Obj) : Fr3 B X w (w1.alloc o) :=
  ⟨h.1.alloc hB o, fun i hi hx hr hn => (Below.heap_alloc w1 o i (Nat.lt_of_lt_of_le hi h.1.size)).trans (h.2 i hi hx hr hn)⟩
theorem Fr3.set (h : Fr3 B X w w1) (hb : X b) (hB : B ≤ b) (i : Nat) (u : Value) : Fr3 B X w (w1.setCell ⟨b, i, none⟩ u) :=
  ⟨h.1.setCell hB u, fun k hk hx hr hn => (Below.heap_setCell w1 ⟨b, i, none⟩ u k (by rintro rfl; exact hx hb)).trans (h.2 k hk hx hr hn)⟩
theorem Fr3.grown (h : Fr3 B X w w1) {row : Option Nat} (hg : w1.grownBy w2 row) (hr : ∀ k, row = some k → IsNum w1 k ∧ B ≤ k) (hB : B ≤ w1.heap.size) : Fr3 B X w w2 :=
  ⟨⟨hg.os.trans h.1.os, hg.tape.trans h.1.tape, hg.output.trans h.1.output, Nat.le_trans h.1.size hg.size, fun k hk => (hg.block k (Nat.lt_of_lt_of_le hk hB) (fun e => by have := (hr k e.symm).2; omega)).trans (h.1.block k hk)⟩,
    fun k hk hx hnr hnn => (hg.block k (Nat.lt_of_lt_of_le hk h.1.size) (fun e => by
      obtain ⟨cs, e2⟩ := (hr k e.symm).1
      exact hnn ⟨cs, (h.2 k hk hx hnr hnn).symm.trans e2⟩)).trans (h.2 k hk hx hnr hnn)⟩
theorem Fr3.one (h : Fr3 B X w w1) (ho : One w b v t) (ht : t ≠ 21) (h3 : t ≠ 3) (hx : ¬ X b) : One w1 b v t :=
  (h.2 b ho.lt hx (fun ⟨cs, e⟩ => by rw [show w.heap[b]? = _ from ho] at e; injection e with e; injection e with _ e; exact ht e) (fun ⟨cs, e⟩ => by rw [show w.heap[b]? = _ from ho] at e; injection e with e; injection e with _ e; exact h3 e)).trans ho
theorem num_one (ho : One w b v t) (ht : t ≠ 3) (hg : w.grownBy w1 u.ownBlock) (hu : ∀ k, u.ownBlock = some k → IsNum w k) : One w1 b v t :=
  (hg.block b ho.lt (fun e => by obtain ⟨cs, e2⟩ := hu b e.symm; rw [show w.heap[b]? = _ from ho] at e2; injection e2 with e2; injection e2 with _ e2; exact ht e2)).trans ho
theorem num_rb (h : RB w B m r s) (hg : w.grownBy w1 u.ownBlock) (hu : ∀ k, u.ownBlock = some k → IsNum w k) : RB w1 B m r s := by
  obtain ⟨bv, kv, hm, hb, hk, hd, hB, hi⟩ := h
  have hrow : ∀ k, IsRow w k → some k ≠ u.ownBlock := fun k ⟨cs, e⟩ e3 => by
    obtain ⟨cs2, e2⟩ := hu k e3.symm
    rw [e] at e2
    injection e2 with e2; injection e2 with _ e2
    exact absurd e2 (by decide)
  refine ⟨bv, kv, (hg.block m hm.lt (fun e => by obtain ⟨cs, e2⟩ := hu m e.symm; rw [show w.heap[m]? = _ from hm] at e2; injection e2 with e2; injection e2 with _ e2; exact absurd e2 (by decide))).trans hm, hb.grown hg (fun k e => hrow k (hb.row k e).1), hk.grown hg (fun k e => hrow k (hk.row k e).1), hd, hB, hi⟩
end
/-- Value v is a row of whole numbers of the call's own. -/
def Nums (w : World) (B : Nat) (v : Value) (xs : List Int) : Prop := w.ownsRow B 3 1 v xs.length (xs.map (Value.int .i64))
theorem Nums.num {w : World} {B : Nat} {v : Value} {xs : List Int} (h : Nums w B v xs) : ∀ k, v.ownBlock = some k → IsNum w k ∧ B ≤ k := by
  intro k hk
  rcases h.2 with ⟨rfl, _⟩ | ⟨g, cap, cur, rfl, hb, hh, _⟩
  · simp [Value.ownBlock] at hk
  · have : g = k := by simpa [Value.ownBlock] using hk
    subst this
    exact ⟨⟨cur, hh⟩, hb⟩
theorem Nums.lt {w : World} {B : Nat} {v : Value} {xs : List Int} (h : Nums w B v xs) : ∀ k, v.ownBlock = some k → k < w.heap.size := fun k hk => by
  obtain ⟨cs, e⟩ := (h.num k hk).1
  exact lt_of_block e
theorem Nums.move {w w1 : World} {B : Nat} {v : Value} {xs : List Int} (h : Nums w B v xs) (hk : ∀ k, v.ownBlock = some k → w1.heap[k]? = w.heap[k]?) : Nums w1 B v xs := own_move h hk
theorem num_ne_row {w : World} {k : Nat} (h : IsNum w k) : ¬ IsRow w k := fun ⟨cs, e⟩ => by
  obtain ⟨cs2, e2⟩ := h
  rw [e] at e2
  injection e2 with e2; injection e2 with _ e2
  exact absurd e2 (by decide)
theorem Nums.fr {w w1 : World} {B : Nat} {X : Nat → Prop} {v : Value} {xs : List Int} (h : Nums w B v xs) (hf : Fr B X w w1) (hx : ∀ k, v.ownBlock = some k → ¬ X k) : Nums w1 B v xs := h.move fun k hk => hf.2 k (h.lt k hk) (hx k hk) (num_ne_row (h.num k hk).1)
theorem num_ne_one {w : World} {k b : Nat} {v : Value} {t : TypeId} (h : IsNum w k) (ho : One w b v t) (ht : t ≠ 3) : k ≠ b := by
  rintro rfl
  obtain ⟨cs, e⟩ := h
  rw [show w.heap[k]? = _ from ho] at e
  injection e with e; injection e with _ e
  exact ht e
theorem num_ne_rec {w : World} {k b : Nat} {l : List Value} {t : TypeId} (h : IsNum w k) (ho : Rec w b l t) (ht : t ≠ 3) : k ≠ b := by
  rintro rfl
  obtain ⟨cs, e⟩ := h
  rw [show w.heap[k]? = _ from ho] at e
  injection e with e; injection e with _ e
  exact ht e
/-- A slice reads as steps. -/
def KR (w : World) (B : Nat) (A : Option Addr) (l : List Key5) : Prop := ∀ (j : Nat) (k : Key5), l[j]? = some k → ∃ ad, A = some ad ∧ (ad.add (j * 5)).block < B ∧ w.cell? (ad.add (j * 5)) = some (.int .i64 k.op) ∧ w.cell? ⟨(ad.add (j * 5)).block, (ad.add (j * 5)).off + 1, none⟩ = some (.string k.text) ∧ w.cell? ⟨(ad.add (j * 5)).block, (ad.add (j * 5)).off + 2, none⟩ = some (.int .i64 k.n) ∧ w.cell? ⟨(ad.add (j * 5)).block, (ad.add (j * 5)).off + 3, none⟩ = some (.bool k.flag) ∧ w.cell? ⟨(ad.add (j * 5)).block, (ad.add (j * 5)).off + 4, none⟩ = some (.bool k.back)
theorem KR.below {w w1 : World} {B : Nat} {A : Option Addr} {l : List Key5} (h : KR w B A l) (hb : Below B w w1) : KR w1 B A l := fun j k hj => by
  obtain ⟨ad, e, hlt, h0, h1, h2, h3, h4⟩ := h j k hj
  exact ⟨ad, e, hlt, (hb.cell (p := ad.add (j * 5)) hlt).trans h0, (hb.cell (p := ⟨(ad.add (j * 5)).block, _, none⟩) hlt).trans h1, (hb.cell (p := ⟨(ad.add (j * 5)).block, _, none⟩) hlt).trans h2, (hb.cell (p := ⟨(ad.add (j * 5)).block, _, none⟩) hlt).trans h3, (hb.cell (p := ⟨(ad.add (j * 5)).block, _, none⟩) hlt).trans h4⟩
def krun (s : KS) : List Key5 → Option (KS × List Int)
  | [] => some (s, [])
  | k :: l => (step5 s k).bind fun p => (krun p.1 l).bind fun q => some (q.1, p.2 :: q.2)
/-- What holds of a world within the loop. -/
def LS (w0 w : World) (B a q f tb m : Nat) (r : Rest) (A : Option Addr) (n c : Nat) (s : KS) (v : Value) (ts : List Int) : Prop :=
  One w a (.slice A n c) 26 ∧ One w q (Pt m) 68 ∧ One w f (.bool true) 4 ∧ One w tb v 27 ∧ RB w B m r s ∧ Nums w B v ts ∧ Fr3 B (fun k => k = m ∨ k = f ∨ k = tb) w0 w
theorem LS.step {w0 w w1 : World} {B a q f tb m : Nat} {r : Rest} {A : Option Addr} {n c : Nat} {s s1 : KS} {v : Value} {ts : List Int} (h : LS w0 w B a q f tb m r A n c s v ts) (o : Obj) (ham : a ≠ m) (hqm : q ≠ m) (hfm : f ≠ m) (htm : tb ≠ m)
    (hR : RB w1 B m r s1) (hF : Fr B (At m) (w.alloc o) w1) : LS w0 w1 B a q f tb m r A n c s1 v ts := by
  obtain ⟨h1, h2, h3, h4, h5, h6, h7⟩ := h
  have hB := h5.lt
  have h6' : Nums (w.alloc o) B v ts := h6.move fun k hk => Below.heap_alloc w o k (h6.lt k hk)
  obtain ⟨bv, kv, hm, _⟩ := h5
  exact ⟨hF.one (h1.alloc o) (by decide) ham, hF.one (h2.alloc o) (by decide) hqm, hF.one (h3.alloc o) (by decide) hfm, hF.one (h4.alloc o) (by decide) htm, hR,
    h6'.fr hF (fun k hk e => num_ne_rec (h6'.num k hk).1 (hm.alloc o) (by decide) e), (h7.alloc (by omega) o).trans (hF.fr3 (fun k hk => .inl hk))⟩
theorem LS.setf {w0 w : World} {B a q f tb m : Nat} {r : Rest} {A : Option Addr} {n c : Nat} {s : KS} {v : Value} {ts : List Int} (h : LS w0 w B a q f tb m r A n c s v ts) (haf : a ≠ f) (hqf : q ≠ f) (hft : f ≠ tb) (hfm : f ≠ m) (hBf : B ≤ f) :
    LS w0 (w.setCell ⟨f, 0, none⟩ (.bool true)) B a q f tb m r A n c s v ts := by
  obtain ⟨h1, h2, h3, h4, h5, h6, h7⟩ := h
  exact ⟨h1.other (by exact haf) _, h2.other (by exact hqf) _, h3.set _, h4.other (by exact Ne.symm hft) _, h5.one h3 (by decide) hfm, h6.move fun k hk => Below.heap_setCell w _ _ k (num_ne_one (h6.num k hk).1 h3 (by decide)), h7.set (.inr (.inl rfl)) hBf _ _⟩
theorem LS.push {w0 w w1 : World} {B a q f tb m : Nat} {r : Rest} {A : Option Addr} {n c : Nat} {s : KS} {v v1 : Value} {ts ts1 : List Int} (h : LS w0 w B a q f tb m r A n c s v ts) (o : Obj) (hat : a ≠ tb) (hqt : q ≠ tb) (hft : f ≠ tb) (htm : tb ≠ m) (hBt : B ≤ tb)
    (hg : (w.alloc o).grownBy w1 v.ownBlock) (ho : Nums w1 B v1 ts1) : LS w0 (w1.setCell ⟨tb, 0, none⟩ v1) B a q f tb m r A n c s v1 ts1 := by
  obtain ⟨h1, h2, h3, h4, h5, h6, h7⟩ := h
  have hB := h5.lt
  have h6' : Nums (w.alloc o) B v ts := h6.move fun k hk => Below.heap_alloc w o k (h6.lt k hk)
  have hn : ∀ k, v.ownBlock = some k → IsNum (w.alloc o) k := fun k hk => (h6'.num k hk).1
  have g4 := num_one (h4.alloc o) (by decide) hg hn
  exact ⟨(num_one (h1.alloc o) (by decide) hg hn).other (by exact hat) _, (num_one (h2.alloc o) (by decide) hg hn).other (by exact hqt) _, (num_one (h3.alloc o) (by decide) hg hn).other (by exact hft) _, g4.set _, (num_rb (h5.alloc o) hg hn).one g4 (by decide) htm,
    ho.move fun k hk => Below.heap_setCell w1 _ _ k (num_ne_one (ho.num k hk).1 g4 (by decide)), ((h7.alloc (by omega) o).grown hg (fun k hk => h6'.num k hk) (by simp; omega)).set (.inr (.inr rfl)) hBt _ _⟩
theorem cell_one_at {w : World} {x : Value} {t : TypeId} {H : Nat} (h : w.heap.size = H) : ∀ j u, [x][j]? = some u → (w.alloc (.cells #[x] t)).cell? ((⟨H, 0, none⟩ : Addr).add j) = some u := h ▸ cell_one_new w x t
theorem LS.box {w0 w w1 : World} {B a q f tb m : Nat} {r : Rest} {A : Option Addr} {n c : Nat} {s : KS} {v : Value} {ts : List Int} (h : LS w0 w B a q f tb m r A n c s v ts) (o : Obj) (hg : (w.alloc o).grownBy w1 v.ownBlock) : One w1 tb v 27 := by
  obtain ⟨h1, h2, h3, h4, h5, h6, h7⟩ := h
  have h6' : Nums (w.alloc o) B v ts := h6.move fun k hk => Below.heap_alloc w o k (h6.lt k hk)
  exact num_one (h4.alloc o) (by decide) hg (fun k hk => (h6'.num k hk).1)
theorem enter51 (args : Array Value) (w : World) : (callFunc 51 args).run Tryd.prog w = .ok (.enter 51 args) w := enters (P := Tryd.prog) Tryd.func51 (by kernel_rfl) rfl args w
set_option maxHeartbeats 8000000 in
theorem loop_closure (a q f tb m B c : Nat) (A : Option Addr) (l : List Key5) (r : Rest) (s0 s1 : KS) (ts : List Int) (w : World) (hl : l.length ≤ 1000000) (hlc : l.length ≤ c) (ha : One w a (.slice A l.length c) 26) (hq : One w q (Pt m) 68) (hf : One w f (.bool true) 4) (htb : One w tb (.slice none 0 0) 27)
    (ham : a ≠ m) (hqm : q ≠ m) (hfm : f ≠ m) (htm : tb ≠ m) (hft : f ≠ tb) (haf : a ≠ f) (hat : a ≠ tb) (hqf : q ≠ f) (hqt : q ≠ tb) (hBf : B ≤ f) (hBt : B ≤ tb) (hR : RB w B m r s0) (hK : KR w B A l) (hrun : krun s0 l = some (s1, ts)) :
    Calls Tryd.prog 51 #[Pt a, Pt q, Pt f, Pt tb] w fun e w' => e = .returned (.tuple #[]) ∧ ∃ T ct, LS w w' B a q f tb m r A l.length c s1 (.slice T ts.length ct) ts := by
  have L0 : LS w w B a q f tb m r A l.length c s0 (.slice none 0 0) [] := ⟨ha, hq, hf, htb, hR, World.ownsRow_nil w B 3 1, Fr3.refl _ _ _⟩
  have ca := ha.cell
  obtain ⟨i0, hi, hz0, hz1, hz2⟩ := info_parts info3
  have HNE := Lib.hid (And.intro ham (And.intro hqm (And.intro hfm (And.intro htm (And.intro hft (And.intro haf (And.intro hat (And.intro hqf (And.intro hqt (And.intro hBf hBt))))))))))
  have HI := Lib.hid (And.intro hi (And.intro hz0 (And.intro hz1 hz2)))
  clear ham hqm hfm htm hft haf hat hqf hqt hBf hBt hi hz0 hz1 hz2
  have HK := Lib.hid hK
  have HL0 := Lib.hid L0
  have HRUN := Lib.hid hrun
  clear ha hq hf htb hR hK hrun L0
  go_enter Tryd.func51, Tryd.ntmps51
  go_wp2
  go_loopw [10] (fun vi wr => ∃ (i : Nat) (si : KS) (done rest : List Int) (T : Option Addr) (ct : Nat), i ≤ l.length ∧ vi = .int .i64 i ∧ LS w wr B a q f tb m r A l.length c si (.slice T done.length ct) done ∧ krun si (l.drop i) = some (s1, rest) ∧ done ++ rest = ts ∧ done.length = i) (fun vi _ => l.length - (intOf vi).toNat)
  case atStart => exact ⟨0, s0, [], ts, none, 0, Nat.zero_le _, rfl, HL0.out, HRUN.out, rfl, rfl⟩
  case round =>
    obtain ⟨i, si, done, rest, T, ct, hil, rfl, hLS, hkr, hts, hdl⟩ := hrel
    have HT := Lib.hid (And.intro hts (And.intro hkr hdl))
    clear hts hkr hdl
    have HL := Lib.hid hLS
    by_cases hlt : i < l.length
    · obtain ⟨h1, h2, h3, h4, h5, h6, h7⟩ := hLS
      obtain ⟨ad, rfl, hadl, e0, e1, e2, e3, e4⟩ := (HK.out.below h7.1) i l[i] (List.getElem?_eq_getElem hlt)
      have hd : l.drop i = l[i] :: l.drop (i + 1) := List.drop_eq_getElem_cons hlt
      have HD := Lib.hid hd
      clear hd
      generalize l[i] = k at *
      obtain ⟨op, text, n, flag, back⟩ := k
      dsimp only at e0 e1 e2 e3 e4
      have hstep : ∃ p, step5 si ⟨op, text, n, flag, back⟩ = some p ∧ ∃ q, krun p.1 (l.drop (i + 1)) = some q ∧ (s1, rest) = (q.1, p.2 :: q.2) := by
        have := HT.out.2.1
        rw [HD.out] at this
        obtain ⟨p, hp, this⟩ := Option.bind_eq_some_iff.1 this
        obtain ⟨q, hq, this⟩ := Option.bind_eq_some_iff.1 this
        exact ⟨p, hp, q, hq, (Option.some.inj this).symm⟩
      obtain ⟨p, hp, q', hq', hpq⟩ := hstep
      have HC := Lib.hid (keyed_calls m B si r ⟨op, text, n, flag, back⟩ (wr.alloc (.cells #[.int .i64 op, .string text, .int .i64 n, .bool flag, .bool back] 29)) (h5.alloc _) p hp)
      have HQ := Lib.hid (And.intro hq' hpq)
      clear hp hq' hpq HD
      obtain ⟨s2, tv⟩ := p
      have c1 := h1.cell
      have c2 := (h2.alloc (.cells #[.int .i64 op, .string text, .int .i64 n, .bool flag, .bool back] 29)).cell
      have nb0 := (Rec.new wr [.int .i64 op, .string text, .int .i64 n, .bool flag, .bool back] 29)
      have n0 := nb0.cell 0 rfl
      have n1 := nb0.cell 1 rfl
      have n2 := nb0.cell 2 rfl
      have n3 := nb0.cell 3 rfl
      have n4 := nb0.cell 4 rfl
      clear h1 h2 h3 h4 h5 h6 h7 nb0
      have HST := Lib.hid (fun w2 (hR2 : RB w2 B m r s2) (hF2 : Fr B (At m) (wr.alloc (.cells #[.int .i64 op, .string text, .int .i64 n, .bool flag, .bool back] 29)) w2) => HL.out.step _ HNE.out.1 HNE.out.2.1 HNE.out.2.2.1 HNE.out.2.2.2.1 hR2 hF2)
      have hd1 : done.length ≤ 1000000 := by have := HT.out.2.2; omega
      go_wp2_with (first
        | (go_at_call 41; refine HC.out.mono ?_; rintro e w2 ⟨rfl, hR2, hF2⟩; have L2 := HST.out _ hR2 hF2; have d3 := L2.2.2.1.cell; have y3 := L2.2.2.1.free; have L3 := L2.setf HNE.out.2.2.2.2.2.1 HNE.out.2.2.2.2.2.2.2.1 HNE.out.2.2.2.2.1 HNE.out.2.2.1 HNE.out.2.2.2.2.2.2.2.2.2.1; have L3H := Lib.hid L3; have d4 := L3.2.2.2.1.cell; have hzB : B ≤ w2.heap.size := (by have := hR2.lt; omega))
        | (at_builtin; refine wpList_append_lies _ rfl (.tmp 24) (.tmp 26) _ rfl B 3 i0 (.int .i64 0) 1 8 Tryd.underlying27 HI.out.1 HI.out.2.1 HI.out.2.2.1 HI.out.2.2.2 rfl (by omega) (.slice T done.length ct) done.length (done.map (Value.int .i64)) rfl (World.ownsRow.alloc L3H.out.2.2.2.2.2.1 _) ⟨w2.heap.size, 0, none⟩ 1 1 [.int .i64 tv] rfl rfl (cell_one_at (by simp)) (by simp [Value.oneCell']) (by omega) (by unfold maxLen; omega) (by omega) (by simp; omega) (w2.heap.size + 1) (by simp) ?_; intro g cap w4 ho4 hg4 hat4 hlt4; have b4 := L3H.out.box _ hg4; have q4 := b4.cell; have z4 := b4.free))
      have L5 := L3H.out.push _ HNE.out.2.2.2.2.2.2.1 HNE.out.2.2.2.2.2.2.2.2.1 HNE.out.2.2.2.2.1 HNE.out.2.2.2.1 HNE.out.2.2.2.2.2.2.2.2.2.2 hg4 (ts1 := done ++ [tv]) (by unfold Nums; rw [List.length_append, List.map_append]; exact ho4)
      have hlen : (done ++ [tv]).length = done.length + 1 := by simp
      have HL5 := Lib.hid L5
      have HLEN := Lib.hid hlen
      clear L5 hlen b4 q4 z4 ho4 hg4 hat4
      go_roundw
      case rel =>
        have h9 := HQ.out.2
        simp only [Prod.mk.injEq] at h9
        obtain ⟨h9a, h9b⟩ := h9
        have h10 := HT.out.1
        have h11 := HT.out.2.2
        refine ⟨i + 1, s2, done ++ [tv], q'.2, some ⟨g, 0, none⟩, cap, by omega, by go_num, by rw [HLEN.out]; exact HL5.out, ?_, ?_, by rw [HLEN.out, h11]⟩
        · rw [h9a]; exact HQ.out.1
        · rw [← h10, h9b]; simp
      case measure => simp only [intOf]; omega
    · have hE : l.drop i = [] := List.drop_eq_nil_of_le (by omega)
      have HE := Lib.hid (show (s1, rest) = (si, []) by
        have := HT.out.2.1
        rw [hE] at this
        exact (Option.some.inj this).symm)
      clear hLS hE
      go_wp2
      go_end0
      have h9 := HE.out
      simp only [Prod.mk.injEq] at h9
      obtain ⟨rfl, rfl⟩ := h9
      have h8 := HT.out.1
      rw [List.append_nil] at h8
      subst h8
      exact ⟨rfl, T, ct, HL.out⟩
end Go.Proofs.YtdinikcfhpfojaaDoor.H
