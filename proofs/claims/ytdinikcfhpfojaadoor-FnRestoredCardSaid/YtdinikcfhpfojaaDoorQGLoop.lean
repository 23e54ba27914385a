/- Steps that turn no row, one behind the other, and then the line that was backed up (the closure of impl.Restored); no condition but what the steps themselves ask. -/
import Derived.Test.YtdinikcfhpfojaaDoorQGBack
import Derived.Test.YtdinikcfhpfojaaDoorQHCaught
namespace Go.Proofs.YtdinikcfhpfojaaDoor.G
open Go.RowKit Go.Proofs.YtdinikcfhpfojaaDoor.H Go.Proofs.YtdinikcfhpfojaaDoorW.PrintWords Go.Proofs.YtdinikcfhpfojaaDoorW.PrintLast Go.Proofs.YtdinikcfhpfojaaDoor.R
set_option linter.unusedVariables false
set_option linter.unusedSimpArgs false
attribute [local go_sem ↓] Go.wp_at_zero Go.wp_at_succ
/-- A slice reads as steps. -/
def KR (w : World) (B : Nat) (A : Option Addr) (l : List Key5) : Prop := ∀ (j : Nat) (k : Key5), l[j]? = some k → ∃ ad, A = some ad ∧ (ad.add (j * 5)).block < B ∧ w.cell? (ad.add (j * 5)) = some (.int .i64 k.op) ∧ w.cell? ⟨(ad.add (j * 5)).block, (ad.add (j * 5)).off + 1, none⟩ = some (.string k.text) ∧ w.cell? ⟨(ad.add (j * 5)).block, (ad.add (j * 5)).off + 2, none⟩ = some (.int .i64 k.n) ∧ w.cell? ⟨(ad.add (j * 5)).block, (ad.add (j * 5)).off + 3, none⟩ = some (.bool k.flag) ∧ w.cell? ⟨(ad.add (j * 5)).block, (ad.add (j * 5)).off + 4, none⟩ = some (.bool k.back)
theorem KR.below {w w1 : World} {B : Nat} {A : Option Addr} {l : List Key5} (h : KR w B A l) (hb : Below B w w1) : KR w1 B A l := fun j k hj => by
  obtain ⟨ad, e, hlt, h0, h1, h2, h3, h4⟩ := h j k hj
  exact ⟨ad, e, hlt, (hb.cell (p := ad.add (j * 5)) hlt).trans h0, (hb.cell (p := ⟨(ad.add (j * 5)).block, _, none⟩) hlt).trans h1, (hb.cell (p := ⟨(ad.add (j * 5)).block, _, none⟩) hlt).trans h2, (hb.cell (p := ⟨(ad.add (j * 5)).block, _, none⟩) hlt).trans h3, (hb.cell (p := ⟨(ad.add (j * 5)).block, _, none⟩) hlt).trans h4⟩
def krun (s : KS) : List Key5 → Option KS
  | [] => some s
  | k :: l => (step5 s k).bind fun p => krun p.1 l
/-- What holds of a world within the loop. -/
def LS (w0 w : World) (B a q f m : Nat) (r : Rest) (A : Option Addr) (n c : Nat) (s : KS) : Prop :=
  One w a (.slice A n c) 26 ∧ One w q (Pt m) 68 ∧ One w f (.bool true) 4 ∧ RB w B m r s ∧ Fr B (fun k => k = m ∨ k = f) w0 w
theorem Fr.wider {B : Nat} {X Y : Nat → Prop} {w w1 : World} (h : Fr B X w w1) (hXY : ∀ k, X k → Y k) : Fr B Y w w1 := ⟨h.1, fun k hk hy => h.2 k hk (fun hx => hy (hXY k hx))⟩
theorem LS.step {w0 w w1 : World} {B a q f m : Nat} {r : Rest} {A : Option Addr} {n c : Nat} {s s1 : KS} (h : LS w0 w B a q f m r A n c s) (o : Obj) (ham : a ≠ m) (hqm : q ≠ m) (hfm : f ≠ m)
    (hR : RB w1 B m r s1) (hF : Fr B (At m) (w.alloc o) w1) : LS w0 w1 B a q f m r A n c s1 := by
  obtain ⟨h1, h2, h3, h5, h7⟩ := h
  have hB := h5.lt
  exact ⟨hF.one (h1.alloc o) (by decide) ham, hF.one (h2.alloc o) (by decide) hqm, hF.one (h3.alloc o) (by decide) hfm, hR, (h7.alloc (by omega) o).trans (hF.wider (fun k hk => .inl hk))⟩
theorem LS.setf {w0 w : World} {B a q f m : Nat} {r : Rest} {A : Option Addr} {n c : Nat} {s : KS} (h : LS w0 w B a q f m r A n c s) (haf : a ≠ f) (hqf : q ≠ f) (hfm : f ≠ m) (hBf : B ≤ f) :
    LS w0 (w.setCell ⟨f, 0, none⟩ (.bool true)) B a q f m r A n c s := by
  obtain ⟨h1, h2, h3, h5, h7⟩ := h
  exact ⟨h1.other (by exact haf) _, h2.other (by exact hqf) _, h3.set _, h5.one h3 (by decide) hfm, h7.set (.inl (.inr rfl)) hBf _ _⟩
theorem enter40 (args : Array Value) (w : World) : (callFunc 40 args).run Tryd.prog w = .ok (.enter 40 args) w := enters (P := Tryd.prog) Tryd.func40 (by kernel_rfl) rfl args w
/-- What the closure leaves. -/
def Left (w w' : World) (B f m : Nat) (r : Rest) (A : Option Addr) (n c j : Nat) : Prop := ∃ kv, Rec w' m (rbc (.slice A n c) j r kv) 89 ∧ One w' f (.bool true) 4 ∧ Fr B (fun k => k = m ∨ k = f) w w'
set_option maxHeartbeats 8000000 in
theorem restored_closure (a q f m b B c : Nat) (A : Option Addr) (l : List Key5) (r : Rest) (s0 s1 : KS) (A1 : Option Addr) (n1 c1 j : Nat) (w : World) (hl : l.length ≤ 1000000) (hlc : l.length ≤ c) (ha : One w a (.slice A l.length c) 26) (hq : One w q (Pt m) 68) (hf : One w f (.bool true) 4) (hb : Rec w b [.slice A1 n1 c1, .int .i64 j] 99)
    (ham : a ≠ m) (hqm : q ≠ m) (hfm : f ≠ m) (haf : a ≠ f) (hqf : q ≠ f) (hBf : B ≤ f) (hbm : b ≠ m) (hbf : b ≠ f) (hR : RB w B m (r.bck (Pt b)) s0) (hK : KR w B A l) (hrun : krun s0 l = some s1) :
    Calls Tryd.prog 40 #[Pt a, Pt q, Pt f] w fun e w' => e = .returned (.tuple #[]) ∧ Left w w' B f m (r.bck (Pt b)) A1 n1 c1 j := by
  have L0 : LS w w B a q f m (r.bck (Pt b)) A l.length c s0 := ⟨ha, hq, hf, hR, Fr.refl _ _ _⟩
  have ca := ha.cell
  have HNE := Lib.hid (And.intro ham (And.intro hqm (And.intro hfm (And.intro haf (And.intro hqf hBf)))))
  have HBB := Lib.hid (And.intro hb (And.intro hbm hbf))
  clear ham hqm hfm haf hqf hBf hb hbm hbf
  have HK := Lib.hid hK
  have HL0 := Lib.hid L0
  have HRUN := Lib.hid hrun
  clear ha hq hf hR hK hrun L0
  go_enter Tryd.func40, Tryd.ntmps40
  go_wp2
  go_loopw [9] (fun vi wr => ∃ (i : Nat) (si : KS), i ≤ l.length ∧ vi = .int .i64 i ∧ LS w wr B a q f m (r.bck (Pt b)) A l.length c si ∧ krun si (l.drop i) = some s1) (fun vi _ => l.length - (intOf vi).toNat)
  case atStart => exact ⟨0, s0, Nat.zero_le _, rfl, HL0.out, HRUN.out⟩
  case round =>
    obtain ⟨i, si, hil, rfl, hLS, hkr⟩ := hrel
    have HT := Lib.hid hkr
    clear hkr
    have HL := Lib.hid hLS
    by_cases hlt : i < l.length
    · obtain ⟨h1, h2, h3, h5, h7⟩ := hLS
      obtain ⟨ad, rfl, hadl, e0, e1, e2, e3, e4⟩ := (HK.out.below h7.1) i l[i] (List.getElem?_eq_getElem hlt)
      have hd : l.drop i = l[i] :: l.drop (i + 1) := List.drop_eq_getElem_cons hlt
      have HD := Lib.hid hd
      clear hd
      generalize l[i] = k at *
      obtain ⟨op, text, n, flag, back⟩ := k
      dsimp only at e0 e1 e2 e3 e4
      have hstep : ∃ p, step5 si ⟨op, text, n, flag, back⟩ = some p ∧ krun p.1 (l.drop (i + 1)) = some s1 := by
        have := HT.out
        rw [HD.out] at this
        exact Option.bind_eq_some_iff.1 this
      obtain ⟨p, hp, hq'⟩ := hstep
      have HC := Lib.hid (keyed_calls m B si (r.bck (Pt b)) ⟨op, text, n, flag, back⟩ (wr.alloc (.cells #[.int .i64 op, .string text, .int .i64 n, .bool flag, .bool back] 29)) (h5.alloc _) p hp)
      have HQ := Lib.hid hq'
      clear hp hq' HD
      obtain ⟨s2, tv⟩ := p
      have g1 := h1.cell
      have g2 := (h2.alloc (.cells #[.int .i64 op, .string text, .int .i64 n, .bool flag, .bool back] 29)).cell
      have nb0 := (Rec.new wr [.int .i64 op, .string text, .int .i64 n, .bool flag, .bool back] 29)
      have n0 := nb0.cell 0 rfl
      have n1 := nb0.cell 1 rfl
      have n2 := nb0.cell 2 rfl
      have n3 := nb0.cell 3 rfl
      have n4 := nb0.cell 4 rfl
      clear h1 h2 h3 h5 h7 nb0
      have HST := Lib.hid (fun w2 (hR2 : RB w2 B m (r.bck (Pt b)) s2) (hF2 : Fr B (At m) (wr.alloc (.cells #[.int .i64 op, .string text, .int .i64 n, .bool flag, .bool back] 29)) w2) => HL.out.step _ HNE.out.1 HNE.out.2.1 HNE.out.2.2.1 hR2 hF2)
      go_wp2_with (go_at_call 41; refine HC.out.mono ?_; rintro e w2 ⟨rfl, hR2, hF2⟩; have L2 := HST.out _ hR2 hF2; have d3 := L2.2.2.1.cell; have y3 := L2.2.2.1.free; have L3 := L2.setf HNE.out.2.2.2.1 HNE.out.2.2.2.2.1 HNE.out.2.2.1 HNE.out.2.2.2.2.2; have L3H := Lib.hid L3; clear L2 L3)
      go_roundw
      case rel => exact ⟨i + 1, s2, by omega, by go_num, L3H.out, HQ.out⟩
      case measure => simp only [intOf]; omega
    · have hE : l.drop i = [] := List.drop_eq_nil_of_le (by omega)
      have HE := Lib.hid (show si = s1 by
        have := HT.out
        rw [hE] at this
        exact Option.some.inj this)
      obtain ⟨h1, h2, h3, h5, h7⟩ := hLS
      obtain ⟨bv, kv, hm, hbo, hko, hd, hB, hi⟩ := h5
      have hb2 := h7.rec HBB.out.1 (by decide) (by rintro (e | e); exact HBB.out.2.1 e; exact HBB.out.2.2 e)
      have HC := Lib.hid (Restore_calls m b bv kv A1 n1 c1 si.idx j r wr hm hb2 HBB.out.2.1 B hB)
      have hq2 := h2.cell
      have H3 := Lib.hid (And.intro h3 h7)
      clear hE h1 h2 h3 h7 hm hbo hko hd hb2
      go_wp2_with (go_at_call 42; refine HC.out.mono ?_; rintro e w2 ⟨rfl, hm2, hF2⟩)
      go_end0
      exact ⟨rfl, kv, hm2, hF2.one H3.out.1 (by decide) HNE.out.2.2.1, H3.out.2.trans (hF2.wider (fun k hk => .inl hk))⟩
end Go.Proofs.YtdinikcfhpfojaaDoor.G
