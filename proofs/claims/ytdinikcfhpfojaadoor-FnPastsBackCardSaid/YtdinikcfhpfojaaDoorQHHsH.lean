/- Steps over a history (impl.Pasts): the contract; New of ASCII texts of at most 100000 bytes, that are not empty and not the last one, at most 1000; Prev, Next where there is a text. -/
import Derived.Test.YtdinikcfhpfojaaDoorQHHsG
import Derived.Test.YtdinikcfhpfojaaDoorQHCaught
import Derived.Test.YtdinikcfhpfojaaDoorQPFnPastsBackx0
namespace Go.Proofs.YtdinikcfhpfojaaDoor.H
open Go.RowKit Go.Proofs.YtdinikcfhpfojaaDoorW.PrintWords Go.Proofs.YtdinikcfhpfojaaDoorW.PrintLast Go.Proofs.YtdinikcfhpfojaaDoor.R Go.Proofs.YtdinikcfhpfojaaDoor.X Go.Proofs.YtdinikcfhpfojaaDoor.PFnPastsBack
set_option linter.unusedVariables false
set_option linter.unusedSimpArgs false
attribute [local go_sem ↓] Go.wp_at_zero Go.wp_at_succ
instance (lim : Int) (st : St) (x : List Int) : Decidable (Fit lim st x) := by unfold Fit; infer_instance
/-- One step: what stands behind it, and what it tells. -/
def stepP (lim : Int) (st : St) (p : S50) : Option (St × S56) :=
  if (∀ b ∈ p.f1.data.toList, b.toNat < 128) ∧ p.f1.size ≤ 100000 then
    if p.f0 = 1 then (if Fit lim st (ints p.f1) then some (⟨st.tx ++ [ints p.f1], st.tx.length + 1⟩, ⟨⟨#[]⟩, 0⟩) else none)
    else if p.f0 = 3 then (if h : 0 < st.at_ ∧ st.at_ - 1 < st.tx.length then some (⟨st.tx, st.at_ - 1⟩, ⟨runesBytes (st.tx[st.at_ - 1]'h.2), 1⟩) else none)
    else if p.f0 = 4 then (if h : st.at_ + 1 < st.tx.length then some (⟨st.tx, st.at_ + 1⟩, ⟨runesBytes (st.tx[st.at_ + 1]'h), 1⟩) else none)
    else none
  else none
def runP (lim : Int) : St → List S50 → Option (List S56)
  | _, [] => some []
  | st, p :: l => (stepP lim st p).bind fun r => (runP lim r.1 l).bind fun rs => some (r.2 :: rs)
theorem past_calls {B ob lb cb : Nat} {lim : Int} {fold : Bool} {st st' : St} {w : World} (h : Sta B w ob lb cb lim fold st) (p : S50) (r : S56) (hp : stepP lim st p = some (st', r)) (hBw : B ≤ w.heap.size) :
    Calls Tryd.prog 50 #[.agg #[PtS ob], .agg #[.int .i64 p.f0, .string p.f1, .int .i64 p.f2, .bool p.f3]] w fun e' w' => e' = .returned (.tuple #[.agg #[.string r.f0, .int .i64 r.f1], .bool true]) ∧ Sta B w' ob lb cb lim fold st' ∧ Frm B w w' := by
  obtain ⟨f0, f1, f2, f3⟩ := p
  unfold stepP at hp
  by_cases ha : (∀ b ∈ f1.data.toList, b.toNat < 128) ∧ f1.size ≤ 100000
  case neg => rw [if_neg ha] at hp; cases hp
  rw [if_pos ha] at hp
  by_cases h1 : f0 = 1
  · subst h1
    rw [if_pos rfl] at hp
    by_cases hf : Fit lim st (ints f1)
    case neg => rw [if_neg hf] at hp; cases hp
    rw [if_pos hf] at hp
    injection hp with hp; injection hp with hp1 hp2
    subst hp1 hp2
    exact past_new h f1 f2 f3 ha.1 ha.2 hf hBw
  · rw [if_neg h1] at hp
    by_cases h3 : f0 = 3
    · subst h3
      rw [if_pos rfl] at hp
      by_cases hc : 0 < st.at_ ∧ st.at_ - 1 < st.tx.length
      case neg => rw [dif_neg hc] at hp; cases hp
      rw [dif_pos hc] at hp
      injection hp with hp; injection hp with hp1 hp2
      subst hp1 hp2
      exact past_prev h f1 f2 f3 ha.1 ha.2 (st.at_ - 1) (by omega) hc.2 hBw
    · rw [if_neg h3] at hp
      by_cases h4 : f0 = 4
      · subst h4
        rw [if_pos rfl] at hp
        by_cases hc : st.at_ + 1 < st.tx.length
        case neg => rw [dif_neg hc] at hp; cases hp
        rw [dif_pos hc] at hp
        injection hp with hp; injection hp with hp1 hp2
        subst hp1 hp2
        exact past_next h f1 f2 f3 ha.1 ha.2 st.at_ rfl hc hBw
      · rw [if_neg h4] at hp; cases hp
theorem k56_E : k56.E = [] := rfl
theorem E56 {t : Nat} (ht : 56 ≠ t) : ∀ q, q ∈ 56 :: k56.E → q ≠ t := fun q hq => by
  rw [k56_E] at hq
  have : q = 56 := by simpa using hq
  subst this
  exact ht
theorem info56s : (Tryd.prog.info? 56).map (fun i => (i.zero, i.size, i.bytes)) = some (some (.agg #[(.string ⟨#[]⟩), (.int .i64 0)]), 2, 24) := by kernel_rfl
theorem R_frm {B B' : Nat} {w w1 : World} {v : Value} {xs : List S56} (h : Kd.R k56 56 w B (fun _ => True) v xs) (hf : Frm B' w w1) : Kd.R k56 56 w1 B (fun _ => True) v xs :=
  Kd.R_mono (Kd.R_move (Kd.R_bound h) (fun k hk => by
    obtain ⟨_, _, _, q, hq, cells, hc⟩ := hk
    rw [k56_E] at hq
    obtain rfl : q = 56 := by simpa using hq
    exact hf.2 k _ 56 _ hc (by decide) (by decide) (by decide) (by decide))) (fun _ _ => trivial)
/-- The row of answers grows: all blocks of other kinds are as they were. -/
theorem grown_kept {B : Nat} {w w1 : World} {v : Value} {xs : List S56} (h : Kd.R k56 56 w B (fun _ => True) v xs) (hg : w.grownBy w1 v.ownBlock) {k : Nat} {cs : Array Value} {t : TypeId} {fz : Nat × Nat} (hk : w.heap[k]? = some (Obj.cells cs t fz)) (ht : t ≠ 56) : w1.heap[k]? = w.heap[k]? :=
  hg.block k (lt_of_block hk) (fun e => by
    obtain ⟨inner, ho⟩ := Kd.R_own h
    obtain ⟨c2, e2⟩ := own_typed ho k e.symm
    rw [hk] at e2
    injection e2 with e2; injection e2 with _ e2 _
    exact ht e2)
/-- What the closure's loop keeps. -/
structure Lp (B : Nat) (w0 w : World) (ob lb cb : Nat) (lim : Int) (fold : Bool) (st : St) (qa qh qf qr : Nat) (A : Option Addr) (n c : Nat) (v : Value) (outs : List S56) : Prop where
  sta : Sta B w ob lb cb lim fold st
  a : One w qa (.slice A n c) 48
  h : One w qh (PtS ob) 82
  f : One w qf (.bool true) 4
  r : One w qr v 52
  out : Kd.R k56 56 w B (fun _ => True) v outs
  below : Below B w0 w
set_option maxRecDepth 100000 in
set_option maxHeartbeats 16000000 in
theorem closure49_calls (B : Nat) (w0 w : World) (ob lb cb : Nat) (lim : Int) (fold : Bool) (qa qh qf qr : Nat) (A : Option Addr) (c : Nat) (l : List S50) (rs : List S56) (hrow : Kd.C k50 w0 A l.length l) (hc : l.length ≤ c) (hl : l.length ≤ 100000) (hB0 : w0.heap.size ≤ B) (hL : Lp B w0 w ob lb cb lim fold ⟨[], 0⟩ qa qh qf qr A l.length c (.slice none 0 0) []) (hBw : B ≤ w.heap.size) (hq : B ≤ qa ∧ B ≤ qh ∧ B ≤ qf ∧ B ≤ qr) (hrun : runP lim ⟨[], 0⟩ l = some rs) :
    Calls Tryd.prog 49 #[PtS qa, PtS qh, PtS qf, PtS qr] w fun e w' => e = .returned (.tuple #[]) ∧ ∃ v, One w' qf (.bool true) 4 ∧ One w' qr v 52 ∧ Kd.R k56 56 w' B (fun _ => True) v rs ∧ Below B w0 w' ∧ (∀ (k : Nat) (u : Value), One w k u 4 → k ≠ qf → One w' k u 4) := by
  have HL := Lib.hid hL
  have HR := Lib.hid hrow
  have HRUN := Lib.hid hrun
  have a0 := hL.a.cell
  clear hL hrow hrun
  go_enter Tryd.func49, Tryd.ntmps49
  go_wp2_with fail
  go_loopw [10] (fun v10 wr => ∃ (i : Nat) (st : St) (v : Value) (o1 o2 : List S56), i ≤ l.length ∧ v10 = .int .i64 i ∧ Lp B w0 wr ob lb cb lim fold st qa qh qf qr A l.length c v o1 ∧ o1.length = i ∧ runP lim st (l.drop i) = some o2 ∧ rs = o1 ++ o2 ∧ w.heap.size ≤ wr.heap.size ∧ (∀ (k : Nat) (u : Value), One w k u 4 → k ≠ qf → One wr k u 4)) (fun v10 _ => l.length - (intOf v10).toNat)
  case atStart => exact ⟨0, ⟨[], 0⟩, .slice none 0 0, [], rs, Nat.zero_le _, rfl, HL.out, rfl, by simpa using HRUN.out, rfl, Nat.le_refl _, fun _ _ h _ => h⟩
  case round =>
    obtain ⟨i, st, v, o1, o2, hi, rfl, hLp, ho1, hru, hrs, hsz, hoth⟩ := hrel
    have HP := Lib.hid hLp
    have HO := Lib.hid (And.intro ho1 (And.intro hrs hoth))
    by_cases hlt : i < l.length
    · rw [List.drop_eq_getElem_cons hlt] at hru
      unfold runP at hru
      obtain ⟨⟨st2, r⟩, hst, hru⟩ := Option.bind_eq_some_iff.mp hru
      obtain ⟨o3, hru3, hru⟩ := Option.bind_eq_some_iff.mp hru
      have HRU := Lib.hid (And.intro hru3 (Option.some.inj hru))
      obtain ⟨ad, hA, q0, q1, q2, q3⟩ := at_T50 (Kd.C_below (Kd.C_below HR.out (show Below w0.heap.size w0 wr from hLp.below.mono hB0)) (Below.refl _ _)) (i : Int) (by omega) (by omega)
      subst hA
      have hget : rd_T50 l (i : Int) = l[i] := by unfold rd_T50; rw [Int.toNat_natCast, List.getD_eq_getElem?_getD, List.getElem?_eq_getElem hlt]; rfl
      rw [hget] at q0 q1 q2 q3
      obtain ⟨p, hp⟩ : ∃ p, p = l[i] := ⟨_, rfl⟩
      rw [← hp] at q0 q1 q2 q3 hst
      rw [Int.toNat_natCast] at q0 q1 q2 q3
      clear hget hp hru hru3 ho1 hrs hoth
      have hbA : Below wr.heap.size wr (wr.alloc (.cells #[.int .i64 p.f0, .string p.f1, .int .i64 p.f2, .bool p.f3] 50)) := (Below.refl _ _).alloc (Nat.le_refl _) _
      have h0 := (hLp.h.stays hbA).cell
      have hBr : B ≤ wr.heap.size := by omega
      have HST := Lib.hid hst
      have HS := Lib.hid hLp.sta
      clear hLp hst
      go_wp2_with fail
      refine (past_calls (HS.out.stays hbA) p r HST.out (by simp; omega)).mono ?_
      rintro e' w5 ⟨rfl, g1, g2⟩
      have HF := Lib.hid ((Frm.of_below hbA hBr).trans g2)
      have HS5 := Lib.hid g1
      clear g1 g2
      have hz5 := HF.out.1.size
      have n4 : ∀ {k : Nat} {u : Value}, One wr k u 4 → One w5 k u 4 := fun h => HF.out.one (One.rec h) (by decide) (by decide) (by decide) (by decide)
      have b6 : Below w5.heap.size w5 (w5.alloc (.cells #[.string r.f0, .int .i64 r.f1] 56)) := (Below.refl _ _).alloc (Nat.le_refl _) _
      have of6 : One (w5.alloc (.cells #[.string r.f0, .int .i64 r.f1] 56)) qf (.bool true) 4 := (n4 HP.out.f).stays b6
      have or5 : One w5 qr v 52 := HF.out.one (One.rec HP.out.r) (by decide) (by decide) (by decide) (by decide)
      have or6 := or5.stays b6
      have rt6 : Rec (w5.alloc (.cells #[.string r.f0, .int .i64 r.f1] 56)) w5.heap.size [.string r.f0, .int .i64 r.f1] 56 := Rec.new w5 _ 56
      have x1 := of6.cell
      have x1f := of6.free
      have nrf : qr ≠ qf := (One.rec or6).ne (One.rec of6) (by decide)
      have ntf : w5.heap.size ≠ qf := rt6.ne (One.rec of6) (by decide)
      have or7 := or6.other (a := ⟨qf, 0, none⟩) nrf (.bool true)
      have x2 := or7.cell
      have rt7 := rt6.other (a := ⟨qf, 0, none⟩) ntf (.bool true)
      have x3 := rt7.cell 0 rfl
      have x4 := rt7.cell 1 rfl
      have O6 := Kd.R_below (R_frm HP.out.out HF.out) b6
      have HO7 := Lib.hid (Kd.R_set O6 (g := qf) of6 (E56 (by decide)) 0 (.bool true))
      have HB7 := Lib.hid (show Below B w0 ((w5.alloc (.cells #[.string r.f0, .int .i64 r.f1] 56)).setCell ⟨qf, 0, none⟩ (.bool true)) from ((HP.out.below.trans HF.out.1).trans (b6.mono (by omega))).setCell hq.2.2.1 _)
      have HF7 := Lib.hid (One.set of6 (.bool true))
      have HR7 := Lib.hid or7
      have HS7 := Lib.hid (((HS5.out.stays b6).set (One.rec of6) (by decide) 0 (.bool true)))
      have HA7 := Lib.hid (((show One w5 qa (.slice (some ad) l.length c) 48 from HF.out.one (One.rec HP.out.a) (by decide) (by decide) (by decide) (by decide)).stays b6).other (a := ⟨qf, 0, none⟩) ((One.rec (show One w5 qa (.slice (some ad) l.length c) 48 from HF.out.one (One.rec HP.out.a) (by decide) (by decide) (by decide) (by decide))).ne (One.rec (n4 HP.out.f)) (by decide)) (.bool true))
      have HH7 := Lib.hid (((show One w5 qh (PtS ob) 82 from HF.out.one (One.rec HP.out.h) (by decide) (by decide) (by decide) (by decide)).stays b6).other (a := ⟨qf, 0, none⟩) ((One.rec (show One w5 qh (PtS ob) 82 from HF.out.one (One.rec HP.out.h) (by decide) (by decide) (by decide) (by decide))).ne (One.rec (n4 HP.out.f)) (by decide)) (.bool true))
      have HK7 := Lib.hid (fun (k : Nat) (u : Value) (h : One w k u 4) (hne : k ≠ qf) => ((n4 (HO.out.2.2 k u h hne)).stays b6).other (a := ⟨qf, 0, none⟩) hne (.bool true))
      have hlo := HO.out.1
      clear b6 of6 or5 or6 rt6 or7 rt7 O6 nrf ntf
      go_wp2_with (at_builtin; go_loud (refine Kd.R_append k56 (w0 := w0) B rfl (.tmp 24) (.tmp 26) 52 56 (.agg #[(.string ⟨#[]⟩), (.int .i64 0)]) 24 rfl Tryd.underlying52 info56s rfl (by decide) (by decide) v o1 r [.string r.f0, .int .i64 r.f1] (fun _ => True) (fun _ => False) rfl (by simp [go_sem]) (k56_mkM _ _ _ r) (fun _ hk => hk.elim) (fun _ _ => trivial) HO7.out HB7.out (by simp; omega) (by omega) ?_); intro v1 w8 h1 h2 h3 h4; obtain ⟨T1, c1, rfl⟩ := Kd.R_slice h1; have HQ := Lib.hid (And.intro h1 (And.intro h2 h3)); have or8 : One w8 qr v 52 := (grown_kept HO7.out h3 (One.rec HR7.out) (by decide)).trans HR7.out; have y8 := or8.cell; have z8 := or8.free; have HR8 := Lib.hid or8; clear h1 h2 h3 h4 or8)
      have mv : ∀ {k : Nat} {u : Value} {t : TypeId}, One ((w5.alloc (.cells #[.string r.f0, .int .i64 r.f1] 56)).setCell ⟨qf, 0, none⟩ (.bool true)) k u t → t ≠ 56 → t ≠ 52 → One (w8.setCell ⟨qr, 0, none⟩ (.slice T1 (o1 ++ [r]).length c1)) k u t := fun h ht ht2 => One.other (((grown_kept HO7.out HQ.out.2.2 (One.rec h) ht).trans h)) (a := ⟨qr, 0, none⟩) ((One.rec (((grown_kept HO7.out HQ.out.2.2 (One.rec h) ht).trans h))).ne (One.rec HR8.out) ht2) _
      have hS8 : Sta B w8 ob lb cb lim fold st2 := HS7.out.far (fun k cs t fz hk ht => grown_kept HO7.out HQ.out.2.2 hk (by rcases ht with rfl | rfl | rfl | rfl | rfl | rfl <;> decide))
      have HFIN := Lib.hid (show Lp B w0 (w8.setCell ⟨qr, 0, none⟩ (.slice T1 (o1 ++ [r]).length c1)) ob lb cb lim fold st2 qa qh qf qr (some ad) l.length c (.slice T1 (o1 ++ [r]).length c1) (o1 ++ [r]) from
        ⟨hS8.set (One.rec HR8.out) (by decide) 0 _, mv HA7.out (by decide) (by decide), mv HH7.out (by decide) (by decide), mv HF7.out (by decide) (by decide), One.set HR8.out _, Kd.R_set HQ.out.1 (g := qr) HR8.out (E56 (by decide)) 0 _, HQ.out.2.1.setCell hq.2.2.2 _⟩)
      have HK8 := Lib.hid (fun (k : Nat) (u : Value) (h : One w k u 4) (hne : k ≠ qf) => mv (HK7.out k u h hne) (by decide) (by decide))
      clear mv hS8
      go_wp2_with fail
      go_roundw
      case rel =>
        have e9 : (o1 ++ [r]).length = i + 1 := by simp; omega
        have hF := HFIN.out
        have hK := HK8.out
        rw [e9] at hF hK
        refine ⟨i + 1, st2, _, o1 ++ [r], o3, by omega, by go_num, hF, by simp; omega, HRU.out.1, ?_, ?_, hK⟩
        · rw [HO.out.2.1, ← HRU.out.2]; simp
        · have := HQ.out.2.2.size; simp at this ⊢; omega
      case measure => simp only [intOf]; omega
    · obtain rfl : i = l.length := by omega
      rw [List.drop_length] at hru
      unfold runP at hru
      obtain rfl : o2 = [] := (Option.some.inj hru).symm
      rw [List.append_nil] at hrs
      have HRS := Lib.hid hrs
      clear hru hrs ho1 hoth hLp
      go_wp2_with fail
      go_end0
      exact ⟨rfl, v, HP.out.f, HP.out.r, HRS.out ▸ HP.out.out, HP.out.below, HO.out.2.2⟩
end Go.Proofs.YtdinikcfhpfojaaDoor.H
