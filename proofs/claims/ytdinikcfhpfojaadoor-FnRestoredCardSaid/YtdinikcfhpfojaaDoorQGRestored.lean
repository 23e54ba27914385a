/- A line that is backed up, edited by steps that turn no row, and restored (impl.Restored): it is back again; no condition but what the steps ask. -/
import Derived.Test.YtdinikcfhpfojaaDoorQGTell
namespace Go.Proofs.YtdinikcfhpfojaaDoor.G
open Go.RowKit Go.Proofs.YtdinikcfhpfojaaDoor.H Go.Proofs.YtdinikcfhpfojaaDoorW.PrintWords Go.Proofs.YtdinikcfhpfojaaDoorW.PrintLast Go.Proofs.YtdinikcfhpfojaaDoor.R
set_option linter.unusedVariables false
set_option linter.unusedSimpArgs false
attribute [local go_sem ↓] Go.wp_at_zero Go.wp_at_succ
def cfg0 : Value := .agg #[.int .i64 0, .bool false, .bool false, .int .i32 0]
def rest8 (v : Value) : Rest := ⟨v, .int .i64 0, .bool false, .bool false, .int .i32 0, .int .i64 80, .pointer none, .string ⟨#[]⟩⟩
set_option maxHeartbeats 2000000 in
theorem NewBuffer_calls (w : World) :
    Calls Tryd.prog 36 #[.string ⟨#[]⟩, .int .i64 80, cfg0] w fun e w' => ∃ m v, e = .returned (Pt m) ∧ Rec w' m (rbc (.slice none 0 0) 0 (rest8 v) (.slice none 0 0)) 89 ∧ w.heap.size ≤ m ∧ Below w.heap.size w w' := by
  have hcv := fun W : World => runes_run (P := Tryd.prog) W 9 66 21 ⟨#[]⟩ (by kernel_rfl) (by kernel_rfl) (by kernel_rfl) (by decide)
  unfold cfg0
  go_enter Tryd.func36, Tryd.ntmps36
  go_wp2
  go_ret
  exact ⟨w.heap.size + 2, _, rfl, (Rec.at_ _ (rbc (.slice none 0 0) 0 (rest8 _) (.slice none 0 0)) 89 (by simp)).drew, by omega, ((((Below.refl _ _).alloc (Nat.le_refl _) _).alloc (by simp) _).alloc (by simp; omega) _).drew⟩
theorem mid_calls (a q f m b B c : Nat) (A : Option Addr) (l : List Key5) (r : Rest) (s0 s1 : KS) (A1 : Option Addr) (n1 c1 j : Nat) (W : World) (hl : l.length ≤ 1000000) (hlc : l.length ≤ c) (ha : One W a (.slice A l.length c) 26) (hq : One W q (Pt m) 68) (hf : One W f (.bool true) 4) (hb : Rec W b [.slice A1 n1 c1, .int .i64 j] 99)
    (ham : a ≠ m) (hqm : q ≠ m) (hfm : f ≠ m) (haf : a ≠ f) (hqf : q ≠ f) (hBf : B ≤ f) (hbm : b ≠ m) (hbf : b ≠ f) (hR : RB W B m (r.bck (Pt b)) s0) (hK : KR W B A l) (hrun : krun s0 l = some s1) :
    Calls Tryd.prog 39 #[.func (.func 40) #[] #[Pt a, Pt q, Pt f]] W fun e w' => e = .returned (.bool true) ∧ Left W w' B f m (r.bck (Pt b)) A1 n1 c1 j := by
  have hm := hR.lt
  have hfl := hf.lt
  refine (caught_calls 40 _ W (fun w' => Left (W.alloc (.cells #[.bool false] 4)) w' B f m (r.bck (Pt b)) A1 n1 c1 j) enter40 ?_).mono ?_
  · refine (restored_closure a q f m b B c A l r s0 s1 A1 n1 c1 j _ hl hlc (ha.alloc _) (hq.alloc _) (hf.alloc _) (hb.alloc _) ham hqm hfm haf hqf hBf hbm hbf (hR.alloc _) (hK.below ((Below.refl B W).alloc (by omega) _)) hrun).mono ?_
    rintro e w' ⟨rfl, hL⟩
    refine ⟨rfl, ?_, hL⟩
    obtain ⟨kv, h1, h2, h3⟩ := hL
    exact h3.one (One.new W (.bool false) 4) (by decide) (by omega)
  · rintro e w' ⟨rfl, w1, ⟨kv, h1, h2, h3⟩, ho, rfl⟩
    refine ⟨rfl, kv, h1.other (by show m ≠ W.heap.size; omega) _, h2.other (by show f ≠ W.heap.size; omega) _, ?_⟩
    have h4 : Fr B (fun k => k = m ∨ k = f) W w1 := Fr.narrow ((Below.refl _ _).alloc (Nat.le_refl _) _) h3 (by omega) (fun _ _ h => h)
    exact h4.set (.inr (Nat.le_refl _)) (by omega) 0 _
set_option maxRecDepth 100000 in
set_option maxHeartbeats 8000000 in
theorem Restored_calls (t : ByteArray) (a : Nat) (A : Option Addr) (c : Nat) (l : List Key5) (s1 : KS) (w : World) (ht : t.size ≤ 1000000) (ha : a ≤ (runesOf t).length) (hl : l.length ≤ 1000000) (hlc : l.length ≤ c) (hK : KR w w.heap.size A l) (hrun : krun ⟨runesOf t, a, []⟩ l = some s1) :
    Calls Tryd.prog 22 #[.agg #[.string t, .int .i64 a], .slice A l.length c] w fun e w' => e = .returned (.tuple #[.agg #[.string (runesBytes (runesOf t)), .int .i64 a], .bool true]) ∧ Below w.heap.size w w' := by
  have hcv := runes_run (P := Tryd.prog) (((w.alloc (.cells #[.string t, .int .i64 a] 23)).alloc (.cells #[.slice A l.length c] 26)).alloc (.cells #[.string ⟨#[]⟩, .int .i64 0] 23)) 9 66 21 t (by kernel_rfl) (by kernel_rfl) (by kernel_rfl) (by omega)
  have hlen := runesOf_length t
  generalize runesOf t = xs at *
  have hcap := grownCap_ge (((w.alloc (.cells #[.string t, .int .i64 a] 23)).alloc (.cells #[.slice A l.length c] 26)).alloc (.cells #[.string ⟨#[]⟩, .int .i64 0] 23)) xs.length 0 21
  have hmax := grownCap_le_maxLen (((w.alloc (.cells #[.string t, .int .i64 a] 23)).alloc (.cells #[.slice A l.length c] 26)).alloc (.cells #[.string ⟨#[]⟩, .int .i64 0] 23)) xs.length 0 21 (by unfold maxLen; omega)
  generalize grownCap (((w.alloc (.cells #[.string t, .int .i64 a] 23)).alloc (.cells #[.slice A l.length c] 26)).alloc (.cells #[.string ⟨#[]⟩, .int .i64 0] 23)) xs.length 0 21 = cap at *
  have r0 := ((Rec.new w [.string t, .int .i64 a] 23).alloc (.cells #[.slice A l.length c] 26)).alloc (.cells #[.string ⟨#[]⟩, .int .i64 0] 23)
  have r1 := (One.at_ (b := w.heap.size + 1) (w.alloc (.cells #[.string t, .int .i64 a] 23)) (.slice A l.length c) 26 (by simp)).alloc (.cells #[.string ⟨#[]⟩, .int .i64 0] 23)
  have r2 := Rec.at_ (b := w.heap.size + 2) ((w.alloc (.cells #[.string t, .int .i64 a] 23)).alloc (.cells #[.slice A l.length c] 26)) [.string ⟨#[]⟩, .int .i64 0] 23 (by simp)
  have b0 : Below w.heap.size w (((w.alloc (.cells #[.string t, .int .i64 a] 23)).alloc (.cells #[.slice A l.length c] 26)).alloc (.cells #[.string ⟨#[]⟩, .int .i64 0] 23)) := (((Below.refl _ _).alloc (Nat.le_refl _) _).alloc (by simp) _).alloc (by simp; omega) _
  have hrow : Own ((((w.alloc (.cells #[.string t, .int .i64 a] 23)).alloc (.cells #[.slice A l.length c] 26)).alloc (.cells #[.string ⟨#[]⟩, .int .i64 0] 23)).drew.alloc (.cells (runeCells xs cap).toArray 21)) w.heap.size (.slice (some ⟨w.heap.size + 3, 0, none⟩) xs.length cap) xs := by
    have := own_runes (((w.alloc (.cells #[.string t, .int .i64 a] 23)).alloc (.cells #[.slice A l.length c] 26)).alloc (.cells #[.string ⟨#[]⟩, .int .i64 0] 23)) w.heap.size 21 xs cap hcap hmax (by simp; omega)
    have hz : (((w.alloc (.cells #[.string t, .int .i64 a] 23)).alloc (.cells #[.slice A l.length c] 26)).alloc (.cells #[.string ⟨#[]⟩, .int .i64 0] 23)).heap.size = w.heap.size + 3 := by simp
    rw [hz] at this
    have e : (runeCells xs cap).toArray = (xs.map (Value.int .i32)).toArray ++ Array.replicate (cap - xs.length) (.int .i32 0) := by unfold runeCells; simp
    unfold Own
    rw [e]
    exact this
  have f0 := r0.cell 0 rfl
  have f1 := r0.cell 1 rfl
  have hmf := made_f
  have HR := Lib.hid (And.intro r0 (And.intro r1 (And.intro r2 (And.intro b0 hrow))))
  have HKR := Lib.hid (And.intro hK hrun)
  have d1 : decide ((a : Int) < 0) = false := decide_eq_false (by omega)
  have d2 : decide (xs.length < a) = false := decide_eq_false (by omega)
  have d3 : decide ((xs.length : Int) < (a : Int)) = false := decide_eq_false (by omega)
  clear r0 r1 r2 b0 hrow hK hrun
  go_enter Tryd.func22, Tryd.ntmps22
  go_wp2_with fail
  refine (NewBuffer_calls _).mono ?_
  rintro e w1 ⟨m, v, rfl, hm, hms, hb1⟩
  have q0 : Rec w1 w.heap.size [.string t, .int .i64 a] 23 := (HR.out.1.alloc _).drew.stays hb1
  have q1 : One w1 (w.heap.size + 1) (.slice A l.length c) 26 := (HR.out.2.1.alloc _).drew.stays hb1
  have q2 : Rec w1 (w.heap.size + 2) [.string ⟨#[]⟩, .int .i64 0] 23 := (HR.out.2.2.1.alloc _).drew.stays hb1
  have q3 : Own w1 w.heap.size (.slice (some ⟨w.heap.size + 3, 0, none⟩) xs.length cap) xs := HR.out.2.2.2.2.below hb1
  have b1 : Below w.heap.size w w1 := ((HR.out.2.2.2.1.alloc (by simp; omega) _).drew).trans (hb1.mono (by simp; omega))
  have hml := hm.lt
  have hms4 : w.heap.size + 4 ≤ m := by have := hms; simp at this; omega
  have hmne : m ≠ w1.heap.size := by omega
  have p0 := q0.alloc (.cells #[Pt m] 68)
  have p0a := p0.cell 0 rfl
  have p0b := p0.cell 1 rfl
  have pq := One.new w1 (Pt m) 68
  have pqc := pq.cell
  have HS := Lib.hid (set_calls m w.heap.size a ⟨[], 0, []⟩ (rest8 v) (some ⟨w.heap.size + 3, 0, none⟩) xs.length cap xs (w1.alloc (.cells #[Pt m] 68)) (.slice none 0 0) ⟨_, hm.alloc _, Own.nil _ _, by omega⟩ rfl (q3.alloc _) ha (fun k _ e => by simp [Value.ownBlock] at e))
  have HQ := Lib.hid (And.intro p0 (And.intro (q1.alloc (.cells #[Pt m] 68)) (And.intro (q2.alloc (.cells #[Pt m] 68)) (And.intro pq (b1.alloc (by have := b1.size; exact this) (.cells #[Pt m] 68))))))
  clear q0 q1 q2 q3 b1 p0 pq hm hms HR hcv hb1
  go_wp2_with fail
  refine HS.out.mono ?_
  rintro e w2 ⟨rfl, hR2, hF2⟩
  obtain ⟨bv, kv, hm2, hbv, hkv, hd2, hB2, hi2⟩ := hR2
  dsimp only at hm2 hbv hkv hi2
  obtain ⟨A1, c1, rfl, hlc1, hcm1, hA1⟩ := hbv.form
  have s0 := hF2.rec HQ.out.1 (by decide) (by show w.heap.size ≠ m; omega)
  have s1' := hF2.one HQ.out.2.1 (by decide) (by show w.heap.size + 1 ≠ m; omega)
  have s2 := hF2.rec HQ.out.2.2.1 (by decide) (by show w.heap.size + 2 ≠ m; omega)
  have sq := hF2.one HQ.out.2.2.2.1 (by decide) (by show w1.heap.size ≠ m; omega)
  have sb := HQ.out.2.2.2.2.trans hF2.1
  have sqc := sq.cell
  have hm2l := hm2.lt
  have hsz2 : w1.heap.size < w2.heap.size := sq.lt
  have HB := Lib.hid (Backup_calls m A1 xs.length c1 kv a (rest8 v) w2 hm2 w.heap.size hB2)
  have HQ2 := Lib.hid (And.intro s0 (And.intro s1' (And.intro s2 (And.intro sq (And.intro sb (And.intro hbv (And.intro hkv (And.intro hd2 (And.intro hm2 hA1)))))))))
  clear s0 s1' s2 sq sb hbv hkv hd2 hA1 hm2 HS HQ hF2 p0a p0b pqc
  go_wp2_with fail
  refine HB.out.mono ?_
  rintro e w3 ⟨rfl, hm3, hb3, hF3⟩
  have hneB : ∀ k, (Value.slice A1 xs.length c1).ownBlock = some k → ¬ (k = m) := fun k hk e => (HQ2.out.2.2.2.2.2.1.row k hk).1.ne_rec HQ2.out.2.2.2.2.2.2.2.2.1 (by decide) e
  have hneK : ∀ k, kv.ownBlock = some k → ¬ (k = m) := fun k hk e => (HQ2.out.2.2.2.2.2.2.1.row k hk).1.ne_rec HQ2.out.2.2.2.2.2.2.2.2.1 (by decide) e
  have t0 := hF3.rec HQ2.out.1 (by decide) (by show w.heap.size ≠ m; omega)
  have t1 := hF3.one HQ2.out.2.1 (by decide) (by show w.heap.size + 1 ≠ m; omega)
  have t2 := hF3.rec HQ2.out.2.2.1 (by decide) (by show w.heap.size + 2 ≠ m; omega)
  have tq := hF3.one HQ2.out.2.2.2.1 (by decide) (by show w1.heap.size ≠ m; omega)
  have tb := HQ2.out.2.2.2.2.1.trans hF3.1
  have tv : Own w3 w.heap.size (.slice A1 xs.length c1) xs := HQ2.out.2.2.2.2.2.1.move fun k hk => hF3.2 k (HQ2.out.2.2.2.2.2.1.lt k hk) (hneB k hk)
  have tk : Own w3 w.heap.size kv [] := HQ2.out.2.2.2.2.2.2.1.move fun k hk => hF3.2 k (HQ2.out.2.2.2.2.2.2.1.lt k hk) (hneK k hk)
  have hb3l := hb3.lt
  have tR : RB w3 w.heap.size m ((rest8 v).bck (Pt w2.heap.size)) ⟨xs, a, []⟩ := ⟨_, kv, hm3, tv, tk, HQ2.out.2.2.2.2.2.2.2.1, hB2, ha⟩
  have HM := Lib.hid (mid_calls (w.heap.size + 1) w1.heap.size w3.heap.size m w2.heap.size w.heap.size c A l (rest8 v) ⟨xs, a, []⟩ s1 A1 xs.length c1 a (w3.alloc (.cells #[.bool true] 4)) hl hlc (t1.alloc _) (tq.alloc _) (One.new w3 (.bool true) 4) (hb3.alloc _) (by omega) (by omega) (by omega) (by omega) (by omega) (by omega) (by omega) (by omega) (tR.alloc _) ((HKR.out.1.below tb).below ((Below.refl _ _).alloc (by omega) _)) HKR.out.2)
  have tfc := (One.new w3 (.bool true) 4).cell
  have tqc := (tq.alloc (.cells #[.bool true] 4)).cell
  have HQ3 := Lib.hid (And.intro (t0.alloc (.cells #[.bool true] 4)) (And.intro (t2.alloc (.cells #[.bool true] 4)) (And.intro (tq.alloc (.cells #[.bool true] 4)) (And.intro (tb.alloc (by omega) (.cells #[.bool true] 4)) (tv.alloc (.cells #[.bool true] 4))))))
  have hsz3 : w2.heap.size < w3.heap.size := hb3l
  clear t0 t1 t2 tq tb tv tk tR HB hF3 hm3 hb3 hneK sqc
  go_wp2_with fail
  refine HM.out.mono ?_
  rintro e w4 ⟨rfl, kv4, hm4, hf4, hF4⟩
  have u2 := hF4.rec HQ3.out.2.1 (by decide) (by show ¬ (w.heap.size + 2 = m ∨ w.heap.size + 2 = w3.heap.size); omega)
  have uq := hF4.one HQ3.out.2.2.1 (by decide) (by show ¬ (w1.heap.size = m ∨ w1.heap.size = w3.heap.size); omega)
  have ub := HQ3.out.2.2.2.1.trans hF4.1
  have uv : Own w4 w.heap.size (.slice A1 xs.length c1) xs := HQ3.out.2.2.2.2.move fun k hk => hF4.2 k (HQ3.out.2.2.2.2.lt k hk) (by
    rintro (e | e)
    · exact hneB k hk e
    · exact (HQ3.out.2.2.2.2.row k hk).1.ne_rec (One.new w3 (.bool true) 4).rec (by decide) e)
  have ufc := hf4.cell
  have uqc := uq.cell
  have u2l := u2.lt
  have HQ4 := Lib.hid (And.intro u2 (And.intro uq (And.intro ub (And.intro uv hm4))))
  clear u2 uq ub uv hm4 HM hF4 hf4 HQ3 HQ2 tfc tqc
  go_wp2_with fail
  refine wp_region_noPanic ?_
  refine wp_region_held_drew (S := fun w' => w'.cell? ⟨w1.heap.size, 0, none⟩ = some (Pt m)) (by kernel_rfl) uqc (fun hHeld => ?_)
  refine wpAnyH_take (i := 0) (v := ?v0) (by simp only [List.getElem?_toArray, List.getElem?_cons_succ, List.getElem?_cons_zero]; rfl) (by kernel_rfl) (by kernel_rfl) (by kernel_rfl) (fun _ _ _ h => h) (Or.inl ⟨by rfl, ?h0⟩) (by assumption) ?_
  case h0 => (intro w hSw; (try dsimp only at hSw); go_simp; try with_reducible rfl)
  try simp only [Act.put, List.setIfInBounds_toArray, List.set_cons_zero, List.set_cons_succ]
  refine wpAnyH_take (i := 3) (v := ?v3) (by simp only [List.getElem?_toArray, List.getElem?_cons_succ, List.getElem?_cons_zero]; rfl) (by kernel_rfl) (by kernel_rfl) (by kernel_rfl) (fun _ _ _ h => h) (Or.inl ⟨by rfl, ?h3⟩) (by assumption) ?_
  case h3 => (intro w hSw; (try dsimp only at hSw); go_simp; try with_reducible rfl)
  try simp only [Act.put, List.setIfInBounds_toArray, List.set_cons_zero, List.set_cons_succ]
  refine wpAnyH_ready (rs := [1]) (by kernel_rfl) (by simp) ?_
  refine AllReadyH.cons (o := _) rfl (fun K hK => ?_) AllReadyH.nil
  go_simp
  refine (Runes_rec m w.heap.size a A1 c1 xs kv4 _ _ HQ4.out.2.2.2.2.drew HQ4.out.2.2.2.1.drew (by omega)).mono ?_
  rintro e w5 ⟨rfl, hr5, hb5⟩
  have hcv5 : (convert 66 9 (.slice (some ⟨w4.heap.size, 0, none⟩) xs.length xs.length)).run Tryd.prog w5 = .ok (.string (runesBytes xs)) w5 := runes_str (P := Tryd.prog) w5 66 9 21 _ 0 xs.length xs xs.length rfl (by kernel_rfl) (by kernel_rfl) (by kernel_rfl) (fun j hj => by rw [Nat.zero_add]; exact hr5.cell j (by simp [List.getD, List.getElem?_eq_getElem hj]))
  have r2 := HQ4.out.1.drew.stays hb5
  have r4 := HQ4.out.2.1.drew.stays hb5
  have hSS := r4.cell
  have l1 := r2.cell 0 rfl
  have l2 := r2.cell 1 rfl
  have l3 := r2.free 0
  have l4 := r2.free 1
  refine hK.out _ _ hSS (fun hHeld2 => ?_)
  clear hK K hHeld
  try simp only [Act.put, List.setIfInBounds_toArray, List.set_cons_zero, List.set_cons_succ]
  refine wpAnyH_ready (rs := [2, 4]) (by kernel_rfl) (by simp) ?_
  refine AllReadyH.cons (o := _) rfl (fun K hK => ?_) (AllReadyH.cons (o := _) rfl (fun K hK => ?_) AllReadyH.nil)
  · go_simp
    refine hK.out _ _ hSS (fun hHeldC => ?_)
    clear hK K
    try simp only [Act.put, List.setIfInBounds_toArray, List.set_cons_zero, List.set_cons_succ]
    refine wpAnyH_ready (rs := [4]) (by kernel_rfl) (by simp) ?_
    refine AllReadyH.cons (o := _) rfl (fun K hK => ?_) AllReadyH.nil
    go_simp
    refine (Pos_rec m a _ kv4 _ _ (HQ4.out.2.2.2.2.drew.stays hb5)).mono ?_
    rintro e w6 ⟨rfl, rfl⟩
    refine hK.out _ _ hSS (fun hHeldP => ?_)
    clear hK K
    try simp only [Act.put, List.setIfInBounds_toArray, List.set_cons_zero, List.set_cons_succ]
    refine wpAnyH_take (i := 5) (v := ?v5) (by simp only [List.getElem?_toArray, List.getElem?_cons_succ, List.getElem?_cons_zero]; rfl) (by kernel_rfl) (by kernel_rfl) (by kernel_rfl) (fun _ _ _ h => h) (Or.inl ⟨by rfl, ?h5⟩) (by assumption) ?_
    case h5 => (intro w hSw; (try dsimp only at hSw); go_simp; try with_reducible rfl)
    try simp only [Act.put, List.setIfInBounds_toArray, List.set_cons_zero, List.set_cons_succ]
    have w3r := ((r2.set 0 (.string (runesBytes xs))).set 1 (.int .i64 a))
    have s7q := (r4.other (a := ⟨w.heap.size + 2, 0, none⟩) (by show w1.heap.size ≠ w.heap.size + 2; omega) (.string (runesBytes xs))).other (a := ⟨w.heap.size + 2, 1, none⟩) (by show w1.heap.size ≠ w.heap.size + 2; omega) (.int .i64 a)
    refine wpAnyH_ready (rs := [6]) (by kernel_rfl) (by simp) ?_
    refine AllReadyH.cons (o := _) rfl (fun K hK => ?_) AllReadyH.nil
    go_simp
    refine hK.out _ _ s7q.cell (fun hHeld7 => ?_)
    clear hK K
    try simp only [Act.put, List.setIfInBounds_toArray, List.set_cons_zero, List.set_cons_succ]
    refine wpAnyH_take (i := 7) (v := ?v7) (by simp only [List.getElem?_toArray, List.getElem?_cons_succ, List.getElem?_cons_zero]; rfl) (by kernel_rfl) (by kernel_rfl) (by kernel_rfl) (fun _ _ _ h => h) (Or.inl ⟨by rfl, ?h7⟩) (by assumption) ?_
    case h7 => (intro w hSw; (try dsimp only at hSw); go_simp; try with_reducible rfl)
    try simp only [Act.put, List.setIfInBounds_toArray, List.set_cons_zero, List.set_cons_succ]
    refine wpAnyH_done (by kernel_rfl) ?_ _
    refine NoPanic.normal ?_
    have e0 := w3r.cell 0 rfl
    have e1 := w3r.cell 1 rfl
    have b8 := ((HQ4.out.2.2.1.drew.trans (hb5.mono (by have := HQ4.out.2.2.1.size; exact this))).setCell (p := ⟨w.heap.size + 2, 0, none⟩) (by show w.heap.size ≤ w.heap.size + 2; omega) (.string (runesBytes xs))).setCell (p := ⟨w.heap.size + 2, 1, none⟩) (by show w.heap.size ≤ w.heap.size + 2; omega) (.int .i64 a)
    go_wp2
    exact bodyPost_ret (v := .tuple #[.agg #[.string (runesBytes xs), .int .i64 a], .bool true]) (by simp [results, Tryd.results22, go_sem, e0, e1]) rfl ⟨rfl, b8⟩
  · go_simp
    refine (Pos_rec m a _ kv4 _ _ (HQ4.out.2.2.2.2.drew.stays hb5)).mono ?_
    rintro e w6 ⟨rfl, rfl⟩
    refine hK.out _ _ hSS (fun hHeldP => ?_)
    clear hK K
    try simp only [Act.put, List.setIfInBounds_toArray, List.set_cons_zero, List.set_cons_succ]
    refine wpAnyH_ready (rs := [2]) (by kernel_rfl) (by simp) ?_
    refine AllReadyH.cons (o := _) rfl (fun K hK => ?_) AllReadyH.nil
    go_simp
    refine hK.out _ _ hSS (fun hHeldC => ?_)
    clear hK K
    try simp only [Act.put, List.setIfInBounds_toArray, List.set_cons_zero, List.set_cons_succ]
    refine wpAnyH_take (i := 5) (v := ?v5) (by simp only [List.getElem?_toArray, List.getElem?_cons_succ, List.getElem?_cons_zero]; rfl) (by kernel_rfl) (by kernel_rfl) (by kernel_rfl) (fun _ _ _ h => h) (Or.inl ⟨by rfl, ?h5⟩) (by assumption) ?_
    case h5 => (intro w hSw; (try dsimp only at hSw); go_simp; try with_reducible rfl)
    try simp only [Act.put, List.setIfInBounds_toArray, List.set_cons_zero, List.set_cons_succ]
    have w3r := ((r2.set 0 (.string (runesBytes xs))).set 1 (.int .i64 a))
    have s7q := (r4.other (a := ⟨w.heap.size + 2, 0, none⟩) (by show w1.heap.size ≠ w.heap.size + 2; omega) (.string (runesBytes xs))).other (a := ⟨w.heap.size + 2, 1, none⟩) (by show w1.heap.size ≠ w.heap.size + 2; omega) (.int .i64 a)
    refine wpAnyH_ready (rs := [6]) (by kernel_rfl) (by simp) ?_
    refine AllReadyH.cons (o := _) rfl (fun K hK => ?_) AllReadyH.nil
    go_simp
    refine hK.out _ _ s7q.cell (fun hHeld7 => ?_)
    clear hK K
    try simp only [Act.put, List.setIfInBounds_toArray, List.set_cons_zero, List.set_cons_succ]
    refine wpAnyH_take (i := 7) (v := ?v7) (by simp only [List.getElem?_toArray, List.getElem?_cons_succ, List.getElem?_cons_zero]; rfl) (by kernel_rfl) (by kernel_rfl) (by kernel_rfl) (fun _ _ _ h => h) (Or.inl ⟨by rfl, ?h7⟩) (by assumption) ?_
    case h7 => (intro w hSw; (try dsimp only at hSw); go_simp; try with_reducible rfl)
    try simp only [Act.put, List.setIfInBounds_toArray, List.set_cons_zero, List.set_cons_succ]
    refine wpAnyH_done (by kernel_rfl) ?_ _
    refine NoPanic.normal ?_
    have e0 := w3r.cell 0 rfl
    have e1 := w3r.cell 1 rfl
    have b8 := ((HQ4.out.2.2.1.drew.trans (hb5.mono (by have := HQ4.out.2.2.1.size; exact this))).setCell (p := ⟨w.heap.size + 2, 0, none⟩) (by show w.heap.size ≤ w.heap.size + 2; omega) (.string (runesBytes xs))).setCell (p := ⟨w.heap.size + 2, 1, none⟩) (by show w.heap.size ≤ w.heap.size + 2; omega) (.int .i64 a)
    go_wp2
    exact bodyPost_ret (v := .tuple #[.agg #[.string (runesBytes xs), .int .i64 a], .bool true]) (by simp [results, Tryd.results22, go_sem, e0, e1]) rfl ⟨rfl, b8⟩
end Go.Proofs.YtdinikcfhpfojaaDoor.G
