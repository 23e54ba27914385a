/- One step over readline's buffer (impl.keyed, impl.worded) that turns no row: what it makes of the buffer; no condition but bounds that the steps themselves ask. -/
import Derived.Test.YtdinikcfhpfojaaDoorQGWordK
import Derived.Test.YtdinikcfhpfojaaDoorQGPut
namespace Go.Proofs.YtdinikcfhpfojaaDoor.G
open Go.RowKit Go.Proofs.YtdinikcfhpfojaaDoor.H Go.Proofs.YtdinikcfhpfojaaDoorW.PrintWords Go.Proofs.YtdinikcfhpfojaaDoorW.PrintLast Go.Proofs.YtdinikcfhpfojaaDoor.R
set_option linter.unusedVariables false
set_option linter.unusedSimpArgs false
attribute [local go_sem ↓] Go.wp_at_zero Go.wp_at_succ
theorem told_calls (b : Bool) (w : World) : Calls Tryd.prog 68 #[.bool b] w fun e w' => e = .returned (.int .i64 (if b then 1 else 0)) ∧ w = w' := by
  cases b
  all_goals
    go_enter Tryd.func68, Tryd.ntmps68
    go_wp2
    go_ret
    exact ⟨rfl, rfl⟩
structure Key5 where
  op : Int
  text : ByteArray
  n : Int
  flag : Bool
  back : Bool
def KOK (s : KS) : Prop := s.buf.length + s.kill.length ≤ 500000000
instance (s : KS) : Decidable (KOK s) := by unfold KOK; infer_instance
/-- What a step over words makes. -/
def wstep5 (s : KS) (op : Int) : Option (KS × Int) :=
  if op = 10 then some ({ s with idx := prevW s.buf (s.idx - 1) }, if 0 < s.idx then 1 else 0)
  else if op = 11 then some ({ s with idx := nextW s.buf (s.buf.length - (s.idx + 1)) (s.idx + 1) }, -1)
  else if op = 15 then some (⟨s.buf.take s.idx, s.idx, s.buf.drop s.idx⟩, -1)
  else none
/-- What a step makes. -/
def step5 (s : KS) (k : Key5) : Option (KS × Int) :=
  if (KOK s) ∧ k.text.size ≤ 1000000 ∧ 0 ≤ k.n ∧ k.n ≤ 1114111 then
    (if k.op = 2 then some (kfwd s, -1)
    else if k.op = 3 then some ({ s with idx := s.idx - 1 }, -1)
    else if k.op = 4 then some ({ s with idx := 0 }, -1)
    else if k.op = 5 then some ({ s with idx := s.buf.length }, -1)
    else if k.op = 9 then some (⟨[], 0, s.buf⟩, -1)
    else if k.op = 20 then (if k.n ≤ (runesOf k.text).length then some (⟨runesOf k.text, k.n.toNat, s.kill⟩, -1) else none)
    else wstep5 s k.op)
  else none
def Stepped (B m : Nat) (r : Rest) (w : World) (p : KS × Int) (e : Ending) (w' : World) : Prop := e = .returned (.tuple #[.int .i64 p.2, .bool true]) ∧ RB w' B m r p.1 ∧ Fr B (At m) w w'
set_option maxHeartbeats 4000000 in
theorem worded_calls (m B : Nat) (s : KS) (r : Rest) (op : Int) (w : World) (h : RB w B m r s) (hs : (KOK s)) (p : KS × Int) (hp : wstep5 s op = some p) : Calls Tryd.prog 75 #[Pt m, .int .i64 op] w (Stepped B m r w p) := by
  unfold KOK at hs
  have hl : s.buf.length ≤ 1000000000 := by omega
  unfold wstep5 at hp
  by_cases k1 : op = 10
  · subst k1
    rw [if_pos rfl] at hp
    obtain rfl := Option.some.inj hp
    have HC := Lib.hid (prev_calls m B s r w h hl)
    have ht : (if decide (0 < s.idx) = true then (1 : Int) else 0) = if 0 < s.idx then 1 else 0 := by simp
    have HT := Lib.hid ht
    clear ht hp h
    generalize (if 0 < s.idx then (1 : Int) else 0) = t at *
    generalize decide (0 < s.idx) = bb at *
    go_enter Tryd.func75, Tryd.ntmps75
    go_wp2_with (first | (go_at_call 109; refine HC.out.mono ?_; rintro e w1 ⟨rfl, hR, hF⟩) | (go_at_call 68; refine (told_calls _ _).mono ?_; rw [HT.out]; rintro e w2 ⟨rfl, rfl⟩))
    go_ret2
    exact ⟨rfl, hR, hF⟩
  rw [if_neg k1] at hp
  by_cases k2 : op = 11
  · subst k2
    rw [if_pos rfl] at hp
    obtain rfl := Option.some.inj hp
    have HC := Lib.hid (next_calls m B s r w h hl)
    clear hp h
    go_enter Tryd.func75, Tryd.ntmps75
    go_wp2_with (go_at_call 110; refine HC.out.mono ?_; rintro e w1 ⟨rfl, hR, hF⟩)
    go_ret2
    exact ⟨rfl, hR, hF⟩
  rw [if_neg k2] at hp
  by_cases k4 : op = 15
  · subst k4
    rw [if_pos rfl] at hp
    obtain rfl := Option.some.inj hp
    have HC := Lib.hid (kill_calls m B s r w h hl)
    clear hp h
    go_enter Tryd.func75, Tryd.ntmps75
    go_wp2_with (go_at_call 114; refine HC.out.mono ?_; rintro e w1 ⟨rfl, hR, hF⟩)
    go_ret2
    exact ⟨rfl, hR, hF⟩
  rw [if_neg k4] at hp
  cases hp
theorem below_da (W : World) (o : Obj) : Below W.heap.size W (W.drew.alloc o) := ((Below.refl W.heap.size W).drew).alloc (Nat.le_refl _) o
set_option maxHeartbeats 8000000 in
theorem keyed_calls (m B : Nat) (s : KS) (r : Rest) (k : Key5) (w : World) (h : RB w B m r s) (p : KS × Int) (hp : step5 s k = some p) : Calls Tryd.prog 41 #[Pt m, .agg #[.int .i64 k.op, .string k.text, .int .i64 k.n, .bool k.flag, .bool k.back]] w (Stepped B m r w p) := by
  unfold step5 at hp
  obtain ⟨op, text, n, flag, back⟩ := k
  dsimp only at *
  by_cases hc' : ¬ ((KOK s) ∧ text.size ≤ 1000000 ∧ 0 ≤ n ∧ n ≤ 1114111)
  · rw [if_neg hc'] at hp; cases hp
  have hc := Decidable.not_not.1 hc'
  clear hc'
  rw [if_pos hc] at hp
  obtain ⟨hs, hts, hn0, hn1⟩ := hc
  have hs' := hs
  unfold KOK at hs'
  have hl : s.buf.length ≤ 1000000000 := by omega
  have hw : IntKind.i32.wrap n = n := IntWalk.i32_in _ ⟨by omega, by omega⟩
  have hB := h.lt
  have b1 := (Below.refl w.heap.size w).alloc (Nat.le_refl _) (.cells #[.int .i64 op, .string text, .int .i64 n, .bool flag, .bool back] 29)
  have h1 := h.below b1
  have hr := Rec.new w [.int .i64 op, .string text, .int .i64 n, .bool flag, .bool back] 29
  have HF := Lib.hid (fun w1 (hF : Fr B (At m) (w.alloc (.cells #[.int .i64 op, .string text, .int .i64 n, .bool flag, .bool back] 29)) w1) => Fr.narrow b1 hF (by omega : B ≤ w.heap.size) (fun k hk h => h))
  have f0 := hr.cell 0 rfl
  have f1 := hr.cell 1 rfl
  have f2 := hr.cell 2 rfl
  have f3 := hr.cell 3 rfl
  have f4 := hr.cell 4 rfl
  clear h hr b1
  by_cases k1 : op = 2
  · subst k1
    rw [if_pos rfl] at hp
    obtain rfl := Option.some.inj hp
    have HC := Lib.hid (fwd_calls m B s r _ h1 hl)
    clear hp h1
    go_enter Tryd.func41, Tryd.ntmps41
    go_wp2_with (go_at_call 64; refine HC.out.mono ?_; rintro e w1 ⟨rfl, hR, hF⟩)
    go_ret2
    exact ⟨rfl, hR, HF.out _ hF⟩
  rw [if_neg k1] at hp
  by_cases k2 : op = 3
  · subst k2
    rw [if_pos rfl] at hp
    obtain rfl := Option.some.inj hp
    have HC := Lib.hid (bwd_calls m B s r _ h1 hl)
    clear hp h1
    go_enter Tryd.func41, Tryd.ntmps41
    go_wp2_with (go_at_call 65; refine HC.out.mono ?_; rintro e w1 ⟨rfl, hR, hF⟩)
    go_ret2
    exact ⟨rfl, hR, HF.out _ hF⟩
  rw [if_neg k2] at hp
  by_cases k3 : op = 4
  · subst k3
    rw [if_pos rfl] at hp
    obtain rfl := Option.some.inj hp
    have HC := Lib.hid (start_calls m B s r _ h1 hl)
    clear hp h1
    go_enter Tryd.func41, Tryd.ntmps41
    go_wp2_with (go_at_call 66; refine HC.out.mono ?_; rintro e w1 ⟨rfl, hR, hF⟩)
    go_ret2
    exact ⟨rfl, hR, HF.out _ hF⟩
  rw [if_neg k3] at hp
  by_cases k4 : op = 5
  · subst k4
    rw [if_pos rfl] at hp
    obtain rfl := Option.some.inj hp
    have HC := Lib.hid (kend_calls m B s r _ h1 hl)
    clear hp h1
    go_enter Tryd.func41, Tryd.ntmps41
    go_wp2_with (go_at_call 67; refine HC.out.mono ?_; rintro e w1 ⟨rfl, hR, hF⟩)
    go_ret2
    exact ⟨rfl, hR, HF.out _ hF⟩
  rw [if_neg k4] at hp
  by_cases k6 : op = 9
  · subst k6
    rw [if_pos rfl] at hp
    obtain rfl := Option.some.inj hp
    have HC := Lib.hid (erase_calls m B s r _ h1 hl)
    clear hp h1
    go_enter Tryd.func41, Tryd.ntmps41
    go_wp2_with (go_at_call 72; refine HC.out.mono ?_; rintro e w1 ⟨rfl, hR, hF⟩)
    go_ret2
    exact ⟨rfl, hR, HF.out _ hF⟩
  rw [if_neg k6] at hp
  by_cases k8 : op = 20
  · subst k8
    rw [if_pos rfl] at hp
    by_cases hx : n ≤ (runesOf text).length
    · rw [if_pos hx] at hp
      obtain rfl := Option.some.inj hp
      obtain ⟨i, rfl⟩ := Int.eq_ofNat_of_zero_le hn0
      have hcv := runes_run (P := Tryd.prog) (w.alloc (.cells #[.int .i64 20, .string text, .int .i64 i, .bool flag, .bool back] 29)) 9 66 21 text (by kernel_rfl) (by kernel_rfl) (by kernel_rfl) (by omega)
      have hlen := runesOf_length text
      rw [Int.toNat_natCast]
      generalize runesOf text = l at *
      have hcap := grownCap_ge (w.alloc (.cells #[.int .i64 20, .string text, .int .i64 i, .bool flag, .bool back] 29)) l.length 0 21
      have hmax := grownCap_le_maxLen (w.alloc (.cells #[.int .i64 20, .string text, .int .i64 i, .bool flag, .bool back] 29)) l.length 0 21 (by unfold maxLen; omega)
      generalize grownCap (w.alloc (.cells #[.int .i64 20, .string text, .int .i64 i, .bool flag, .bool back] 29)) l.length 0 21 = c at *
      obtain ⟨kv, hk1, hkl⟩ := h1.rbk
      have hrow : Own (((w.alloc (.cells #[.int .i64 20, .string text, .int .i64 i, .bool flag, .bool back] 29)).drew).alloc (.cells (runeCells l c).toArray 21)) B (.slice (some ⟨w.heap.size + 1, 0, none⟩) l.length c) l := by
        have := own_runes (w.alloc (.cells #[.int .i64 20, .string text, .int .i64 i, .bool flag, .bool back] 29)) B 21 l c hcap hmax (by simp; omega)
        have hz : (w.alloc (.cells #[.int .i64 20, .string text, .int .i64 i, .bool flag, .bool back] 29)).heap.size = w.heap.size + 1 := by simp
        rw [hz] at this
        have e : (runeCells l c).toArray = (l.map (Value.int .i32)).toArray ++ Array.replicate (c - l.length) (.int .i32 0) := by unfold runeCells; simp
        unfold Own
        rw [e]
        exact this
      have hb2 : Below (w.alloc (.cells #[.int .i64 20, .string text, .int .i64 i, .bool flag, .bool back] 29)).heap.size (w.alloc (.cells #[.int .i64 20, .string text, .int .i64 i, .bool flag, .bool back] 29)) (((w.alloc (.cells #[.int .i64 20, .string text, .int .i64 i, .bool flag, .bool back] 29)).drew).alloc (.cells (runeCells l c).toArray 21)) := below_da _ _
      have hz2 : (w.alloc (.cells #[.int .i64 20, .string text, .int .i64 i, .bool flag, .bool back] 29)).heap.size = w.heap.size + 1 := by simp
      rw [hz2] at hkl
      have hk2 := hk1.below hb2
      have f2' := (pw_cell_below hb2 f2)
      have HC := Lib.hid (set_calls m B i s r (some ⟨w.heap.size + 1, 0, none⟩) l.length c l _ kv hk2 rfl hrow (by omega) (fun k e1 e2 => by have e3 : w.heap.size + 1 = k := (by simpa [Value.ownBlock] using e1); exact absurd (hkl k e2) (by omega)))
      have HF2 := Lib.hid (fun w1 (hF : Fr B (At m) (((w.alloc (.cells #[.int .i64 20, .string text, .int .i64 i, .bool flag, .bool back] 29)).drew).alloc (.cells (runeCells l c).toArray 21)) w1) => HF.out w1 (Fr.narrow hb2 hF (by simp; omega) (fun k hk h => h)))
      have n1 : decide ((i : Int) < 0) = false := decide_eq_false (by omega)
      have n2 : decide ((l.length : Int) < (i : Int)) = false := decide_eq_false (by omega)
      have n3 : decide (l.length < i) = false := decide_eq_false (by omega)
      have hxl : i ≤ l.length := by omega
      clear hp h1 hk1 hrow hk2 hx hb2 hkl hz2
      go_enter Tryd.func41, Tryd.ntmps41
      go_wp2_with (go_at_call 37; refine HC.out.mono ?_; rintro e w1 ⟨rfl, hR, hF⟩)
      go_ret2
      exact ⟨rfl, hR, HF2.out _ hF⟩
    · rw [if_neg hx] at hp
      cases hp
  rw [if_neg k8] at hp
  have HC := Lib.hid (worded_calls m B s r op _ h1 hs p hp)
  by_cases j1 : op = 1
  · subst j1; cases hp
  by_cases j2 : op = 6
  · subst j2; cases hp
  by_cases j3 : op = 7
  · subst j3; cases hp
  by_cases j4 : op = 21
  · subst j4; cases hp
  by_cases k5 : op = 8
  · subst k5; cases hp
  by_cases k7 : op = 19
  · subst k7; cases hp
  have d1 : (op == 1) = false := beq_eq_false_iff_ne.2 j1
  have d2 : (op == 2) = false := beq_eq_false_iff_ne.2 k1
  have d3 : (op == 3) = false := beq_eq_false_iff_ne.2 k2
  have d4 : (op == 4) = false := beq_eq_false_iff_ne.2 k3
  have d5 : (op == 5) = false := beq_eq_false_iff_ne.2 k4
  have d6 : (op == 6) = false := beq_eq_false_iff_ne.2 j2
  have d7 : (op == 7) = false := beq_eq_false_iff_ne.2 j3
  have d8 : (op == 8) = false := beq_eq_false_iff_ne.2 k5
  have d9 : (op == 9) = false := beq_eq_false_iff_ne.2 k6
  have d10 : (op == 19) = false := beq_eq_false_iff_ne.2 k7
  have d11 : (op == 20) = false := beq_eq_false_iff_ne.2 k8
  have d12 : (op == 21) = false := beq_eq_false_iff_ne.2 j4
  clear hp h1 k1 k2 k3 k4 k5 k6 k7 k8 j1 j2 j3 j4
  go_enter Tryd.func41, Tryd.ntmps41
  go_wp2_with (go_at_call 75; refine HC.out.mono ?_; rintro e w1 ⟨rfl, hR, hF⟩)
  go_ret2
  exact ⟨rfl, hR, HF.out _ hF⟩
end Go.Proofs.YtdinikcfhpfojaaDoor.G
