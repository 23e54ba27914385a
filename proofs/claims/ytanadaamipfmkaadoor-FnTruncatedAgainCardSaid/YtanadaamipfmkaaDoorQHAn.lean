/- A writer that passes on what it is given, sign by sign, but for sequences (ansi.Writer), over a bytes.Buffer within a struct: plain signs of ASCII; no condition but a bound. -/
import Derived.Test.YtanadaamipfmkaaDoorQHBx
import Derived.StillTailTactics
namespace Go.Proofs.YtanadaamipfmkaaDoor.H
open Go.RowKit Go.Proofs.YtanadaamipfmkaaDoorW.PrintWords Go.Proofs.YtanadaamipfmkaaDoorW.PrintLast Go.Proofs.YtanadaamipfmkaaDoor.R
set_option linter.unusedVariables false
set_option linter.unusedSimpArgs false
attribute [local go_sem ↓] Go.wp_at_zero Go.wp_at_succ
/-- The writer's cells. -/
def anC (m o : Nat) (rbv : Value) : List Value := [.iface 54 (.pointer (some ⟨m, o, none⟩)), .bool false, .slice none 0 0, .int .i64 0, .int .i8 0, .slice none 0 0, .int .i64 0, .int .i8 0, .bool false, rbv]
structure AN (T : TypeId) (R : Nat → Option Value) (B m o q : Nat) (v rbv : Value) (l : List UInt8) (w : World) : Prop where
  buf : BW T R B m o v l w
  rec_ : Rec w q (anC m o rbv) 81
  qm : q ≠ m
  low : B ≤ q
  rb : rbv = .slice none 0 0 ∨ ∃ (rb : Nat) (cs : Array Value), rbv = .slice (some ⟨rb, 0, none⟩) 4 4 ∧ w.heap[rb]? = some (.cells cs 5 (0, 0)) ∧ cs.size = 4 ∧ B ≤ rb ∧ rb ≠ m ∧ v.ownBlock ≠ some rb
/-- What its steps leave as it was. -/
def Oth (B m q : Nat) (w w' : World) : Prop := Below B w w' ∧ ∀ (k : Nat) (o : Obj), w.heap[k]? = some o → k ≠ m → k ≠ q → (∀ (c : Array Value) (fz : Nat × Nat), o ≠ .cells c 5 fz) → w'.heap[k]? = some o
theorem Oth.refl (B m q : Nat) (w : World) : Oth B m q w w := ⟨Below.refl _ _, fun _ _ h _ _ _ => h⟩
theorem Oth.trans {B m q : Nat} {w w1 w2 : World} (h : Oth B m q w w1) (k : Oth B m q w1 w2) : Oth B m q w w2 := ⟨h.1.trans k.1, fun i o hi h1 h2 h3 => k.2 i o (h.2 i o hi h1 h2 h3) h1 h2 h3⟩
section
variable {T : TypeId} {R : Nat → Option Value} {B m o q : Nat} {v v' rbv : Value} {l l' : List UInt8} {w w' : World}
theorem BW.own_ne (h : BW T R B m o v l w) {k : Nat} {ob : Obj} (hk : w.heap[k]? = some ob) (ho : ∀ (c : Array Value) (fz : Nat × Nat), ob ≠ .cells c 5 fz) : v.ownBlock ≠ some k := fun e => by
  obtain ⟨cs, e2⟩ := own_typed h.own k e
  rw [hk] at e2
  exact ho cs _ (Option.some.inj e2)
/-- Behind one byte. -/
theorem AN.push {rb c : Nat} {cs : Array Value} {x : UInt8} (h : AN T R B m o q v (.slice (some ⟨rb, 0, none⟩) 4 4) l w) (hb : BW T R B m o v' l' w') (hB : Below B w w') (hk : Kept m v v' w w') : AN T R B m o q v' (.slice (some ⟨rb, 0, none⟩) 4 4) l' w' := by
  have hq : v.ownBlock ≠ some q := h.buf.own_ne h.rec_ (by intro c fz e; injection e with _ e; exact absurd e (by decide))
  refine ⟨hb, (hk.1 q h.rec_.lt h.qm hq).trans h.rec_, h.qm, h.low, .inr ?_⟩
  rcases h.rb with e | ⟨rb', cs, e, h1, h2, h3, h4, h5⟩
  · cases e
  · injection e with e
    injection e with e
    injection e with e
    subst e
    refine ⟨rb, cs, rfl, (hk.1 rb (lt_of_block h1) h4 h5).trans h1, h2, h3, h4, fun e => ?_⟩
    rcases hk.2 rb e with h | h
    · exact h5 h
    · have := lt_of_block h1; omega
theorem Kept.oth (h : BW T R B m o v l w) (hB : Below B w w') (hk : Kept m v v' w w') : Oth B m q w w' := ⟨hB, fun k ob hh h1 h2 h3 => (hk.1 k (lt_of_block hh) h1 (h.own_ne hh h3)).trans hh⟩
end
theorem meth (m o : Nat) (w : World) : (method 261 54 (.pointer (some ⟨m, o, none⟩)) "Write").run Tryd.prog w = .ok (75, .pointer (some ⟨m, o, none⟩)) w := by kernel_rfl
theorem AN.at_rb {T : TypeId} {R : Nat → Option Value} {B m o q rb : Nat} {v : Value} {l : List UInt8} {w : World} (h : AN T R B m o q v (.slice (some ⟨rb, 0, none⟩) 4 4) l w) : ∃ cs : Array Value, w.heap[rb]? = some (.cells cs 5 (0, 0)) ∧ cs.size = 4 ∧ B ≤ rb ∧ rb ≠ m ∧ v.ownBlock ≠ some rb ∧ q ≠ rb := by
  rcases h.rb with e | ⟨rb', cs, e, h1, h2, h3, h4, h5⟩
  · cases e
  · injection e with e
    injection e with e
    injection e with e
    subst e
    refine ⟨cs, h1, h2, h3, h4, h5, ?_⟩
    rintro rfl
    have h2 := h.rec_
    unfold Rec at h2
    rw [h1] at h2
    injection h2 with h2; injection h2 with _ h2
    exact absurd h2 (by decide)
/-- The sign put into the writer's own row. -/
theorem AN.poke {T : TypeId} {R : Nat → Option Value} {B m o q rb : Nat} {v : Value} {l : List UInt8} {w : World} (h : AN T R B m o q v (.slice (some ⟨rb, 0, none⟩) 4 4) l w) (y : Value) :
    AN T R B m o q v (.slice (some ⟨rb, 0, none⟩) 4 4) l (w.setCell ⟨rb, 0, none⟩ y) ∧ (w.setCell ⟨rb, 0, none⟩ y).cell? ⟨rb, 0, none⟩ = some y := by
  obtain ⟨cs, h1, h2, h3, h4, h5, h6⟩ := h.at_rb
  have hs := Lib.heap_setCell_same (i := 0) h1 y
  refine ⟨⟨⟨h.buf.low, ?_, own_move h.buf.own (fun k e => Below.heap_setCell w ⟨rb, 0, none⟩ y k (fun e2 => h5 (by rw [e, e2]))), h.buf.ne, h.buf.nil⟩, h.rec_.other (a := ⟨rb, 0, none⟩) h6 y, h.qm, h.low, .inr ⟨rb, _, rfl, hs, by simp; exact h2, h3, h4, h5⟩⟩, ?_⟩
  · obtain ⟨lr, h7⟩ := h.buf.three
    exact ⟨lr, h7.of_heap (Below.heap_setCell w ⟨rb, 0, none⟩ y m (Ne.symm h4))⟩
  · unfold World.cell?
    rw [hs]
    simp [h2]
theorem AN.drew {T : TypeId} {R : Nat → Option Value} {B m o q : Nat} {v rbv : Value} {l : List UInt8} {w : World} (h : AN T R B m o q v rbv l w) : AN T R B m o q v rbv l w.drew := ⟨⟨h.buf.low, h.buf.three, h.buf.own, h.buf.ne, h.buf.nil⟩, h.rec_, h.qm, h.low, h.rb⟩
/-- What stands behind the row's making. -/
theorem AN.made {T : TypeId} {R : Nat → Option Value} {B m o q : Nat} {v : Value} {l : List UInt8} {w : World} (h : AN T R B m o q v (.slice none 0 0) l w) (hBw : B ≤ w.heap.size) (M : Array Value) (hM : M.size = 4) :
    AN T R B m o q v (.slice (some ⟨w.heap.size, 0, none⟩) 4 4) l ((w.setCell ⟨q, 9, none⟩ (.slice (some ⟨w.heap.size, 0, none⟩) 4 4)).alloc (.cells M 5)) := by
  have hq : v.ownBlock ≠ some q := h.buf.own_ne h.rec_ (by intro c fz e; injection e with _ e; exact absurd e (by decide))
  have hmv : ∀ k, k < w.heap.size → k ≠ q → ((w.setCell ⟨q, 9, none⟩ (.slice (some ⟨w.heap.size, 0, none⟩) 4 4)).alloc (.cells M 5)).heap[k]? = w.heap[k]? := fun k hk hkq =>
    (Below.heap_alloc _ _ k (by simpa using hk)).trans (Below.heap_setCell w ⟨q, 9, none⟩ _ k hkq)
  obtain ⟨lr, h3⟩ := h.buf.three
  have hnew := Go.heap_alloc_new (w.setCell ⟨q, 9, none⟩ (.slice (some ⟨w.heap.size, 0, none⟩) 4 4)) (.cells M 5)
  rw [show (w.setCell ⟨q, 9, none⟩ (.slice (some ⟨w.heap.size, 0, none⟩) 4 4)).heap.size = w.heap.size by simp] at hnew
  refine ⟨⟨h.buf.low, ⟨lr, h3.of_heap (hmv m h3.lt (Ne.symm h.qm))⟩, own_move h.buf.own (fun k e => hmv k (World.ownsRow.lt h.buf.own k e).2 (fun e2 => hq (by rw [e, e2]))), h.buf.ne, h.buf.nil⟩, (h.rec_.set 9 _).alloc _, h.qm, h.low, .inr ⟨w.heap.size, M, rfl, hnew, hM, hBw, by have := h3.lt; omega, fun e => ?_⟩⟩
  have := (World.ownsRow.lt h.buf.own _ e).2
  omega
theorem AN.poke_oth {T : TypeId} {R : Nat → Option Value} {B m o q rb : Nat} {v : Value} {l : List UInt8} {w : World} (h : AN T R B m o q v (.slice (some ⟨rb, 0, none⟩) 4 4) l w) (y : Value) : Oth B m q w (w.setCell ⟨rb, 0, none⟩ y).drew := by
  obtain ⟨cs, hrb1, h2, hrb3, h4, h5, h6⟩ := h.at_rb
  refine ⟨below_drew ((Below.refl B w).setCell hrb3 _), fun k ob hh h1 h2 h3 => ?_⟩
  refine (Below.heap_setCell w ⟨rb, 0, none⟩ _ k ?_).trans hh
  rintro rfl
  rw [hrb1] at hh
  exact h3 _ _ (Option.some.inj hh).symm
theorem AN.made_oth {T : TypeId} {R : Nat → Option Value} {B m o q : Nat} {v : Value} {l : List UInt8} {w : World} (h : AN T R B m o q v (.slice none 0 0) l w) (hBw : B ≤ w.heap.size) (M : Array Value) :
    Oth B m q w ((w.setCell ⟨q, 9, none⟩ (.slice (some ⟨w.heap.size, 0, none⟩) 4 4)).alloc (.cells M 5)) := by
  refine ⟨((Below.refl B w).setCell h.low _).alloc (by simpa using hBw) _, fun k ob hh h1 h2 h3 => ?_⟩
  have hkl := lt_of_block hh
  exact (Below.heap_alloc _ _ k (by simpa using hkl)).trans ((Below.heap_setCell w ⟨q, 9, none⟩ _ k h2).trans hh)
set_option maxHeartbeats 12800000 in
set_option maxRecDepth 100000 in
/-- One sign. -/
theorem write_rune (T : TypeId) (R : Nat → Option Value) (B m o q : Nat) (v rbv : Value) (l : List UInt8) (w : World) (x : UInt8) (h : AN T R B m o q v rbv l w) (hBw : B ≤ w.heap.size) (hx : x.toNat < 128) (hl : l.length ≤ 1000000000) :
    Calls Tryd.prog 78 #[.pointer (some ⟨q, 0, none⟩), .int .i32 x.toNat] w fun e w' => e = .returned (.tuple #[.int .i64 1, .nilIface]) ∧ ∃ v' rbv', AN T R B m o q v' rbv' (l ++ [x]) w' ∧ Oth B m q w w' := by
  have hrb := h.rb
  have hlow := h.low
  rcases hrb with rfl | ⟨rb, cs0, rfl, _⟩
  · have c9 := h.rec_.cell 9 rfl
    have z9 := h.rec_.free 9
    have hqlt := h.rec_.lt
    have c9a : ∀ o, (w.alloc o).cell? ⟨q, 9, none⟩ = some (.slice none 0 0) := fun o => (World.cell?_of_block (a := ⟨q, 9, none⟩) (Below.heap_alloc w o q hqlt)).trans c9
    have z9a : ∀ o, (w.alloc o).frozen? ⟨q, 9, none⟩ = false := fun o => (World.frozen?_of_block (a := ⟨q, 9, none⟩) (Below.heap_alloc w o q hqlt)).trans z9
    have hnil : ∀ W, (binOp .eql 47 (.slice none 0 0) (.slice none 0 0)).run Tryd.prog W = .ok (.bool true) W := fun W => Lib.run_eql_slice_nil_nil W _ _ Tryd.underlying47
    obtain ⟨i0, hi, hz0, hz1, hz2⟩ := info5_parts info5
    obtain ⟨M, hM⟩ : ∃ M, M = madeCells (Value.int .u8 0).cells ((4 : Int).toNat * i0.size) := ⟨_, rfl⟩
    have hMs : M.size = 4 := by rw [hM, size_madeCells, hz1]; rfl
    have hmk : ∀ W : World, (Instr.makeSlice 47 (.int .i64 4) (.int .i64 4)).run Tryd.prog W = .ok (.slice (some ⟨W.heap.size, 0, none⟩) 4 4) (W.alloc (.cells M 5)) := fun W => by
      have h := run_makeSlice (P := Tryd.prog) W 47 5 i0 (.int .u8 0) Tryd.underlying47 hi hz0 .i64 .i64 4 4 (by omega) (by omega) (by rw [hz1]; decide) (by rw [hz2]; decide) (by decide)
      rw [← hM] at h
      simpa using h
    clear hM hi hz0 hz1 hz2
    have HH := Lib.hid (h.made hBw M hMs)
    go_enter Tryd.func78, Tryd.ntmps78
    go_wp2_with fail
    have HO1 := Lib.hid (h.made_oth hBw M)
    have hB1 := (h.made_oth hBw M).1.size
    clear h c9 z9 c9a z9a hmk hqlt
    generalize ((w.setCell ⟨q, 9, none⟩ (.slice (some ⟨w.heap.size, 0, none⟩) 4 4)).alloc (.cells M 5)) = w1 at *
    generalize w.heap.size = rb at *
    have k0 := HH.out.rec_.cell 0 rfl
    have k9 := HH.out.rec_.cell 9 rfl
    obtain ⟨cs, hrb1, hrb2, hrb3, hrb4, hrb5, hq⟩ := HH.out.at_rb
    obtain ⟨y, hy⟩ : ∃ y, cs[0]? = some y := ⟨_, Array.getElem?_eq_getElem (by omega)⟩
    have cr : w1.cell? ⟨rb, 0, none⟩ = some y := by unfold World.cell?; rw [hrb1]; exact hy
    have zr : w1.frozen? ⟨rb, 0, none⟩ = false := by unfold World.frozen?; rw [hrb1]; simp
    obtain ⟨hP, hPc⟩ := HH.out.poke (.int .u8 x.toNat)
    have d0 := hP.rec_.cell 0 rfl
    have d9 := hP.rec_.cell 9 rfl
    have hBW : B ≤ (w1.setCell ⟨rb, 0, none⟩ (.int .u8 x.toNat)).drew.heap.size := Nat.le_trans (Nat.le_trans hBw hB1) (HH.out.poke_oth (.int .u8 x.toNat)).1.size
    have HC := Lib.hid (write_one T R B m o v l (w1.setCell ⟨rb, 0, none⟩ (.int .u8 x.toNat)).drew ⟨rb, 0, none⟩ 4 x hP.drew.buf hBW hl hrb4 hPc hrb5)
    have HP := Lib.hid hP.drew
    have HOT := Lib.hid (HO1.out.trans (HH.out.poke_oth (.int .u8 x.toNat)))
    clear hP hPc hrb1 hy
    have hmt : ∀ W, (method 261 54 (.pointer (some ⟨m, o, none⟩)) "Write").run Tryd.prog W = .ok (75, .pointer (some ⟨m, o, none⟩)) W := meth m o
    refine (encode_one rb x y _ hx cr zr).mono ?_
    rintro e w2 ⟨rfl, rfl⟩
    go_wp2_with fail
    have hd : (fun w' : World => w'.cell? ⟨q, 0, none⟩ = some (.iface 54 (.pointer (some ⟨m, o, none⟩))) ∧ w'.cell? ⟨q, 9, none⟩ = some (.slice (some ⟨rb, 0, none⟩) 4 4)) (w1.setCell ⟨rb, 0, none⟩ (.int .u8 x.toNat)) := ⟨d0, d9⟩
    go_region_held3 (fun w' => w'.cell? ⟨q, 0, none⟩ = some (.iface 54 (.pointer (some ⟨m, o, none⟩))) ∧ w'.cell? ⟨q, 9, none⟩ = some (.slice (some ⟨rb, 0, none⟩) 4 4)) (first | go_keep | (exact hd)) (first | (go_at_call 75; refine HC.out.mono ?_; rintro e w5 ⟨rfl, v5, hb5, hB5, hK5⟩; have hA5 := HP.out.push (rb := rb) (c := 0) (cs := #[]) (x := x) hb5 hB5 hK5; have hd : w5.cell? ⟨q, 0, none⟩ = some (.iface 54 (.pointer (some ⟨m, o, none⟩))) ∧ w5.cell? ⟨q, 9, none⟩ = some (.slice (some ⟨rb, 0, none⟩) 4 4) := ⟨hA5.rec_.cell 0 rfl, hA5.rec_.cell 9 rfl⟩))
    go_wp2
    refine bodyPost_ret (v := .tuple #[.int .i64 1, .nilIface]) (by simp [results, Tryd.results78, go_sem]) rfl ?_
    exact ⟨rfl, v5, _, hA5, HOT.out.trans (hK5.oth HP.out.buf hB5)⟩
  · have HH := Lib.hid h
    clear h
    have k0 := HH.out.rec_.cell 0 rfl
    have k9 := HH.out.rec_.cell 9 rfl
    obtain ⟨cs, hrb1, hrb2, hrb3, hrb4, hrb5, hq⟩ := HH.out.at_rb
    obtain ⟨y, hy⟩ : ∃ y, cs[0]? = some y := ⟨_, Array.getElem?_eq_getElem (by omega)⟩
    have cr : w.cell? ⟨rb, 0, none⟩ = some y := by unfold World.cell?; rw [hrb1]; exact hy
    have zr : w.frozen? ⟨rb, 0, none⟩ = false := by unfold World.frozen?; rw [hrb1]; simp
    obtain ⟨hP, hPc⟩ := HH.out.poke (.int .u8 x.toNat)
    have d0 := hP.rec_.cell 0 rfl
    have d9 := hP.rec_.cell 9 rfl
    have hBW : B ≤ (w.setCell ⟨rb, 0, none⟩ (.int .u8 x.toNat)).drew.heap.size := Nat.le_trans (hBw) (HH.out.poke_oth (.int .u8 x.toNat)).1.size
    have HC := Lib.hid (write_one T R B m o v l (w.setCell ⟨rb, 0, none⟩ (.int .u8 x.toNat)).drew ⟨rb, 0, none⟩ 4 x hP.drew.buf hBW hl hrb4 hPc hrb5)
    have HP := Lib.hid hP.drew
    have HOT := Lib.hid ((Oth.refl B m q w).trans (HH.out.poke_oth (.int .u8 x.toNat)))
    clear hP hPc hrb1 hy
    have hmt : ∀ W, (method 261 54 (.pointer (some ⟨m, o, none⟩)) "Write").run Tryd.prog W = .ok (75, .pointer (some ⟨m, o, none⟩)) W := meth m o
    have hne : ∀ W, (binOp .eql 47 (.slice (some ⟨rb, 0, none⟩) 4 4) (.slice none 0 0)).run Tryd.prog W = .ok (.bool false) W := fun W => Lib.run_eql_slice_some_nil W _ _ _ Tryd.underlying47
    go_enter Tryd.func78, Tryd.ntmps78
    go_wp2_with (go_at_call 111; refine (encode_one rb x y _ hx cr zr).mono ?_; rintro e w2 ⟨rfl, rfl⟩)
    have hd : (fun w' : World => w'.cell? ⟨q, 0, none⟩ = some (.iface 54 (.pointer (some ⟨m, o, none⟩))) ∧ w'.cell? ⟨q, 9, none⟩ = some (.slice (some ⟨rb, 0, none⟩) 4 4)) (w.setCell ⟨rb, 0, none⟩ (.int .u8 x.toNat)) := ⟨d0, d9⟩
    go_region_held3 (fun w' => w'.cell? ⟨q, 0, none⟩ = some (.iface 54 (.pointer (some ⟨m, o, none⟩))) ∧ w'.cell? ⟨q, 9, none⟩ = some (.slice (some ⟨rb, 0, none⟩) 4 4)) (first | go_keep | (exact hd)) (first | (go_at_call 75; refine HC.out.mono ?_; rintro e w5 ⟨rfl, v5, hb5, hB5, hK5⟩; have hA5 := HP.out.push (rb := rb) (c := 0) (cs := #[]) (x := x) hb5 hB5 hK5; have hd : w5.cell? ⟨q, 0, none⟩ = some (.iface 54 (.pointer (some ⟨m, o, none⟩))) ∧ w5.cell? ⟨q, 9, none⟩ = some (.slice (some ⟨rb, 0, none⟩) 4 4) := ⟨hA5.rec_.cell 0 rfl, hA5.rec_.cell 9 rfl⟩))
    go_wp2
    refine bodyPost_ret (v := .tuple #[.int .i64 1, .nilIface]) (by simp [results, Tryd.results78, go_sem]) rfl ?_
    exact ⟨rfl, v5, _, hA5, HOT.out.trans (hK5.oth HP.out.buf hB5)⟩
end Go.Proofs.YtanadaamipfmkaaDoor.H
