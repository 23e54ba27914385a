/- A writer that sets lines in (indent.Writer) over plain bytes: what it writes; signs of ASCII but the escape, at most 1000000 of them, at most 1000 blanks. -/
import Derived.Test.YtanadaamipfmkaaDoorQHAo
namespace Go.Proofs.YtanadaamipfmkaaDoor.H
open Go.RowKit Go.Proofs.YtanadaamipfmkaaDoorW.PrintWords Go.Proofs.YtanadaamipfmkaaDoorW.PrintLast Go.Proofs.YtanadaamipfmkaaDoor.R
set_option linter.unusedVariables false
set_option linter.unusedSimpArgs false
attribute [local go_sem ↓] Go.wp_at_zero Go.wp_at_succ
theorem to_bytes (w : World) (s : ByteArray) : ∃ c W1, (convert 9 47 (.string s)).run Tryd.prog w = .ok (.slice (some ⟨w.heap.size, 0, none⟩) s.size c) W1 ∧ (convert 47 9 (.slice (some ⟨w.heap.size, 0, none⟩) s.size c)).run Tryd.prog W1 = .ok (.string s) W1 ∧ Below w.heap.size w W1 := by
  have hsz : s.data.toList.length = s.size := by rw [Array.length_toList]; rfl
  refine ⟨_, _, run_bytes_of_string (P := Tryd.prog) w 9 47 5 s Tryd.underlying9 Tryd.underlying47 Tryd.underlying5, ?_, ((Below.refl w.heap.size w).drew).alloc (Nat.le_refl _) _⟩
  have hnew : (w.drew.alloc (.cells (bytesRow s (grownCap w s.size 0 5)) 5 ((bytesRow s (grownCap w s.size 0 5)).size, (bytesRow s (grownCap w s.size 0 5)).size + 1))).heap[w.heap.size]? = some (.cells (bytesRow s (grownCap w s.size 0 5)) 5 ((bytesRow s (grownCap w s.size 0 5)).size, (bytesRow s (grownCap w s.size 0 5)).size + 1)) := Go.heap_alloc_new w.drew _
  have h := run_convert_bytes_back (P := Tryd.prog) (w.drew.alloc (.cells (bytesRow s (grownCap w s.size 0 5)) 5 ((bytesRow s (grownCap w s.size 0 5)).size, (bytesRow s (grownCap w s.size 0 5)).size + 1))) 47 9 5 ⟨w.heap.size, 0, none⟩ (grownCap w s.size 0 5) s.data.toList Tryd.underlying47 Tryd.underlying5 Tryd.underlying9 (fun j hj => by
    rw [hsz] at hj
    rw [show (⟨w.heap.size, 0, none⟩ : Addr).add j = ⟨w.heap.size, j, none⟩ by unfold Addr.add; split <;> simp_all]
    simp only [World.cell?, hnew]
    have hj2 : j < s.data.size := hj
    have e1 : (bytesRow s (grownCap w s.size 0 5))[j]? = some (.int .u8 ((s.data[j]'hj2).toNat : Int)) := by
      unfold bytesRow
      rw [Array.getElem?_append_left (by simpa using hj2), Array.getElem?_map, Array.getElem?_eq_getElem hj2]
      rfl
    rw [if_neg (by simp)]
    refine e1.trans ?_
    simp)
  rw [hsz] at h
  simpa using h
def inR (n : Int) (q : Nat) (sk : Bool) : Nat → Option Value := fun i => [Value.int .u64 n, .nilFunc, .pointer (some ⟨q, 0, none⟩), .nilFunc, .nilFunc, .nilFunc, .bool sk, .bool false][i]?
theorem three_skip {w : World} {m q : Nat} {n : Int} {s : Bool} {v x y : Value} (h : LibA.Three w m 3 83 (inR n q s) v x y) (b : Bool) : LibA.Three (w.setCell ⟨m, 6, none⟩ (.bool b)) m 3 83 (inR n q b) v x y := by
  obtain ⟨cs, hb, h0, h1, h2, hr⟩ := h
  have h6 : cs[6]? = some (.bool s) := hr 6 (.inr (by omega))
  have hlt : 6 < cs.size := (Array.getElem?_eq_some_iff.1 h6).1
  refine ⟨_, Lib.heap_setCell_same (i := 6) hb (.bool b), by rw [Array.getElem?_setIfInBounds_ne (by omega)]; exact h0, by rw [Array.getElem?_setIfInBounds_ne (by omega)]; exact h1, by rw [Array.getElem?_setIfInBounds_ne (by omega)]; exact h2, fun i hi => ?_⟩
  by_cases h : i = 6
  · subst h
    simp [hlt, inR]
  · rw [Array.getElem?_setIfInBounds_ne (Ne.symm h), hr i hi]
    rcases i with _ | _ | _ | _ | _ | _ | _ | _ | i
    all_goals first | rfl | (exact absurd rfl h)
theorem AN.skip {m q B : Nat} {n : Int} {s : Bool} {v rbv : Value} {l : List UInt8} {w : World} (h : AN 83 (inR n q s) B m 3 q v rbv l w) (b : Bool) : AN 83 (inR n q b) B m 3 q v rbv l (w.setCell ⟨m, 6, none⟩ (.bool b)) := by
  obtain ⟨lr, h3⟩ := h.buf.three
  refine ⟨⟨h.buf.low, ⟨lr, three_skip h3 b⟩, own_move h.buf.own (fun k e => Below.heap_setCell w ⟨m, 6, none⟩ _ k (fun e2 => h.buf.ne (by rw [e, e2]))), h.buf.ne, h.buf.nil⟩, h.rec_.other (a := ⟨m, 6, none⟩) h.qm _, h.qm, h.low, ?_⟩
  rcases h.rb with e | ⟨rb, cs, e, h1, h2, h3, h4, h5⟩
  · exact .inl e
  · exact .inr ⟨rb, cs, e, (Below.heap_setCell w ⟨m, 6, none⟩ _ rb h4).trans h1, h2, h3, h4, h5⟩
theorem oth_skip {B m q : Nat} {w : World} (hB : B ≤ m) (x : Value) : Oth B m q w (w.setCell ⟨m, 6, none⟩ x) := ⟨(Below.refl B w).setCell hB x, fun k ob hh h1 _ _ => (Below.heap_setCell w ⟨m, 6, none⟩ x k h1).trans hh⟩
theorem oth_below {B m q : Nat} {w w' : World} (hBw : B ≤ w.heap.size) (h : Below w.heap.size w w') : Oth B m q w w' := ⟨h.mono hBw, fun k ob hh _ _ _ => (h.block k (lt_of_block hh)).trans hh⟩
theorem AN.below {T : TypeId} {R : Nat → Option Value} {B m o q : Nat} {v rbv : Value} {l : List UInt8} {w w' : World} (h : AN T R B m o q v rbv l w) (hb : Below w.heap.size w w') : AN T R B m o q v rbv l w' := h.move fun j cs t fz hj => hb.block j (lt_of_block hj)
/-- What a sign makes of what is written, and of whether a line is begun. -/
def inStep (n : Nat) (p : List UInt8 × Bool) (x : UInt8) : List UInt8 × Bool := (p.1 ++ (if p.2 then [] else List.replicate n 32) ++ [x], decide (x ≠ 10))
def inF (n : Nat) (u : List UInt8) : List UInt8 × Bool := u.foldl (inStep n) ([], false)
theorem inF_length (n : Nat) (hn : n ≤ 1000) : ∀ (u : List UInt8) (p : List UInt8 × Bool), (u.foldl (inStep n) p).1.length ≤ p.1.length + 1001 * u.length
  | [], p => by simp
  | x :: u, p => by
    have := inF_length n hn u (inStep n p x)
    rw [List.foldl_cons]
    have h2 : (inStep n p x).1.length ≤ p.1.length + 1001 := by
      unfold inStep
      split <;> simp <;> omega
    simp only [List.length_cons]
    omega
theorem inF_take (n : Nat) (u : List UInt8) (i : Nat) (h : i < u.length) : inF n (u.take (i + 1)) = inStep n (inF n (u.take i)) u[i] := by
  unfold inF
  rw [List.take_succ_eq_append_getElem h, List.foldl_append]
  rfl
theorem repeat_one (n : Nat) : Lib.repeatL ([32] : List UInt8) n = List.replicate n 32 := by
  induction n with
  | zero => rfl
  | succ n ih => rw [Lib.repeatL, ih]; rfl
theorem enc_one (x : UInt8) (h : x.toNat < 128) : Utf8.encode (x.toNat : Int) = ⟨[x].toArray⟩ := by
  have hv : Utf8.valid (x.toNat : Int) = true := by unfold Utf8.valid; simp; omega
  unfold Utf8.encode
  simp only [hv, if_true, Int.toNat_natCast]
  rw [if_pos (by omega)]
  simp
theorem blanks_calls (n : Nat) (w : World) (hn : n ≤ 1000) : Calls Tryd.prog 51 #[.string ⟨#[32]⟩, .int .i64 n] w fun e w' => e = .returned (.string ⟨(List.replicate n (32 : UInt8)).toArray⟩) ∧ Below w.heap.size w w' := by
  have hs : (⟨#[32]⟩ : ByteArray).size = 1 := rfl
  have h := Tryd.strings_Repeat ⟨#[32]⟩ n w (by omega) (by rw [hs]; omega)
  rw [show (⟨#[32]⟩ : ByteArray).data.toList = [32] from rfl, repeat_one] at h
  exact h
theorem no_func (w : World) : (binOp .neq 78 .nilFunc .nilFunc).run Tryd.prog w = .ok (.bool false) w := by kernel_rfl
set_option maxHeartbeats 12800000 in
set_option maxRecDepth 100000 in
/-- Bytes to it. -/
theorem in_write (B m q n c : Nat) (A : Option Addr) (v rbv : Value) (u : List UInt8) (w : World) (h : AN 83 (inR n q false) B m 3 q v rbv [] w) (hBw : B ≤ w.heap.size) (hn : n ≤ 1000) (hu : ∀ x ∈ u, x.toNat < 128 ∧ x.toNat ≠ 27) (hul : u.length ≤ 500000)
    (hcv : (convert 47 9 (.slice A u.length c)).run Tryd.prog w = .ok (.string ⟨u.toArray⟩) w) :
    Calls Tryd.prog 29 #[.pointer (some ⟨m, 0, none⟩), .slice A u.length c] w fun e w' => e = .returned (.tuple #[.int .i64 u.length, .nilIface]) ∧ ∃ v' rbv' sk, AN 83 (inR n q sk) B m 3 q v' rbv' (inF n u).1 w' ∧ Oth B m q w w' := by
  have hss : (⟨u.toArray⟩ : ByteArray).size = u.length := by simp [ByteArray.size]
  obtain ⟨s, hs⟩ : ∃ s : ByteArray, s = ⟨u.toArray⟩ := ⟨_, rfl⟩
  rw [← hs] at hcv hss
  have hat : ∀ i (hi : i < s.size) (hi2 : i < u.length), s[i]'hi = u[i]'hi2 := fun i hi hi2 => by subst hs; rfl
  have HA0 := Lib.hid (show AN 83 (inR n q (inF n (u.take 0)).2) B m 3 q v rbv (inF n (u.take 0)).1 (w.iter s 0) from h.move (alloc_move w _))
  have HO0 := Lib.hid (show Oth B m q w (w.iter s 0) from ⟨(Below.refl B w).alloc hBw _, fun k ob hh _ _ _ => (Below.heap_alloc w _ k (lt_of_block hh)).trans hh⟩)
  have HI0 := Lib.hid (World.iter_heap w s 0)
  have HAT := Lib.hid (And.intro hat (And.intro hss hu))
  have hmb := h.buf.low
  clear hat hu h hs
  go_enter Tryd.func29, Tryd.ntmps29
  go_wp2
  go_loopw [7] (fun _ wr => ∃ (i : Nat) (v' rbv' : Value), i ≤ u.length ∧ wr.heap[w.heap.size]? = some (.stringIter s i) ∧ AN 83 (inR n q (inF n (u.take i)).2) B m 3 q v' rbv' (inF n (u.take i)).1 wr ∧ Oth B m q w wr) (fun _ wr => s.size - wr.iterPos w.heap.size)
  case atStart => exact ⟨0, v, rbv, Nat.zero_le _, HI0.out, HA0.out, HO0.out⟩
  case round =>
    obtain ⟨i, v', rbv', hi, hit, hA, hO⟩ := hrel
    have hip := iterPos_is hit
    by_cases hlt : i < u.length
    · have hlt2 : i < s.size := by omega
      obtain ⟨x, hx⟩ : ∃ x, x = u[i] := ⟨_, rfl⟩
      obtain ⟨hx1, hx2⟩ := HAT.out.2.2 x (by rw [hx]; exact List.getElem_mem hlt)
      have hsx : s[i]'hlt2 = x := by rw [hx]; exact HAT.out.1 i hlt2 hlt
      have hnx : ∀ ty, (Instr.next (.pointer (some ⟨w.heap.size, 0, none⟩)) true ty).run Tryd.prog wr = .ok (.tuple #[.bool true, .int .i64 i, .int .i32 x.toNat]) (wr.iterAt w.heap.size s (i + 1)) := fun ty => by
        rw [Lib.run_next_ascii_at wr w.heap.size s i ty hit hlt2 (by rw [hsx]; exact hx1), hsx]
      have hA1 := hA.move (iter_move (i' := i + 1) hit)
      have hit1 := Lib.iterAt_heap wr w.heap.size s i (i + 1) hit
      have hO1 : Oth B m q w (wr.iterAt w.heap.size s (i + 1)) := ⟨Lib.below_iterAt hO.1 hBw s _, fun k ob hh h1 h2 h3 => (Lib.iterAt_other wr w.heap.size k s _ (by have := lt_of_block hh; omega)).trans (hO.2 k ob hh h1 h2 h3)⟩
      have hne : ((x.toNat : Int) == 27) = false := beq_eq_false_iff_ne.2 (by omega)
      have hB1 : B ≤ (wr.iterAt w.heap.size s (i + 1)).heap.size := Nat.le_trans hBw hO1.1.size
      have hmq : w.heap.size ≠ m ∧ w.heap.size ≠ q := by
        constructor
        · rintro e
          obtain ⟨lr, cs, h9, _⟩ := hA1.buf.three
          rw [← e, hit1] at h9
          cases h9
        · rintro e
          have h9 := hA1.rec_
          unfold Rec at h9
          rw [← e, hit1] at h9
          cases h9
      have hlen := inF_length n hn (u.take i) ([], false)
      rw [show (u.take i).foldl (inStep n) ([], false) = inF n (u.take i) from rfl, List.length_take] at hlen
      have HTK := Lib.hid (inF_take n u i hlt)
      have HX := Lib.hid (And.intro hO1 (And.intro hit1 (And.intro hmq hx)))
      clear hA hO hO1 hit1 hmq hx hsx
      generalize inF n (u.take i) = p at *
      generalize wr.iterAt w.heap.size s (i + 1) = w1 at *
      obtain ⟨l, sk⟩ := p
      dsimp only at hA1 hlen
      simp only [List.length_nil, Nat.zero_add] at hlen
      obtain ⟨lr, h3⟩ := hA1.buf.three
      have m0 : w1.cell? ⟨m, 0, none⟩ = some (.int .u64 n) := h3.rest 0 (.inl (by omega))
      have m1 : w1.cell? ⟨m, 1, none⟩ = some .nilFunc := h3.rest 1 (.inl (by omega))
      have m2 : w1.cell? ⟨m, 2, none⟩ = some (.pointer (some ⟨q, 0, none⟩)) := h3.rest 2 (.inl (by omega))
      have m6 : w1.cell? ⟨m, 6, none⟩ = some (.bool sk) := h3.rest 6 (.inr (by omega))
      have m7 : w1.cell? ⟨m, 7, none⟩ = some (.bool false) := h3.rest 7 (.inr (by omega))
      have HA1 := Lib.hid hA1
      clear h3
      have hnf : ∀ W, (binOp .neq 78 .nilFunc .nilFunc).run Tryd.prog W = .ok (.bool false) W := no_func
      cases sk with
      | true =>
        have hAy := hA1
        have hOy := Oth.refl B m q w1
        have hit6 : w1.heap[w.heap.size]? = some (.stringIter s (i + 1)) := hOy.2 _ _ HX.out.2.1 HX.out.2.2.1.1 HX.out.2.2.1.2 (by intro c fz e; cases e)
        have hBy : B ≤ w1.heap.size := Nat.le_trans hB1 hOy.1.size
        by_cases h10 : x = 10
        · have hx10 : ((x.toNat : Int) == 10) = true := by subst h10; rfl
          have H10 := Lib.hid h10
          clear h10
          obtain ⟨lr, h3⟩ := hAy.buf.three
          have y6 : w1.cell? ⟨m, 6, none⟩ = some (.bool true) := h3.rest 6 (.inr (by omega))
          have f6 : w1.frozen? ⟨m, 6, none⟩ = false := h3.f 6
          have hAs := hAy.skip false
          have hOs : Oth B m q w1 (w1.setCell ⟨m, 6, none⟩ (.bool false)) := oth_skip hmb _
          obtain ⟨lr2, h4⟩ := hAs.buf.three
          have y2 : (w1.setCell ⟨m, 6, none⟩ (.bool false)).cell? ⟨m, 2, none⟩ = some (.pointer (some ⟨q, 0, none⟩)) := h4.rest 2 (.inl (by omega))
          obtain ⟨c1, W1, hc1, hc2, hbW⟩ := to_bytes (w1.setCell ⟨m, 6, none⟩ (.bool false)) (Utf8.encode (x.toNat : Int))
          rw [enc_one x hx1] at hc2
          have hez : (Utf8.encode (x.toNat : Int)).size = 1 := by rw [enc_one x hx1]; rfl
          have hBs : B ≤ (w1.setCell ⟨m, 6, none⟩ (.bool false)).heap.size := Nat.le_trans hBy hOs.1.size
          have hsz6 : (w1.setCell ⟨m, 6, none⟩ (.bool false)).heap.size = w1.heap.size := by simp
          rw [hsz6] at hc1 hc2
          have HC : Hid (Calls Tryd.prog 50 #[.pointer (some ⟨q, 0, none⟩), .slice (some ⟨w1.heap.size, 0, none⟩) 1 c1] W1 fun e w' => e = .returned (.tuple #[.int .i64 1, .nilIface]) ∧ ∃ v'' rbv'', AN 83 (inR n q false) B m 3 q v'' rbv'' (l ++ [x]) w' ∧ Oth B m q W1 w') := Lib.hid (an_write 83 (inR n q false) B m 3 q c1 (some ⟨w1.heap.size, 0, none⟩) _ _ _ [x] W1 (hAs.below hbW) (Nat.le_trans hBs hbW.size) (by intro z hz; simp at hz; subst hz; exact ⟨hx1, hx2⟩) (by simp; omega) hc2)
          have HOO := Lib.hid ((HX.out.1.trans hOy).trans (hOs.trans (oth_below hBs hbW)))
          rw [hez] at hc1
          clear hc2 h3 h4 hAs hOs hez
          go_wp2_with (go_at_call 50; refine HC.out.mono ?_; rintro e w9 ⟨rfl, v9, rb9, hA9, hO9⟩)
          have hO9' := HOO.out.trans hO9
          have hit9 : w9.heap[w.heap.size]? = some (.stringIter s (i + 1)) := hO9.2 _ _ ((oth_below hBs hbW).2 _ _ ((oth_skip (q := q) hmb (.bool false)).2 _ _ hit6 HX.out.2.2.1.1 HX.out.2.2.1.2 (by intro c fz e; cases e)) HX.out.2.2.1.1 HX.out.2.2.1.2 (by intro c fz e; cases e)) HX.out.2.2.1.1 HX.out.2.2.1.2 (by intro c fz e; cases e)
          have hstep : inF n (u.take (i + 1)) = (l ++ [x], false) := by rw [HTK.out, ← HX.out.2.2.2]; simp [inStep, H10.out]
          refine ⟨⟨i + 1, v9, rb9, by omega, hit9, by rw [hstep]; exact hA9, hO9'⟩, ?_⟩
          rw [iterPos_is hit9, hip]
          omega
        · have hx10 : ((x.toNat : Int) == 10) = false := beq_eq_false_iff_ne.2 (fun e => h10 (UInt8.toNat_inj.1 (by have : (10 : UInt8).toNat = 10 := rfl; omega)))
          obtain ⟨lr2, h4⟩ := hAy.buf.three
          have y2 : w1.cell? ⟨m, 2, none⟩ = some (.pointer (some ⟨q, 0, none⟩)) := h4.rest 2 (.inl (by omega))
          obtain ⟨c1, W1, hc1, hc2, hbW⟩ := to_bytes w1 (Utf8.encode (x.toNat : Int))
          rw [enc_one x hx1] at hc2
          have hez : (Utf8.encode (x.toNat : Int)).size = 1 := by rw [enc_one x hx1]; rfl
          have HC : Hid (Calls Tryd.prog 50 #[.pointer (some ⟨q, 0, none⟩), .slice (some ⟨w1.heap.size, 0, none⟩) 1 c1] W1 fun e w' => e = .returned (.tuple #[.int .i64 1, .nilIface]) ∧ ∃ v'' rbv'', AN 83 (inR n q true) B m 3 q v'' rbv'' (l ++ [x]) w' ∧ Oth B m q W1 w') := Lib.hid (an_write 83 (inR n q true) B m 3 q c1 (some ⟨w1.heap.size, 0, none⟩) _ _ _ [x] W1 (hAy.below hbW) (Nat.le_trans hBy hbW.size) (by intro z hz; simp at hz; subst hz; exact ⟨hx1, hx2⟩) (by simp; omega) hc2)
          have HOO := Lib.hid ((HX.out.1.trans hOy).trans (oth_below hBy hbW))
          rw [hez] at hc1
          clear hc2 h4 hez
          go_wp2_with (go_at_call 50; refine HC.out.mono ?_; rintro e w9 ⟨rfl, v9, rb9, hA9, hO9⟩)
          have hO9' := HOO.out.trans hO9
          have hit9 : w9.heap[w.heap.size]? = some (.stringIter s (i + 1)) := hO9.2 _ _ ((oth_below hBy hbW).2 _ _ hit6 HX.out.2.2.1.1 HX.out.2.2.1.2 (by intro c fz e; cases e)) HX.out.2.2.1.1 HX.out.2.2.1.2 (by intro c fz e; cases e)
          have hstep : inF n (u.take (i + 1)) = (l ++ [x], true) := by rw [HTK.out, ← HX.out.2.2.2]; simp [inStep, h10]
          refine ⟨⟨i + 1, v9, rb9, by omega, hit9, by rw [hstep]; exact hA9, hO9'⟩, ?_⟩
          rw [iterPos_is hit9, hip]
          omega
      | false =>
        have hwn : IntKind.i64.wrap (n : Int) = n := by rw [IntKind.wrap_i64]; omega
        obtain ⟨lrz, h3z⟩ := hA1.buf.three
        go_wp2_with (go_at_call 49; refine (reset_ansi q m 3 rbv' _ hA1.rec_).mono ?_; rintro e w5 ⟨rfl, hw5⟩; have hw6 := hw5.symm; subst hw6; clear hw5)
        refine wp_region_noPanic ?_
        refine wp_region_held_drew (S := fun w' => w'.cell? ⟨m, 2, none⟩ = some (.pointer (some ⟨q, 0, none⟩)) ∧ w'.cell? ⟨m, 0, none⟩ = some (.int .u64 n)) (by kernel_rfl) ⟨m2, m0⟩ (fun hHeld => ?_)
        refine wpAnyH_take (i := 0) (v := ?v0) (by simp only [List.getElem?_toArray, List.getElem?_cons_succ, List.getElem?_cons_zero]; rfl) (by kernel_rfl) (by kernel_rfl) (by kernel_rfl) (fun _ _ _ h => h) (Or.inl ⟨by rfl, ?h0⟩) (by assumption) ?_
        case h0 => (intro w hSw; (try dsimp only at hSw); go_simp; try with_reducible rfl)
        try simp only [Act.put, List.setIfInBounds_toArray, List.set_cons_zero, List.set_cons_succ]
        refine wpAnyH_take (i := 1) (v := ?v1) (by simp only [List.getElem?_toArray, List.getElem?_cons_succ, List.getElem?_cons_zero]; rfl) (by kernel_rfl) (by kernel_rfl) (by kernel_rfl) (fun _ _ _ h => h) (Or.inl ⟨by rfl, ?h1⟩) (by assumption) ?_
        case h1 => (intro w hSw; (try dsimp only at hSw); go_simp; try with_reducible rfl)
        try simp only [Act.put, List.setIfInBounds_toArray, List.set_cons_zero, List.set_cons_succ]
        refine wpAnyH_take (i := 2) (v := ?v2) (by simp only [List.getElem?_toArray, List.getElem?_cons_succ, List.getElem?_cons_zero]; rfl) (by kernel_rfl) (by kernel_rfl) (by kernel_rfl) (fun _ _ _ h => h) (Or.inl ⟨by rfl, ?h2⟩) (by assumption) ?_
        case h2 => (intro w hSw; (try dsimp only at hSw); go_simp; try with_reducible rfl)
        try simp only [Act.put, List.setIfInBounds_toArray, List.set_cons_zero, List.set_cons_succ]
        refine wpAnyH_take (i := 3) (v := ?v3) (by simp only [List.getElem?_toArray, List.getElem?_cons_succ, List.getElem?_cons_zero]; rfl) (by kernel_rfl) (by kernel_rfl) (by kernel_rfl) (fun _ _ _ h => h) (Or.inl ⟨by rfl, ?h3⟩) (by assumption) ?_
        case h3 => (intro w hSw; (try dsimp only at hSw); go_simp; try with_reducible rfl)
        try simp only [Act.put, List.setIfInBounds_toArray, List.set_cons_zero, List.set_cons_succ]
        refine wpAnyH_take (i := 4) (v := ?v4) (by simp only [List.getElem?_toArray, List.getElem?_cons_succ, List.getElem?_cons_zero]; rfl) (by kernel_rfl) (by kernel_rfl) (by kernel_rfl) (fun _ _ _ h => h) (Or.inl ⟨by rfl, ?h4⟩) (by assumption) ?_
        case h4 => (intro w hSw; (try dsimp only at hSw); go_simp; try with_reducible rfl)
        try simp only [Act.put, List.setIfInBounds_toArray, List.set_cons_zero, List.set_cons_succ]
        refine wpAnyH_take (i := 5) (v := ?v5) (by simp only [List.getElem?_toArray, List.getElem?_cons_succ, List.getElem?_cons_zero]; rfl) (by kernel_rfl) (by kernel_rfl) (by kernel_rfl) (fun _ _ _ h => h) (Or.inl ⟨by rfl, ?h5⟩) (by assumption) ?_
        case h5 => (intro w hSw; (try dsimp only at hSw); go_simp; try with_reducible rfl)
        try simp only [Act.put, List.setIfInBounds_toArray, List.set_cons_zero, List.set_cons_succ]
        refine wpAnyH_take (i := 6) (v := ?v6) (by simp only [List.getElem?_toArray, List.getElem?_cons_succ, List.getElem?_cons_zero]; rfl) (by kernel_rfl) (by kernel_rfl) (by kernel_rfl) (fun _ _ _ h => h) (Or.inl ⟨by rfl, ?h6⟩) (by assumption) ?_
        case h6 => (intro w hSw; (try dsimp only at hSw); go_simp; try with_reducible rfl)
        try simp only [Act.put, List.setIfInBounds_toArray, List.set_cons_zero, List.set_cons_succ]
        refine wpAnyH_take (i := 7) (v := ?v7) (by simp only [List.getElem?_toArray, List.getElem?_cons_succ, List.getElem?_cons_zero]; rfl) (by kernel_rfl) (by kernel_rfl) (by kernel_rfl) (fun _ _ _ h => h) (Or.inl ⟨by rfl, ?h7⟩) (by assumption) ?_
        case h7 => (intro w hSw; (try dsimp only at hSw); go_simp; try with_reducible rfl)
        try simp only [Act.put, List.setIfInBounds_toArray, List.set_cons_zero, List.set_cons_succ]
        refine wpAnyH_take (i := 8) (v := ?v8) (by simp only [List.getElem?_toArray, List.getElem?_cons_succ, List.getElem?_cons_zero]; rfl) (by kernel_rfl) (by kernel_rfl) (by kernel_rfl) (fun _ _ _ h => h) (Or.inl ⟨by rfl, ?h8⟩) (by assumption) ?_
        case h8 => (intro w hSw; (try dsimp only at hSw); go_simp; try with_reducible rfl)
        try simp only [Act.put, List.setIfInBounds_toArray, List.set_cons_zero, List.set_cons_succ]
        refine wpAnyH_ready (rs := [9]) (by kernel_rfl) (by simp) ?_
        refine AllReadyH.cons (o := _) rfl (fun K hK => ?_) AllReadyH.nil
        go_simp
        refine (blanks_calls n _ hn).mono ?_
        rintro e w2 ⟨rfl, hb2⟩
        have hb2' : Below w1.heap.size w1 w2 := (below_drew (Below.refl _ w1)).trans hb2
        have e2 : w2.cell? ⟨m, 2, none⟩ = some (.pointer (some ⟨q, 0, none⟩)) := pw_cell_below hb2' m2
        have e0 : w2.cell? ⟨m, 0, none⟩ = some (.int .u64 n) := pw_cell_below hb2' m0
        refine hK.out _ _ ⟨e2, e0⟩ (fun hHeld2 => ?_)
        clear hK K hHeld
        try simp only [Act.put, List.setIfInBounds_toArray, List.set_cons_zero, List.set_cons_succ]
        obtain ⟨c3, W3, hc3, hc4, hb3⟩ := to_bytes w2 ⟨(List.replicate n (32 : UInt8)).toArray⟩
        have har : (List.replicate n (32 : UInt8)).toArray = Array.replicate n 32 := by simp
        have hlen3 : (⟨(List.replicate n (32 : UInt8)).toArray⟩ : ByteArray).size = n := by simp [ByteArray.size]
        rw [hlen3] at hc3 hc4
        rw [har] at hc3
        have hb3' : Below w1.heap.size w1 W3 := hb2'.trans (hb3.mono hb2'.size)
        have hBW3 : B ≤ W3.heap.size := Nat.le_trans hB1 hb3'.size
        have HC3 := an_write 83 (inR n q false) B m 3 q c3 (some ⟨w2.heap.size, 0, none⟩) _ _ _ (List.replicate n 32) W3 (HA1.out.below hb3') hBW3 (by intro z hz; obtain ⟨_, rfl⟩ := List.mem_replicate.1 hz; exact ⟨by decide, by decide⟩) (by rw [List.length_replicate]; omega) (by rw [List.length_replicate]; exact hc4)
        rw [List.length_replicate] at HC3
        have HC3 := Lib.hid HC3
        have g2 : W3.cell? ⟨m, 2, none⟩ = some (.pointer (some ⟨q, 0, none⟩)) := pw_cell_below hb3' m2
        have g0 : W3.cell? ⟨m, 0, none⟩ = some (.int .u64 n) := pw_cell_below hb3' m0
        have HB3 := Lib.hid hb3'
        clear hc4 hlen3 hb3 hb3' hb2 hb2'
        refine wpAnyH_ready (rs := [10]) (by kernel_rfl) (by simp) ?_
        refine AllReadyH.cons (o := _) rfl (fun K hK => ?_) AllReadyH.nil
        go_simp
        refine hK.out _ _ ⟨g2, g0⟩ (fun hHeld3 => ?_)
        clear hK K hHeld2 e2 e0 hc3
        try simp only [Act.put, List.setIfInBounds_toArray, List.set_cons_zero, List.set_cons_succ]
        refine wpAnyH_ready (rs := [11]) (by kernel_rfl) (by simp) ?_
        refine AllReadyH.cons (o := _) rfl (fun K hK => ?_) AllReadyH.nil
        go_simp
        refine HC3.out.mono ?_
        rintro e w4 ⟨rfl, v4, rb4, hA4, hO4⟩
        obtain ⟨lr4, h4⟩ := hA4.buf.three
        refine hK.out _ _ ⟨h4.rest 2 (.inl (by omega)), h4.rest 0 (.inl (by omega))⟩ (fun hHeld4 => ?_)
        clear hK K hHeld3
        try simp only [Act.put, List.setIfInBounds_toArray, List.set_cons_zero, List.set_cons_succ]
        refine wpAnyH_take (i := 12) (v := ?v12) (by simp only [List.getElem?_toArray, List.getElem?_cons_succ, List.getElem?_cons_zero]; rfl) (by kernel_rfl) (by kernel_rfl) (by kernel_rfl) (fun _ _ _ h => h) (Or.inl ⟨by rfl, ?h12⟩) (by assumption) ?_
        case h12 => (intro w hSw; (try dsimp only at hSw); go_simp; try with_reducible rfl)
        try simp only [Act.put, List.setIfInBounds_toArray, List.set_cons_zero, List.set_cons_succ]
        refine wpAnyH_take (i := 13) (v := ?v13) (by simp only [List.getElem?_toArray, List.getElem?_cons_succ, List.getElem?_cons_zero]; rfl) (by kernel_rfl) (by kernel_rfl) (by kernel_rfl) (fun _ _ _ h => h) (Or.inl ⟨by rfl, ?h13⟩) (by assumption) ?_
        case h13 => (intro w hSw; (try dsimp only at hSw); go_simp; try with_reducible rfl)
        try simp only [Act.put, List.setIfInBounds_toArray, List.set_cons_zero, List.set_cons_succ]
        refine wpAnyH_take (i := 14) (v := ?v14) (by simp only [List.getElem?_toArray, List.getElem?_cons_succ, List.getElem?_cons_zero]; rfl) (by kernel_rfl) (by kernel_rfl) (by kernel_rfl) (fun _ _ _ h => h) (Or.inl ⟨by rfl, ?h14⟩) (by assumption) ?_
        case h14 => (intro w hSw; (try dsimp only at hSw); go_simp; try with_reducible rfl)
        try simp only [Act.put, List.setIfInBounds_toArray, List.set_cons_zero, List.set_cons_succ]
        refine wpAnyH_take (i := 15) (v := ?v15) (by simp only [List.getElem?_toArray, List.getElem?_cons_succ, List.getElem?_cons_zero]; rfl) (by kernel_rfl) (by kernel_rfl) (by kernel_rfl) (fun _ _ _ h => h) (Or.inl ⟨by rfl, ?h15⟩) (by assumption) ?_
        case h15 => (intro w hSw; (try dsimp only at hSw); go_simp; try with_reducible rfl)
        try simp only [Act.put, List.setIfInBounds_toArray, List.set_cons_zero, List.set_cons_succ]
        refine wpAnyH_take (i := 16) (v := ?v16) (by simp only [List.getElem?_toArray, List.getElem?_cons_succ, List.getElem?_cons_zero]; rfl) (by kernel_rfl) (by kernel_rfl) (by kernel_rfl) (fun _ _ _ h => h) (Or.inl ⟨by rfl, ?h16⟩) (by assumption) ?_
        case h16 => (intro w hSw; (try dsimp only at hSw); go_simp; try with_reducible rfl)
        try simp only [Act.put, List.setIfInBounds_toArray, List.set_cons_zero, List.set_cons_succ]
        refine wpAnyH_done (by kernel_rfl) ?_ _
        refine NoPanic.normal ?_
        have s2 : w4.cell? ⟨m, 2, none⟩ = some (.pointer (some ⟨q, 0, none⟩)) := h4.rest 2 (.inl (by omega))
        have s6 : w4.cell? ⟨m, 6, none⟩ = some (.bool false) := h4.rest 6 (.inr (by omega))
        have sf : w4.frozen? ⟨m, 6, none⟩ = false := h4.f 6
        have hA5 := hA4.skip true
        obtain ⟨lr5, h5⟩ := hA5.buf.three
        have t2 : (w4.setCell ⟨m, 6, none⟩ (.bool true)).cell? ⟨m, 2, none⟩ = some (.pointer (some ⟨q, 0, none⟩)) := h5.rest 2 (.inl (by omega))
        have hO5 : Oth B m q w1 (w4.setCell ⟨m, 6, none⟩ (.bool true)) := ((oth_below hB1 HB3.out).trans hO4).trans (oth_skip hmb _)
        have HC5 := Lib.hid (restore_ansi 83 (inR n q true) B m 3 q v4 rb4 _ _ hA5 (Nat.le_trans hB1 hO5.1.size))
        have HO5 := Lib.hid hO5
        clear h4 h5 hA4 hA5 hO4 hO5 hHeld4
        go_wp2_with fail
        refine HC5.out.mono ?_
        rintro e w6 ⟨rfl, hA6, hO6'⟩
        have hO6 : Oth B m q w1 w6 := HO5.out.trans hO6'
        clear s2 s6 sf t2 m0 m1 m2 m6 m7
        have hit6 : w6.heap[w.heap.size]? = some (.stringIter s (i + 1)) := hO6.2 _ _ HX.out.2.1 HX.out.2.2.1.1 HX.out.2.2.1.2 (by intro c fz e; cases e)
        have hBy : B ≤ w6.heap.size := Nat.le_trans hB1 hO6.1.size
        by_cases h10 : x = 10
        · have hx10 : ((x.toNat : Int) == 10) = true := by subst h10; rfl
          have H10 := Lib.hid h10
          clear h10
          obtain ⟨lr, h3⟩ := hA6.buf.three
          have y6 : w6.cell? ⟨m, 6, none⟩ = some (.bool true) := h3.rest 6 (.inr (by omega))
          have f6 : w6.frozen? ⟨m, 6, none⟩ = false := h3.f 6
          have hAs := hA6.skip false
          have hOs : Oth B m q w6 (w6.setCell ⟨m, 6, none⟩ (.bool false)) := oth_skip hmb _
          obtain ⟨lr2, h4⟩ := hAs.buf.three
          have y2 : (w6.setCell ⟨m, 6, none⟩ (.bool false)).cell? ⟨m, 2, none⟩ = some (.pointer (some ⟨q, 0, none⟩)) := h4.rest 2 (.inl (by omega))
          obtain ⟨c1, W1, hc1, hc2, hbW⟩ := to_bytes (w6.setCell ⟨m, 6, none⟩ (.bool false)) (Utf8.encode (x.toNat : Int))
          rw [enc_one x hx1] at hc2
          have hez : (Utf8.encode (x.toNat : Int)).size = 1 := by rw [enc_one x hx1]; rfl
          have hBs : B ≤ (w6.setCell ⟨m, 6, none⟩ (.bool false)).heap.size := Nat.le_trans hBy hOs.1.size
          have hsz6 : (w6.setCell ⟨m, 6, none⟩ (.bool false)).heap.size = w6.heap.size := by simp
          rw [hsz6] at hc1 hc2
          have HC : Hid (Calls Tryd.prog 50 #[.pointer (some ⟨q, 0, none⟩), .slice (some ⟨w6.heap.size, 0, none⟩) 1 c1] W1 fun e w' => e = .returned (.tuple #[.int .i64 1, .nilIface]) ∧ ∃ v'' rbv'', AN 83 (inR n q false) B m 3 q v'' rbv'' (l ++ List.replicate n 32 ++ [x]) w' ∧ Oth B m q W1 w') := Lib.hid (an_write 83 (inR n q false) B m 3 q c1 (some ⟨w6.heap.size, 0, none⟩) _ _ _ [x] W1 (hAs.below hbW) (Nat.le_trans hBs hbW.size) (by intro z hz; simp at hz; subst hz; exact ⟨hx1, hx2⟩) (by simp; omega) hc2)
          have HOO := Lib.hid ((HX.out.1.trans hO6).trans (hOs.trans (oth_below hBs hbW)))
          rw [hez] at hc1
          clear hc2 h3 h4 hAs hOs hez
          go_wp2_with (go_at_call 50; refine HC.out.mono ?_; rintro e w9 ⟨rfl, v9, rb9, hA9, hO9⟩)
          have hO9' := HOO.out.trans hO9
          have hit9 : w9.heap[w.heap.size]? = some (.stringIter s (i + 1)) := hO9.2 _ _ ((oth_below hBs hbW).2 _ _ ((oth_skip (q := q) hmb (.bool false)).2 _ _ hit6 HX.out.2.2.1.1 HX.out.2.2.1.2 (by intro c fz e; cases e)) HX.out.2.2.1.1 HX.out.2.2.1.2 (by intro c fz e; cases e)) HX.out.2.2.1.1 HX.out.2.2.1.2 (by intro c fz e; cases e)
          have hstep : inF n (u.take (i + 1)) = (l ++ List.replicate n 32 ++ [x], false) := by rw [HTK.out, ← HX.out.2.2.2]; simp [inStep, H10.out]
          refine ⟨⟨i + 1, v9, rb9, by omega, hit9, by rw [hstep]; exact hA9, hO9'⟩, ?_⟩
          rw [iterPos_is hit9, hip]
          omega
        · have hx10 : ((x.toNat : Int) == 10) = false := beq_eq_false_iff_ne.2 (fun e => h10 (UInt8.toNat_inj.1 (by have : (10 : UInt8).toNat = 10 := rfl; omega)))
          obtain ⟨lr2, h4⟩ := hA6.buf.three
          have y2 : w6.cell? ⟨m, 2, none⟩ = some (.pointer (some ⟨q, 0, none⟩)) := h4.rest 2 (.inl (by omega))
          obtain ⟨c1, W1, hc1, hc2, hbW⟩ := to_bytes w6 (Utf8.encode (x.toNat : Int))
          rw [enc_one x hx1] at hc2
          have hez : (Utf8.encode (x.toNat : Int)).size = 1 := by rw [enc_one x hx1]; rfl
          have HC : Hid (Calls Tryd.prog 50 #[.pointer (some ⟨q, 0, none⟩), .slice (some ⟨w6.heap.size, 0, none⟩) 1 c1] W1 fun e w' => e = .returned (.tuple #[.int .i64 1, .nilIface]) ∧ ∃ v'' rbv'', AN 83 (inR n q true) B m 3 q v'' rbv'' (l ++ List.replicate n 32 ++ [x]) w' ∧ Oth B m q W1 w') := Lib.hid (an_write 83 (inR n q true) B m 3 q c1 (some ⟨w6.heap.size, 0, none⟩) _ _ _ [x] W1 (hA6.below hbW) (Nat.le_trans hBy hbW.size) (by intro z hz; simp at hz; subst hz; exact ⟨hx1, hx2⟩) (by simp; omega) hc2)
          have HOO := Lib.hid ((HX.out.1.trans hO6).trans (oth_below hBy hbW))
          rw [hez] at hc1
          clear hc2 h4 hez
          go_wp2_with (go_at_call 50; refine HC.out.mono ?_; rintro e w9 ⟨rfl, v9, rb9, hA9, hO9⟩)
          have hO9' := HOO.out.trans hO9
          have hit9 : w9.heap[w.heap.size]? = some (.stringIter s (i + 1)) := hO9.2 _ _ ((oth_below hBy hbW).2 _ _ hit6 HX.out.2.2.1.1 HX.out.2.2.1.2 (by intro c fz e; cases e)) HX.out.2.2.1.1 HX.out.2.2.1.2 (by intro c fz e; cases e)
          have hstep : inF n (u.take (i + 1)) = (l ++ List.replicate n 32 ++ [x], true) := by rw [HTK.out, ← HX.out.2.2.2]; simp [inStep, h10]
          refine ⟨⟨i + 1, v9, rb9, by omega, hit9, by rw [hstep]; exact hA9, hO9'⟩, ?_⟩
          rw [iterPos_is hit9, hip]
          omega
    · have hnx : ∀ ty, (Instr.next (.pointer (some ⟨w.heap.size, 0, none⟩)) true ty).run Tryd.prog wr = .ok (.tuple #[.bool false]) wr := fun ty => Lib.run_next_end_at wr w.heap.size s i ty hit (by omega)
      have hE : u.take i = u := List.take_of_length_le (by omega)
      rw [hE] at hA
      go_wp2
      refine bodyPost_ret (v := .tuple #[.int .i64 u.length, .nilIface]) (by simp [results, Tryd.results29, go_sem]) rfl ?_
      exact ⟨rfl, v', rbv', _, hA, hO⟩
end Go.Proofs.YtanadaamipfmkaaDoor.H
