/- A writer that cuts lines (truncate.Writer): what it writes of plain bytes; printable signs of ASCII, at most 500000 of them. -/
import Derived.Test.YtanadaamipfmkaaDoorQHTa
namespace Go.Proofs.YtanadaamipfmkaaDoor.H
open Go.RowKit Go.Proofs.YtanadaamipfmkaaDoorW.PrintWords Go.Proofs.YtanadaamipfmkaaDoorW.PrintLast Go.Proofs.YtanadaamipfmkaaDoor.R
set_option linter.unusedVariables false
set_option linter.unusedSimpArgs false
attribute [local go_sem ↓] Go.wp_at_zero Go.wp_at_succ
def trR (n : Int) (tail : ByteArray) (q : Nat) : Nat → Option Value := fun i => [Value.int .u64 n, .string tail, .pointer (some ⟨q, 0, none⟩), .nilFunc, .nilFunc, .nilFunc, .bool false][i]?
theorem three_width {w : World} {m q : Nat} {n : Int} {tail : ByteArray} {v x y : Value} (h : LibA.Three w m 3 89 (trR n tail q) v x y) (n' : Int) : LibA.Three (w.setCell ⟨m, 0, none⟩ (.int .u64 n')) m 3 89 (trR n' tail q) v x y := by
  obtain ⟨cs, hb, h0, h1, h2, hr⟩ := h
  have h6 : cs[0]? = some (.int .u64 n) := hr 0 (.inl (by omega))
  have hlt : 0 < cs.size := (Array.getElem?_eq_some_iff.1 h6).1
  refine ⟨_, Lib.heap_setCell_same (i := 0) hb (.int .u64 n'), by rw [Array.getElem?_setIfInBounds_ne (by omega)]; exact h0, by rw [Array.getElem?_setIfInBounds_ne (by omega)]; exact h1, by rw [Array.getElem?_setIfInBounds_ne (by omega)]; exact h2, fun i hi => ?_⟩
  by_cases h : i = 0
  · subst h
    simp [hlt, trR]
  · rw [Array.getElem?_setIfInBounds_ne (Ne.symm h), hr i hi]
    rcases i with _ | _ | _ | _ | _ | _ | _ | i
    all_goals first | rfl | (exact absurd rfl h)
theorem AN.width {m q B : Nat} {n : Int} {tail : ByteArray} {v rbv : Value} {l : List UInt8} {w : World} (h : AN 89 (trR n tail q) B m 3 q v rbv l w) (n' : Int) : AN 89 (trR n' tail q) B m 3 q v rbv l (w.setCell ⟨m, 0, none⟩ (.int .u64 n')) := by
  obtain ⟨lr, h3⟩ := h.buf.three
  refine ⟨⟨h.buf.low, ⟨lr, three_width h3 n'⟩, own_move h.buf.own (fun k e => Below.heap_setCell w ⟨m, 0, none⟩ _ k (fun e2 => h.buf.ne (by rw [e, e2]))), h.buf.ne, h.buf.nil⟩, h.rec_.other (a := ⟨m, 0, none⟩) h.qm _, h.qm, h.low, ?_⟩
  rcases h.rb with e | ⟨rb, cs, e, h1, h2, h3, h4, h5⟩
  · exact .inl e
  · exact .inr ⟨rb, cs, e, (Below.heap_setCell w ⟨m, 0, none⟩ _ rb h4).trans h1, h2, h3, h4, h5⟩
/-- What a text is cut to. -/
def truncU (n : Nat) (tail u : List UInt8) : List UInt8 := if n < tail.length then tail else if u.length ≤ n - tail.length then u else u.take (n - tail.length) ++ tail
/-- The buffer holds l, and its row is its own. -/
def Held9 (B m : Nat) (l : List UInt8) (w : World) : Prop := ∃ R v lr, LibA.Three w m 3 89 R v (.int .i64 0) (.int .i8 lr) ∧ w.ownsRow B 5 1 v l.length (Lib.byteCells l)
theorem held_buf {R : Nat → Option Value} {B m : Nat} {l tail : List UInt8} {w : World} (h : LibA.IsBuffer 89 R 5 B m 3 (Lib.byteCells l ++ Lib.byteCells tail) w) : Held9 B m (l ++ tail) w := by
  obtain ⟨_, v, lr, h3, ho, _⟩ := h
  have e : Lib.byteCells l ++ Lib.byteCells tail = Lib.byteCells (l ++ tail) := by simp [Lib.byteCells]
  rw [e] at ho
  rw [show (Lib.byteCells (l ++ tail)).length = (l ++ tail).length by simp [Lib.byteCells]] at ho
  exact ⟨R, v, lr, h3, ho⟩
theorem buf_is {T : TypeId} {R : Nat → Option Value} {B b q : Nat} {v : Value} {l : List UInt8} {w : World} (h : BW T R B b q v l w) : LibA.IsBuffer T R 5 B b q (Lib.byteCells l) w := by
  obtain ⟨lr, h3⟩ := h.three
  refine ⟨h.low, v, lr, h3, ?_, h.ne⟩
  rw [show (Lib.byteCells l).length = l.length by simp [Lib.byteCells]]
  exact h.own
set_option maxHeartbeats 12800000 in
set_option maxRecDepth 100000 in
theorem tr_write (B m q n c : Nat) (A : Option Addr) (tail : ByteArray) (u : List UInt8) (w : World) (h : AN 89 (trR n tail q) B m 3 q (.slice none 0 0) (.slice none 0 0) [] w) (hBw : B ≤ w.heap.size) (hn : n ≤ 1000000) (ht : PlainU tail.data.toList) (htl : tail.size ≤ 1000000) (hu : PlainU u) (hul : u.length ≤ 500000)
    (hcv : ∀ w', Below B w w' → (convert 47 9 (.slice A u.length c)).run Tryd.prog w' = .ok (.string ⟨u.toArray⟩) w') :
    Calls Tryd.prog 40 #[.pointer (some ⟨m, 0, none⟩), .slice A u.length c] w fun e w' => (∃ x, e = .returned (.tuple #[.int .i64 x, .nilIface])) ∧ Held9 B m (truncU n tail.data.toList u) w' ∧ Below B w w' := by
  have hss : (⟨u.toArray⟩ : ByteArray).size = u.length := by simp [ByteArray.size]
  have htd : tail.data.toList.length = tail.size := by rw [Array.length_toList]; rfl
  obtain ⟨s, hs⟩ : ∃ s : ByteArray, s = ⟨u.toArray⟩ := ⟨_, rfl⟩
  rw [← hs] at hcv hss
  have hat : ∀ i (hi : i < s.size) (hi2 : i < u.length), s[i]'hi = u[i]'hi2 := fun i hi hi2 => by subst hs; rfl
  have HAT := Lib.hid (And.intro hat (And.intro hss (And.intro hu htd)))
  have hmb := h.buf.low
  have HCV := Lib.hid hcv
  obtain ⟨lr0, h3⟩ := h.buf.three
  have m0 : w.cell? ⟨m, 0, none⟩ = some (.int .u64 n) := h3.rest 0 (.inl (by omega))
  have m1 : w.cell? ⟨m, 1, none⟩ = some (.string tail) := h3.rest 1 (.inl (by omega))
  have HA := Lib.hid h
  have HWD := Lib.hid (Width_calls tail w htl ht)
  have mixed : Tryd.prog.follows Departure.mixedOrders = true := by kernel_rfl
  have hwt : IntKind.u64.wrap (tail.size : Int) = tail.size := by unfold IntKind.wrap; simp [IntKind.bits, IntKind.signed]; omega
  clear hat hu h hs h3 hcv ht
  go_enter Tryd.func40, Tryd.ntmps40
  go_wp2_with fail
  refine HWD.out.mono ?_
  rintro e w1 ⟨rfl, hb1⟩
  have hA1 := HA.out.below hb1
  have hB1 : B ≤ w1.heap.size := Nat.le_trans hBw hb1.size
  obtain ⟨lr1, h3⟩ := hA1.buf.three
  have k0 : w1.cell? ⟨m, 0, none⟩ = some (.int .u64 n) := h3.rest 0 (.inl (by omega))
  have k1 : w1.cell? ⟨m, 1, none⟩ = some (.string tail) := h3.rest 1 (.inl (by omega))
  have kf : w1.frozen? ⟨m, 0, none⟩ = false := h3.f 0
  have HA1 := Lib.hid (And.intro hA1 (hb1.mono hBw))
  clear hA1 hb1 h3 m0 m1
  by_cases hsm : n < tail.size
  · have hsi : (n : Int) < (tail.size : Int) := by omega
    have HW := Lib.hid (ws_at 89 (trR n tail q) B m 3 (Lib.byteCells []) tail w1.drew (buf_is HA1.out.1.drew.buf) hB1 (by simp [Lib.byteCells]) (by simp [Lib.byteCells]; omega))
    go_wp2
    have hd : (fun w' : World => w'.cell? ⟨m, 1, none⟩ = some (.string tail)) w1 := k1
    go_region_held3 (fun w' => w'.cell? ⟨m, 1, none⟩ = some (.string tail)) (first | go_keep | (exact hd)) (first | (go_at_call 56; refine HW.out.mono ?_; rintro e w2 ⟨rfl, hI2, hb2, hk2⟩; have hd : w2.cell? ⟨m, 1, none⟩ = some (.string tail) := hI2.rest 1 (.inl (by omega))))
    go_wp2
    refine bodyPost_ret (v := .tuple #[.int .i64 tail.size, .nilIface]) (by simp [results, Tryd.results40, go_sem]) rfl ?_
    have h9 := held_buf hI2
    rw [List.nil_append] at h9
    refine ⟨⟨_, rfl⟩, ?_, (below_drew HA1.out.2).trans hb2⟩
    unfold truncU
    rw [if_pos (by have := HAT.out.2.2.2; omega)]
    exact h9
  · obtain ⟨r, hr⟩ : ∃ r : Nat, n = tail.size + r := ⟨n - tail.size, by omega⟩
    have hsi : ¬ (n : Int) < (tail.size : Int) := by omega
    have hws : IntKind.u64.wrap ((n : Int) - (tail.size : Int)) = (r : Int) := by unfold IntKind.wrap; simp [IntKind.bits, IntKind.signed]; omega
    have hAw := HA1.out.1.width (r : Int)
    have hBW : Below B w (w1.setCell ⟨m, 0, none⟩ (.int .u64 r)) := HA1.out.2.setCell hmb _
    have hc2 := HCV.out _ hBW
    have hsz1 : (w1.setCell ⟨m, 0, none⟩ (.int .u64 r)).heap.size = w1.heap.size := by simp
    have hit0 := World.iter_heap (w1.setCell ⟨m, 0, none⟩ (.int .u64 r)) s 0
    rw [hsz1] at hit0
    have hA0 : AN 89 (trR r tail q) B m 3 q (.slice none 0 0) (.slice none 0 0) (u.take 0) ((w1.setCell ⟨m, 0, none⟩ (.int .u64 r)).iter s 0) := hAw.move (alloc_move _ _)
    have hB0 : Below B w ((w1.setCell ⟨m, 0, none⟩ (.int .u64 r)).iter s 0) := hBW.alloc (Nat.le_trans hBw hBW.size) _
    have HZ := Lib.hid (And.intro hit0 (And.intro hA0 (And.intro hB0 hr)))
    clear hit0 hA0 hB0 hAw hBW hsz1 hr
    go_wp2
    go_loopw [7, 9] (fun v7 _ wr => ∃ (i : Nat) (v' rb' : Value), i ≤ u.length ∧ i ≤ r ∧ v7 = .int .u64 i ∧ wr.heap[w1.heap.size]? = some (.stringIter s i) ∧ AN 89 (trR r tail q) B m 3 q v' rb' (u.take i) wr ∧ Below B w wr) (fun _ _ wr => s.size - wr.iterPos w1.heap.size)
    case atStart => exact ⟨0, _, _, Nat.zero_le _, Nat.zero_le _, rfl, HZ.out.1, HZ.out.2.1, HZ.out.2.2.1⟩
    case round =>
      obtain ⟨i, v', rb', hi, hir, rfl, hit, hA, hO⟩ := hrel
      have hip := iterPos_is hit
      by_cases hlt : i < u.length
      · have hlt2 : i < s.size := by omega
        obtain ⟨x, hx⟩ : ∃ x, x = u[i] := ⟨_, rfl⟩
        obtain ⟨hx1, hx2⟩ := HAT.out.2.2.1 x (by rw [hx]; exact List.getElem_mem hlt)
        have hsx : s[i]'hlt2 = x := by rw [hx]; exact HAT.out.1 i hlt2 hlt
        have hnx : ∀ ty, (Instr.next (.pointer (some ⟨w1.heap.size, 0, none⟩)) true ty).run Tryd.prog wr = .ok (.tuple #[.bool true, .int .i64 i, .int .i32 x.toNat]) (wr.iterAt w1.heap.size s (i + 1)) := fun ty => by
          rw [Lib.run_next_ascii_at wr w1.heap.size s i ty hit hlt2 (by rw [hsx]; omega), hsx]
        have hA1 := hA.move (iter_move (i' := i + 1) hit)
        have hit1 := Lib.iterAt_heap wr w1.heap.size s i (i + 1) hit
        have hO1 : Below B w (wr.iterAt w1.heap.size s (i + 1)) := Lib.below_iterAt hO hB1 s _
        have hne : ((x.toNat : Int) == 27) = false := beq_eq_false_iff_ne.2 (by omega)
        have hB2 : B ≤ (wr.iterAt w1.heap.size s (i + 1)).heap.size := Nat.le_trans hBw hO1.size
        have hmq : w1.heap.size ≠ m ∧ w1.heap.size ≠ q := by
          constructor
          · rintro e
            obtain ⟨lr, cs, h9, _⟩ := hA1.buf.three
            rw [← e, hit1] at h9
            cases h9
          · rintro e
            have h9 := hA1.rec_
            unfold Rec at h9
            rw [← e, hit1] at h9
            cases h9
        have HTK := Lib.hid (show u.take (i + 1) = u.take i ++ [x] by rw [List.take_succ_eq_append_getElem hlt, hx])
        have htk : (u.take i).length = i := by rw [List.length_take]; omega
        have HX := Lib.hid (And.intro hO1 (And.intro hit1 hmq))
        clear hA hO hO1 hit1 hmq hx hsx
        generalize wr.iterAt w1.heap.size s (i + 1) = w3 at *
        obtain ⟨lr, h3⟩ := hA1.buf.three
        have m0 : w3.cell? ⟨m, 0, none⟩ = some (.int .u64 r) := h3.rest 0 (.inl (by omega))
        have m1 : w3.cell? ⟨m, 1, none⟩ = some (.string tail) := h3.rest 1 (.inl (by omega))
        have m2 : w3.cell? ⟨m, 2, none⟩ = some (.pointer (some ⟨q, 0, none⟩)) := h3.rest 2 (.inl (by omega))
        have m6 : w3.cell? ⟨m, 6, none⟩ = some (.bool false) := h3.rest 6 (.inr (by omega))
        have HA3 := Lib.hid hA1
        have hw1 : IntKind.u64.wrap 1 = 1 := by decide
        have hwi : IntKind.u64.wrap ((i : Int) + 1) = (i : Int) + 1 := by unfold IntKind.wrap; simp [IntKind.bits, IntKind.signed]; omega
        clear h3
        by_cases hroom : i < r
        · have hgt : ¬ ((r : Int) < (i : Int) + 1) := by omega
          obtain ⟨c1, W1, hc1, hc2', hbW⟩ := to_bytes w3 (Utf8.encode (x.toNat : Int))
          rw [enc_one x (by omega)] at hc2'
          have hez : (Utf8.encode (x.toNat : Int)).size = 1 := by rw [enc_one x (by omega)]; rfl
          have HC : Hid (Calls Tryd.prog 50 #[.pointer (some ⟨q, 0, none⟩), .slice (some ⟨w3.heap.size, 0, none⟩) 1 c1] W1 fun e w' => e = .returned (.tuple #[.int .i64 1, .nilIface]) ∧ ∃ v'' rb'', AN 89 (trR r tail q) B m 3 q v'' rb'' (u.take i ++ [x]) w' ∧ Oth B m q W1 w') := Lib.hid (an_write 89 (trR r tail q) B m 3 q c1 (some ⟨w3.heap.size, 0, none⟩) _ _ _ [x] W1 (hA1.below hbW) (Nat.le_trans hB2 hbW.size) (by intro z hz; simp at hz; subst hz; exact ⟨by omega, by omega⟩) (by simp; omega) hc2')
          have HOO := Lib.hid (And.intro (HX.out.1.trans (hbW.mono hB2)) hbW)
          rw [hez] at hc1
          clear hc2' hez hA1
          go_wp2_with (first | (go_at_call 53; refine (RuneWidth_one _ _ (by omega) (by omega)).mono ?_; rintro e w2 ⟨rfl, rfl⟩) | (go_at_call 50; refine HC.out.mono ?_; rintro e w9 ⟨rfl, v9, rb9, hA9, hO9⟩))
          have hit9 : w9.heap[w1.heap.size]? = some (.stringIter s (i + 1)) := hO9.2 _ _ ((oth_below (m := m) (q := q) hB2 HOO.out.2).2 _ _ HX.out.2.1 HX.out.2.2.1 HX.out.2.2.2 (by intro c fz e; cases e)) HX.out.2.2.1 HX.out.2.2.2 (by intro c fz e; cases e)
          refine ⟨⟨i + 1, v9, rb9, by omega, by omega, by go_num, hit9, by rw [HTK.out]; exact hA9, HOO.out.1.trans hO9.1⟩, ?_⟩
          rw [iterPos_is hit9, hip]
          omega
        · have hgt : (r : Int) < (i : Int) + 1 := by omega
          have HW := Lib.hid (ws_at 89 (trR r tail q) B m 3 (Lib.byteCells (u.take i)) tail w3.drew (buf_is hA1.drew.buf) hB2 (bytes_cells _) (by simp [Lib.byteCells]; omega))
          clear hA1
          go_wp2_with (go_at_call 53; refine (RuneWidth_one _ _ (by omega) (by omega)).mono ?_; rintro e w2 ⟨rfl, hw2⟩; have hw3 := hw2.symm; subst hw3; clear hw2)
          have hd : (fun w' : World => w'.cell? ⟨m, 1, none⟩ = some (.string tail)) w3 := m1
          go_region_held3 (fun w' => w'.cell? ⟨m, 1, none⟩ = some (.string tail)) (first | go_keep | (exact hd)) (first | (go_at_call 56; refine HW.out.mono ?_; rintro e w5 ⟨rfl, hI5, hb5, hk5⟩; have hd : w5.cell? ⟨m, 1, none⟩ = some (.string tail) := hI5.rest 1 (.inl (by omega))))
          have p2 : w5.cell? ⟨m, 2, none⟩ = some (.pointer (some ⟨q, 0, none⟩)) := hI5.rest 2 (.inl (by omega))
          have hrec5 : Rec w5 q (anC m 3 rb') 81 := hk5 q _ HA3.out.rec_ (by simpa using HA3.out.qm) (by intro c fz e; injection e with _ e; exact absurd e (by decide))
          have HL := Lib.hid (LastSeq_calls m 3 q rb' w5 hrec5)
          have HH5 := Lib.hid (And.intro (held_buf hI5) (HX.out.1.trans ((below_drew (Below.refl B w3)).trans hb5)))
          clear hI5 hb5 hk5 hrec5
          go_wp2_with (go_at_call 58; refine HL.out.mono ?_; rintro e w6 ⟨rfl, rfl⟩)
          refine bodyPost_ret (v := .tuple #[.int .i64 tail.size, .nilIface]) (by simp [results, Tryd.results40, go_sem]) rfl ?_
          obtain ⟨R9, v9, lr9, a9, b9⟩ := HH5.out.1
          have h1 := HAT.out.2.2.2
          have h2 := HZ.out.2.2.2
          obtain rfl : i = r := by omega
          refine ⟨⟨_, rfl⟩, ?_, below_drew HH5.out.2⟩
          unfold truncU
          rw [if_neg (by omega), if_neg (by omega), show n - tail.data.toList.length = i by omega]
          exact ⟨R9, v9, lr9, a9, b9⟩
      · have hnx : ∀ ty, (Instr.next (.pointer (some ⟨w1.heap.size, 0, none⟩)) true ty).run Tryd.prog wr = .ok (.tuple #[.bool false]) wr := fun ty => Lib.run_next_end_at wr w1.heap.size s i ty hit (by omega)
        have hE : u.take i = u := List.take_of_length_le (by omega)
        rw [hE] at hA
        go_wp2
        refine bodyPost_ret (v := .tuple #[.int .i64 u.length, .nilIface]) (by simp [results, Tryd.results40, go_sem]) rfl ?_
        obtain ⟨lr, h3⟩ := hA.buf.three
        refine ⟨⟨_, rfl⟩, ?_, hO⟩
        have h1 := HAT.out.2.2.2
        have h2 := HZ.out.2.2.2
        unfold truncU
        rw [if_neg (by omega), if_pos (by omega)]
        exact ⟨_, _, lr, h3, hA.buf.own⟩
end Go.Proofs.YtanadaamipfmkaaDoor.H
