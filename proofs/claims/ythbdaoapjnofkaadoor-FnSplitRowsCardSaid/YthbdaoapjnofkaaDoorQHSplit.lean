/- The rows of a text that begins in a column (readline.SplitByLine): what it tells; for texts of printable ASCII of at most 1000000 signs, columns from 0 to 1000000. -/
import Derived.Test.YthbdaoapjnofkaaDoorQHRec
import Derived.Test.YthbdaoapjnofkaaDoorQXPure
import Derived.Test.YthbdaoapjnofkaaDoorQShelf
import Derived.Test.YthbdaoapjnofkaaDoorQPWidthx1
import Derived.Lib.BufferKept
import Derived.Laws.OwnMore
import Derived.Deep.AppendLies
import Derived.Maps.AppendAt
import Derived.IntWalk
namespace Go.Proofs.YthbdaoapjnofkaaDoor.H
open Go.RowKit Go.Proofs.YthbdaoapjnofkaaDoorW.PrintWords Go.Proofs.YthbdaoapjnofkaaDoorW.PrintLast Go.Proofs.YthbdaoapjnofkaaDoor.R Go.Proofs.YthbdaoapjnofkaaDoor.X
set_option linter.unusedVariables false
set_option linter.unusedSimpArgs false
attribute [local go_sem ↓] Go.wp_at_zero Go.wp_at_succ
theorem slice_of {w : World} {N n : Nat} {e : TypeId} {v : Value} {xs : List Value} (h : w.ownsRow N e 1 v n xs) : ∃ T c, v = .slice T n c := by
  rcases h.2 with ⟨e, h0⟩ | ⟨g, cap, cur, e, _⟩
  · exact ⟨none, 0, by rw [e, h0]⟩
  · exact ⟨_, _, e⟩
theorem wpList_append_any {P : Program} (w : World) {ops : Array Oper} {rest : List Oper} {o : Oper} {a : Act} {Q : Exit → Act → World → Prop} (hgd : o.guard = none) (s x : Operand) (t : TypeId)
    (ho : o.op = .call { callee := .builtin .append, args := #[s, x], argTypes := #[t, t] })
    (base : Nat) (e : TypeId) (i : TypeInfo) (z : Value) (size bytes : Nat) (ht : P.underlying t = some (.slice e)) (hi : P.info? e = some i) (hz : i.zero = some z)
    (hsize : i.size = size) (hby : i.bytes = bytes) (hzs : z.cells.size = size) (hsz : 0 < size)
    (v : Value) (n : Nat) (xs : List Value) (hs : a.eval s = v) (hown : w.ownsRow base e size v n xs)
    (ad : Addr) (m c : Nat) (news : List Value) (hx : a.eval x = .slice (some ad) m c) (hl : news.length = m * size) (hnews : ∀ j u, news[j]? = some u → w.cell? (ad.add j) = some u) (h1 : ∀ u ∈ news, u.oneCell' = true)
    (h63 : n + m ≤ maxLen) (hbytes : (n + m) * bytes ≤ 140737488355328) (hbase : base ≤ w.heap.size)
    (h : ∀ v' w', w'.ownsRow base e size v' (n + m) (xs ++ news) → w.grownBy w' v.ownBlock → (v'.ownBlock = v.ownBlock ∨ v'.ownBlock = some w.heap.size) → wpList P ops Q rest (a.put o.dst v') w') : wpList P ops Q (o :: rest) a w := by
  refine wpList_plain hgd fun K hK' => ?_
  obtain ⟨v', w', hrun, h2, h3, _, h5⟩ := run_append_own_at (P := P) w base t o.type e i z size bytes ht hi hz hsize hby hzs hsz v n xs hown ad m c news hl hnews h1 h63 hbytes hbase
  unfold Oper.wp
  simp [execOp, ho, resolve, invoke, builtin, hs, hx, hrun, Result.andThen]
  exact hK' _ _ (h v' w' h2 h3 h5)
theorem row_new (w : World) (l : List Value) (t : TypeId) : ∀ j u, l[j]? = some u → (w.alloc (.cells l.toArray t)).cell? ((⟨w.heap.size, 0, none⟩ : Addr).add j) = some u := by
  intro j u hu
  have h1 := (Rec.new w l t).cell j hu
  have e : (⟨w.heap.size, 0, none⟩ : Addr).add j = ⟨w.heap.size, j, none⟩ := by
    cases j with
    | zero => rfl
    | succ j => simp [Addr.add]
  rw [e]
  exact h1
theorem infoS : (Tryd.prog.info? 9).map (fun i => (i.zero, i.size, i.bytes)) = some (some (.string ⟨#[]⟩), 1, 16) := by kernel_rfl
theorem infoS_parts {t : TypeId} {z : Value} {n b : Nat} (h : (Tryd.prog.info? t).map (fun i => (i.zero, i.size, i.bytes)) = some (some z, n, b)) : ∃ i, Tryd.prog.info? t = some i ∧ i.zero = some z ∧ i.size = n ∧ i.bytes = b := by
  cases hi : Tryd.prog.info? t with
  | none => rw [hi] at h; cases h
  | some i =>
    rw [hi] at h
    simp only [Option.map_some, Option.some.injEq, Prod.mk.injEq] at h
    exact ⟨i, rfl, h.1, h.2.1, h.2.2⟩
def Bf (N b : Nat) (l : List UInt8) (w : World) : Prop := Lib.IsBuffer 68 5 N b (Lib.byteCells l) w
theorem Bf.move {N b : Nat} {l : List UInt8} {w w1 : World} (h : Bf N b l w) (hm : ∀ k, k < w.heap.size → (k = b ∨ ∃ c, w.heap[k]? = some (.cells c 5 (0, 0))) → w1.heap[k]? = w.heap[k]?) : Bf N b l w1 := by
  obtain ⟨hB, v, lr, hb, ho, hn⟩ := h
  refine ⟨hB, v, lr, (hm b (lt_of_block hb) (.inl rfl)).trans hb, own_move ho (fun k hk => hm k (World.ownsRow.lt ho k hk).2 (.inr ?_)), hn⟩
  obtain ⟨cs, e⟩ := own_typed ho k hk
  exact ⟨cs, e⟩
theorem Bf.stays {N b : Nat} {l : List UInt8} {w w1 : World} (h : Bf N b l w) (hb : Below w.heap.size w w1) : Bf N b l w1 := h.move fun k hk _ => hb.block k hk
theorem bytes_one (l : List UInt8) : ∀ v ∈ Lib.byteCells l, v.oneCell' = true := by
  intro v hv
  obtain ⟨x, _, rfl⟩ := List.mem_map.1 hv
  rfl
/-- Behind some signs: the rows that are whole, and the buffer of the one that is not. -/
structure SB (w0 wr : World) (b : Nat) (T : Option Addr) (c : Nat) (ret : List ByteArray) (l : List UInt8) : Prop where
  buf : Bf w0.heap.size b l wr
  row : wr.ownsRow w0.heap.size 9 1 (.slice T ret.length c) ret.length (ret.map Value.string)
  below : Below w0.heap.size w0 wr
theorem SB.lt {w0 wr : World} {b : Nat} {T : Option Addr} {c : Nat} {ret : List ByteArray} {l : List UInt8} (h : SB w0 wr b T c ret l) : b < wr.heap.size ∧ w0.heap.size ≤ wr.heap.size := ⟨h.buf.lt, h.below.size⟩
theorem SB.stays {w0 wr w1 : World} {b : Nat} {T : Option Addr} {c : Nat} {ret : List ByteArray} {l : List UInt8} (h : SB w0 wr b T c ret l) (hb : Below wr.heap.size wr w1) : SB w0 w1 b T c ret l :=
  ⟨h.buf.stays hb, own_move h.row (fun k hk => hb.block k (World.ownsRow.lt h.row k hk).2), h.below.trans (hb.mono h.below.size)⟩
/-- Behind a step of the buffer. -/
theorem SB.turned {w0 wr w1 : World} {b : Nat} {T : Option Addr} {c : Nat} {ret : List ByteArray} {l l1 : List UInt8} (h : SB w0 wr b T c ret l) (hB : Bf w0.heap.size b l1 w1) (hb : Below w0.heap.size wr w1) (hk : Lib.OthersKept 5 (some b) wr w1) : SB w0 w1 b T c ret l1 := by
  refine ⟨hB, own_move h.row (fun k hkk => ?_), h.below.trans hb⟩
  obtain ⟨cs, e⟩ := own_typed h.row k hkk
  have hne : k ≠ b := by
    rintro rfl
    obtain ⟨_, v, lr, e2, _⟩ := h.buf
    rw [e] at e2
    injection e2 with e2; injection e2 with _ e2
    exact absurd e2 (by decide)
  rw [e]
  exact hk k _ e (by simpa using hne) (by intro c fz e3; injection e3 with _ e3; exact absurd e3 (by decide))
/-- Behind an append to the rows. -/
theorem SB.grown {w0 wr w1 : World} {b : Nat} {T T1 : Option Addr} {c c1 : Nat} {ret : List ByteArray} {l : List UInt8} {x : ByteArray} (h : SB w0 wr b T c ret l) (ho : w1.ownsRow w0.heap.size 9 1 (.slice T1 (ret.length + 1) c1) (ret.length + 1) (ret.map Value.string ++ [.string x])) (hg : wr.grownBy w1 (Value.slice T ret.length c).ownBlock) : SB w0 w1 b T1 c1 (ret ++ [x]) l := by
  refine ⟨h.buf.move (fun k hk hc => hg.block k hk ?_), by simpa using ho, ?_⟩
  · intro e
    obtain ⟨cs, e2⟩ := own_typed h.row k e.symm
    rcases hc with rfl | ⟨c2, e3⟩
    · obtain ⟨_, v, lr, e3, _⟩ := h.buf
      rw [e2] at e3
      injection e3 with e3; injection e3 with _ e3
      exact absurd e3 (by decide)
    · rw [e2] at e3
      injection e3 with e3; injection e3 with _ e3
      exact absurd e3 (by decide)
  · exact h.below.grown hg h.below.size (fun k hk => (World.ownsRow.lt h.row k hk).1)
/-- The rows of a text. -/
def splitU (width : Int) : Int → List UInt8 → List UInt8 → List (List UInt8)
  | _, buf, [] => [buf]
  | cur, buf, x :: t => if cur + 1 ≥ width then (buf ++ [x]) :: splitU width 0 [] t else splitU width (cur + 1) (buf ++ [x]) t
def strs (L : List (List UInt8)) : List ByteArray := L.map fun l => ⟨l.toArray⟩
theorem NewBuffer_calls (w : World) : Calls Tryd.prog 76 #[.slice none 0 0] w fun e w' => e = .returned (.pointer (some ⟨w.heap.size, 0, none⟩)) ∧ w' = w.alloc (.cells #[.slice none 0 0, .int .i64 0, .int .i8 0] 68) := by
  go_enter Tryd.func76, Tryd.ntmps76
  go_wp2
  go_ret
  exact ⟨rfl, rfl⟩
theorem Width_one (x : Int) (w : World) (h0 : 32 ≤ x) (h1 : x ≤ 126) : Calls Tryd.prog 77 #[.agg #[], .int .i32 x] w fun e w' => e = .returned (.int .i64 1) ∧ Below w.heap.size w w' := by
  refine PWidth.readline_Runes_Width.calls x 1 w ?_
  unfold PWidth.readline_Runes_Width.f
  rw [if_neg (by omega), if_neg (by omega), if_neg (by omega)]
set_option maxRecDepth 100000 in
set_option maxHeartbeats 8000000 in
theorem SplitByLine_calls (start width : Int) (u : List UInt8) (A : Option Addr) (c : Nat) (w : World) (hs0 : 0 ≤ start) (hs1 : start ≤ 1000000) (hw0 : 0 ≤ width) (hw1 : width ≤ 1000000) (hu : u.length ≤ 1000000) (hp : ∀ x ∈ u, 32 ≤ x.toNat ∧ x.toNat ≤ 126) (hr : Kd.C (Kd.int .i32) w A u.length (u.map fun x => (x.toNat : Int))) (hc : u.length ≤ c) :
    Calls Tryd.prog 45 #[.int .i64 start, .int .i64 width, .slice A u.length c] w fun e w' => ∃ T c', e = .returned (.slice T (strs (splitU width start [] u)).length c') ∧ w'.ownsRow w.heap.size 9 1 (.slice T (strs (splitU width start [] u)).length c') (strs (splitU width start [] u)).length ((strs (splitU width start [] u)).map Value.string) ∧ Below w.heap.size w w' := by
  obtain ⟨i0, hi, hz0, hz1, hz2⟩ := infoS_parts infoS
  have HI := Lib.hid (And.intro hi (And.intro hz0 (And.intro hz1 hz2)))
  have HR := Lib.hid (And.intro hr (And.intro hc (And.intro hp hu)))
  have hb0 : Below w.heap.size w (w.alloc (.cells #[.slice none 0 0, .int .i64 0, .int .i8 0] 68)) := (Below.refl _ _).alloc (Nat.le_refl _) _
  have HS0 := Lib.hid (show SB w (w.alloc (.cells #[.slice none 0 0, .int .i64 0, .int .i8 0] 68)) w.heap.size none 0 [] [] from ⟨Lib.fresh_isBuffer 68 5 w, World.ownsRow_nil _ _ _ _, hb0⟩)
  clear hr hc hp hi hz0 hz1 hz2 hb0
  go_enter Tryd.func45, Tryd.ntmps45
  go_wp2_with fail
  refine (NewBuffer_calls w).mono ?_
  rintro e w1 ⟨rfl, rfl⟩
  go_wp2_with fail
  go_loopw [7, 9, 17] (fun v7 v9 v17 wr => ∃ (i : Nat) (cur : Int) (T : Option Addr) (c' : Nat) (ret : List ByteArray) (bs : List UInt8), i ≤ u.length ∧ v17 = .int .i64 i ∧ v9 = .int .i64 cur ∧ 0 ≤ cur ∧ cur ≤ 1000000 + i ∧ v7 = .slice T ret.length c' ∧ SB w wr w.heap.size T c' ret bs ∧ strs (splitU width start [] u) = ret ++ strs (splitU width cur bs (u.drop i)) ∧ ret.length ≤ i ∧ bs.length ≤ i) (fun _ _ v17 _ => u.length - (intOf v17).toNat)
  case atStart => exact ⟨0, start, none, 0, [], [], Nat.zero_le _, rfl, rfl, hs0, by omega, rfl, HS0.out, by simp, Nat.le_refl _, Nat.le_refl _⟩
  case round =>
    obtain ⟨i, cur, T, c', ret, bs, hi, rfl, rfl, hc0, hc1, rfl, hS, hsp, hrl, hbl⟩ := hrel
    have HS := Lib.hid hS
    have HSP := Lib.hid hsp
    clear hS hsp
    by_cases hlt : i < u.length
    · obtain ⟨ad, hA, q0⟩ := Kd.at_int (Kd.C_below HR.out.1 HS.out.below) (i : Int) (by omega) (by omega)
      subst hA
      have hrd : rd (u.map fun x => (x.toNat : Int)) (i : Int) = (u[i].toNat : Int) := by rw [rd_nat _ i (by simpa using hlt)]; simp
      rw [hrd, Int.toNat_natCast] at q0
      have HD := Lib.hid (List.drop_eq_getElem_cons hlt)
      obtain ⟨hx0, hx1⟩ := HR.out.2.2.1 u[i] (List.getElem_mem hlt)
      clear hrd
      obtain ⟨x, hx⟩ : ∃ x, x = u[i] := ⟨_, rfl⟩
      rw [← hx] at q0 hx0 hx1
      have HXX := Lib.hid hx
      clear hx
      have hwc : IntKind.i64.wrap (cur + 1) = cur + 1 := IntWalk.i64_in _ (by omega)
      go_wp2_with fail
      refine (Width_one (x.toNat : Int) _ (by omega) (by omega)).mono ?_
      rintro e w1 ⟨rfl, hb1⟩
      have HS1 := Lib.hid (HS.out.stays hb1)
      clear hb1
      go_wp2_with fail
      refine (Go.Proofs.Tryd.Buffer_WriteRune_ascii w.heap.size w.heap.size (Lib.byteCells bs) (x.toNat : Int) (by omega) (by omega) w1 HS1.out.buf HS1.out.lt.2 (bytes_one bs) (by rw [Lib.byteCells_length]; omega)).mono ?_
      rintro e w2 ⟨rfl, hI, hb2, hk2⟩
      have HS2 := Lib.hid (HS1.out.turned (l1 := bs ++ [x]) (by unfold Bf; rw [show Lib.byteCells (bs ++ [x]) = Lib.byteCells bs ++ [.int .u8 x.toNat] by simp [Lib.byteCells]]; exact hI) hb2 hk2)
      clear hI hb2 hk2
      by_cases hge : width ≤ cur + 1
      · go_wp2_with fail
        refine (Go.Proofs.Tryd.Buffer_String w.heap.size w.heap.size (bs ++ [x]) w2 HS2.out.buf).mono ?_
        rintro e w3 ⟨rfl, n3, rfl⟩
        obtain ⟨S, hS⟩ : ∃ S : ByteArray, S = ⟨(bs ++ [x]).toArray⟩ := ⟨_, rfl⟩
        rw [← hS]
        have HSS := Lib.hid hS
        have HS3 := Lib.hid (show SB w (w2.drewN n3) w.heap.size T c' ret (bs ++ [x]) from HS2.out.stays (pw_below_drewN (Below.refl _ _) n3))
        clear hS
        go_wp2_with (at_builtin; go_loud (refine wpList_append_any _ rfl (.tmp 33) (.tmp 36) _ rfl w.heap.size 9 i0 (.string ⟨#[]⟩) 1 16 Tryd.underlying22 HI.out.1 HI.out.2.1 HI.out.2.2.1 HI.out.2.2.2 rfl (by omega) (.slice T ret.length c') ret.length (ret.map Value.string) rfl (own_move HS3.out.row (fun k hk => Below.heap_alloc _ _ k (World.ownsRow.lt HS3.out.row k hk).2)) ⟨(w2.drewN n3).heap.size, 0, none⟩ 1 1 [.string S] (by simp [go_sem]) (by simp) (row_new (w2.drewN n3) [.string S] 9) (by intro z hz; rw [List.mem_singleton] at hz; subst hz; rfl) (by unfold maxLen; omega) (by omega) (Nat.le_trans HS3.out.lt.2 (by simp)) ?_; intro v4 w4 ho4 hg4 hat4; obtain ⟨T4, c4, rfl⟩ := slice_of ho4; have HX4 := Lib.hid (And.intro ho4 hg4); clear ho4 hg4 hat4))
        have HS4 := Lib.hid (SB.grown (x := S) (HS3.out.stays (Below.alloc (Below.refl _ _) (Nat.le_refl _) (.cells #[.string S] 9))) HX4.out.1 HX4.out.2)
        refine (Go.Proofs.Tryd.Buffer_Reset_k w.heap.size w.heap.size (Lib.byteCells (bs ++ [x])) w4 HS4.out.buf).mono ?_
        rintro e w5 ⟨rfl, hI, hb5, hk5⟩
        have HS5 := Lib.hid (HS4.out.turned (l1 := []) hI hb5 hk5)
        clear hI hb5 hk5
        go_wp2_with fail
        go_roundw
        case rel =>
          refine ⟨i + 1, 0, T4, c4, ret ++ [S], [], by omega, by go_num, rfl, by omega, by omega, by simp, HS5.out, ?_, by simp; omega, by simp⟩
          rw [HSP.out, HD.out, ← HXX.out, splitU, if_pos hge, HSS.out]
          simp [strs]
        case measure => simp only [intOf]; omega
      · go_wp2_with fail
        go_roundw
        case rel =>
          refine ⟨i + 1, cur + 1, T, c', ret, bs ++ [x], by omega, by go_num, rfl, by omega, by omega, rfl, HS2.out, ?_, by omega, by simp; omega⟩
          rw [HSP.out, HD.out, ← HXX.out, splitU, if_neg (by omega)]
        case measure => simp only [intOf]; omega
    · obtain rfl : i = u.length := by omega
      go_wp2_with fail
      refine (Go.Proofs.Tryd.Buffer_String w.heap.size w.heap.size bs wr HS.out.buf).mono ?_
      rintro e w3 ⟨rfl, n3, rfl⟩
      obtain ⟨S, hS⟩ : ∃ S : ByteArray, S = ⟨bs.toArray⟩ := ⟨_, rfl⟩
      rw [← hS]
      have HSS := Lib.hid hS
      have HS3 := Lib.hid (show SB w (wr.drewN n3) w.heap.size T c' ret bs from HS.out.stays (pw_below_drewN (Below.refl _ _) n3))
      clear hS
      go_wp2_with (at_builtin; go_loud (refine wpList_append_any _ rfl (.tmp 41) (.tmp 44) _ rfl w.heap.size 9 i0 (.string ⟨#[]⟩) 1 16 Tryd.underlying22 HI.out.1 HI.out.2.1 HI.out.2.2.1 HI.out.2.2.2 rfl (by omega) (.slice T ret.length c') ret.length (ret.map Value.string) rfl (own_move HS3.out.row (fun k hk => Below.heap_alloc _ _ k (World.ownsRow.lt HS3.out.row k hk).2)) ⟨(wr.drewN n3).heap.size, 0, none⟩ 1 1 [.string S] (by simp [go_sem]) (by simp) (row_new (wr.drewN n3) [.string S] 9) (by intro z hz; rw [List.mem_singleton] at hz; subst hz; rfl) (by unfold maxLen; omega) (by omega) (Nat.le_trans HS3.out.lt.2 (by simp)) ?_; intro v4 w4 ho4 hg4 hat4; obtain ⟨T4, c4, rfl⟩ := slice_of ho4; have HX4 := Lib.hid (And.intro ho4 hg4); clear ho4 hg4 hat4))
      have HS4 := Lib.hid (SB.grown (x := S) (HS3.out.stays (Below.alloc (Below.refl _ _) (Nat.le_refl _) (.cells #[.string S] 9))) HX4.out.1 HX4.out.2)
      go_ret
      have hsp := HSP.out
      rw [List.drop_length] at hsp
      have hfin : strs (splitU width start [] u) = ret ++ [S] := by rw [hsp, HSS.out]; rfl
      rw [hfin]
      exact ⟨T4, c4, by simp, by have := HS4.out.row; simpa using this, HS4.out.below⟩
/-- For printable ASCII. -/
def readline_SplitByLine.f (a0 a1 : Int) (l2 : List Int) : Option (List ByteArray) := if 0 ≤ a0 ∧ a0 ≤ 1000000 ∧ 0 ≤ a1 ∧ a1 ≤ 1000000 ∧ l2.length ≤ 1000000 ∧ (∀ x ∈ l2, 32 ≤ x ∧ x ≤ 126) then some (strs (splitU a1 a0 [] (l2.map fun x => UInt8.ofNat x.toNat))) else none
theorem readline_SplitByLine.calls (a0 a1 : Int) (A2 : Option Addr) (c2 : Nat) (l2 : List Int) (r : List ByteArray) (w : World) (hr2 : Kd.C (Kd.int .i32) w A2 l2.length l2) (hc2 : l2.length ≤ c2) (h : readline_SplitByLine.f a0 a1 l2 = some r) :
    Calls Tryd.prog 45 #[.int .i64 a0, .int .i64 a1, .slice A2 l2.length c2] w fun e w' => ∃ v0_ : Value, e = .returned (v0_) ∧ Kd.R Kd.string 9 w' w.heap.size (fun _ => True) v0_ r ∧ Below w.heap.size w w' := by
  unfold readline_SplitByLine.f at h
  by_cases hg : 0 ≤ a0 ∧ a0 ≤ 1000000 ∧ 0 ≤ a1 ∧ a1 ≤ 1000000 ∧ l2.length ≤ 1000000 ∧ (∀ x ∈ l2, 32 ≤ x ∧ x ≤ 126)
  · rw [if_pos hg] at h
    obtain rfl := Option.some.inj h
    obtain ⟨g0, g1, g2, g3, g4, g5⟩ := hg
    have hl : (l2.map fun x => UInt8.ofNat x.toNat).length = l2.length := List.length_map _
    have hx : ∀ x ∈ l2, ((UInt8.ofNat x.toNat).toNat : Int) = x := fun x hx => by
      have := g5 x hx
      obtain ⟨n, rfl⟩ := Int.eq_ofNat_of_zero_le (show 0 ≤ x by omega)
      simp only [Int.toNat_natCast, UInt8.toNat_ofNat']
      omega
    have hm : ((l2.map fun x => UInt8.ofNat x.toNat).map fun x => (x.toNat : Int)) = l2 := by
      rw [List.map_map]
      exact (List.map_congr_left fun x h => hx x h).trans (List.map_id l2)
    have := SplitByLine_calls a0 a1 (l2.map fun x => UInt8.ofNat x.toNat) A2 c2 w g0 g1 g2 g3 (by omega) (fun y hy => by
      obtain ⟨x, h1, rfl⟩ := List.mem_map.1 hy
      have h2 := hx x h1
      have h3 := g5 x h1
      constructor <;> omega) (by rw [hl, hm]; exact hr2) (by omega)
    rw [hl] at this
    refine this.mono ?_
    rintro e w' ⟨T, c', rfl, ho, hb⟩
    exact ⟨_, rfl, Kd.R_of_own ho (fun _ _ => trivial), hb⟩
  · rw [if_neg hg] at h; cases h
end Go.Proofs.YthbdaoapjnofkaaDoor.H
