/- A writer of sequences for a terminal (goprompt.VT100Writer): its state in memory, and raw bytes; for rows of at most 1000000 bytes. -/
import Derived.Test.YtanadaamipfmkaaDoorQHRec
import Derived.Test.YtanadaamipfmkaaDoorQXPure
import Derived.Laws.OwnMore
import Derived.Deep.AppendLies
import Derived.Maps.AppendAt
import Derived.IntWalk
namespace Go.Proofs.YtanadaamipfmkaaDoor.H
open Go.RowKit Go.Proofs.YtanadaamipfmkaaDoorW.PrintWords Go.Proofs.YtanadaamipfmkaaDoorW.PrintLast Go.Proofs.YtanadaamipfmkaaDoor.R Go.Proofs.YtanadaamipfmkaaDoor.X
set_option linter.unusedVariables false
set_option linter.unusedSimpArgs false
attribute [local go_sem ↓] Go.wp_at_zero Go.wp_at_succ
abbrev Wp (b : Nat) : Value := .pointer (some ⟨b, 0, none⟩)
theorem infoU8 : (Tryd.prog.info? 5).map (fun i => (i.zero, i.size, i.bytes)) = some (some (.int .u8 0), 1, 1) := by kernel_rfl
theorem infoV_parts {t : TypeId} {z : Value} {n b : Nat} (h : (Tryd.prog.info? t).map (fun i => (i.zero, i.size, i.bytes)) = some (some z, n, b)) : ∃ i, Tryd.prog.info? t = some i ∧ i.zero = some z ∧ i.size = n ∧ i.bytes = b := by
  cases hi : Tryd.prog.info? t with
  | none => rw [hi] at h; cases h
  | some i =>
    rw [hi] at h
    simp only [Option.map_some, Option.some.injEq, Prod.mk.injEq] at h
    exact ⟨i, rfl, h.1, h.2.1, h.2.2⟩
/-- A writer at block m that has written the bytes bs. -/
structure VS (w : World) (N m : Nat) (T : Option Addr) (c : Nat) (bs : List Int) : Prop where
  blk : Rec w m [.slice T bs.length c] 72
  row : w.ownsRow N 5 1 (.slice T bs.length c) bs.length (bs.map (Value.int .u8))
  ge : N ≤ m
/-- What a step of a writer leaves: only its own block and its row are turned. -/
structure VT (N m : Nat) (T : Option Addr) (n c : Nat) (w : World) (T' : Option Addr) (c' : Nat) (bs' : List Int) (w' : World) : Prop where
  state : VS w' N m T' c' bs'
  below : Below N w w'
  keep : ∀ k, k < w.heap.size → k ≠ m → (Value.slice T n c).ownBlock ≠ some k → w'.heap[k]? = w.heap[k]?
  next : ∀ k n', (Value.slice T' n' c').ownBlock = some k → (Value.slice T n c).ownBlock = some k ∨ w.heap.size ≤ k
section
variable {N m n n' c c' c2 : Nat} {w w1 w2 : World} {T T' T2 : Option Addr} {bs bs' bs2 : List Int}
theorem ob (T : Option Addr) (n n' c c' : Nat) : (Value.slice T n c).ownBlock = (Value.slice T n' c').ownBlock := by cases T <;> rfl
theorem VT.refl (h : VS w N m T c bs) : VT N m T bs.length c w T c bs w := ⟨h, Below.refl _ _, fun _ _ _ _ => rfl, fun k n' hk => .inl (by rw [ob T bs.length n' c c]; exact hk)⟩
theorem VT.trans (h : VT N m T n c w T' c' bs' w1) (k : VT N m T' n' c' w1 T2 c2 bs2 w2) : VT N m T n c w T2 c2 bs2 w2 := by
  refine ⟨k.state, h.below.trans k.below, fun i hi a b => (k.keep i (Nat.lt_of_lt_of_le hi h.below.size) a fun e => ?_).trans (h.keep i hi a b), fun i m' hi => ?_⟩
  · rcases h.next i n' e with e1 | e1
    · exact b e1
    · omega
  · rcases k.next i m' hi with e1 | e1
    · exact h.next i n' e1
    · exact .inr (Nat.le_trans h.below.size e1)
theorem VS.stays (h : VS w N m T c bs) (hb : Below w.heap.size w w1) : VS w1 N m T c bs := ⟨h.blk.stays hb, own_move h.row (fun k hk => hb.block k (World.ownsRow.lt h.row k hk).2), h.ge⟩
theorem VT.stays (h : VT N m T n c w T' c' bs' w1) (hb : Below w1.heap.size w1 w2) (hN : N ≤ w1.heap.size) : VT N m T n c w T' c' bs' w2 :=
  ⟨h.state.stays hb, h.below.trans (hb.mono hN), fun i hi a b => (hb.block i (Nat.lt_of_lt_of_le hi h.below.size)).trans (h.keep i hi a b), h.next⟩
end
theorem slice_of {w : World} {N n : Nat} {e : TypeId} {v : Value} {xs : List Value} (h : w.ownsRow N e 1 v n xs) : ∃ T c, v = .slice T n c := by
  rcases h.2 with ⟨e, h0⟩ | ⟨g, cap, cur, e, _⟩
  · exact ⟨none, 0, by rw [e, h0]⟩
  · exact ⟨_, _, e⟩
theorem wpList_append_any {P : Program} (w : World) {ops : Array Oper} {rest : List Oper} {o : Oper} {a : Act} {Q : Exit → Act → World → Prop} (hgd : o.guard = none) (s x : Operand) (t : TypeId)
    (ho : o.op = .call { callee := .builtin .append, args := #[s, x], argTypes := #[t, t] })
    (base : Nat) (e : TypeId) (i : TypeInfo) (z : Value) (size bytes : Nat) (ht : P.underlying t = some (.slice e)) (hi : P.info? e = some i) (hz : i.zero = some z)
    (hsize : i.size = size) (hby : i.bytes = bytes) (hzs : z.cells.size = size) (hsz : 0 < size)
    (v : Value) (n : Nat) (xs : List Value) (hs : a.eval s = v) (hown : w.ownsRow base e size v n xs)
    (ad : Addr) (m c : Nat) (news : List Value) (hx : a.eval x = .slice (some ad) m c) (hl : news.length = m * size) (hnews : ∀ j u, news[j]? = some u → w.cell? (ad.add j) = some u) (h1 : ∀ u ∈ news, u.oneCell' = true)
    (h63 : n + m ≤ maxLen) (hbytes : (n + m) * bytes ≤ 140737488355328) (hbase : base ≤ w.heap.size)
    (h : ∀ v' w', w'.ownsRow base e size v' (n + m) (xs ++ news) → w.grownBy w' v.ownBlock → (v'.ownBlock = v.ownBlock ∨ v'.ownBlock = some w.heap.size) → wpList P ops Q rest (a.put o.dst v') w') : wpList P ops Q (o :: rest) a w := by
  refine wpList_plain hgd fun K hK' => ?_
  obtain ⟨v', w', hrun, h2, h3, _, h5⟩ := run_append_own_at (P := P) w base t o.type e i z size bytes ht hi hz hsize hby hzs hsz v n xs hown ad m c news hl hnews h1 h63 hbytes hbase
  unfold Oper.wp
  simp [execOp, ho, resolve, invoke, builtin, hs, hx, hrun, Result.andThen]
  exact hK' _ _ (h v' w' h2 h3 h5)
set_option maxRecDepth 100000 in
set_option maxHeartbeats 4000000 in
theorem WriteRaw_calls {N m c cd : Nat} {T : Option Addr} {w : World} {bs nw : List Int} {ad : Addr} (h : VS w N m T c bs) (hb : bs.length + nw.length ≤ 1000000) (hc : ∀ j u, (nw.map (Value.int .u8))[j]? = some u → w.cell? (ad.add j) = some u) :
    Calls Tryd.prog 88 #[Wp m, .slice (some ad) nw.length cd] w fun e w' => e = .returned (.tuple #[]) ∧ ∃ T' c', VT N m T bs.length c w T' c' (bs ++ nw) w' := by
  obtain ⟨i0, hi, hz0, hz1, hz2⟩ := infoV_parts infoU8
  have HI := Lib.hid (And.intro hi (And.intro hz0 (And.intro hz1 hz2)))
  have q0 := h.blk.cell 0 rfl
  have z0 := h.blk.free 0
  have HV := Lib.hid h
  have HC := Lib.hid hc
  have hlt := h.blk.lt
  have hge := h.ge
  clear h hc hi hz0 hz1 hz2
  go_enter Tryd.func88, Tryd.ntmps88
  go_wp2_with (at_builtin; (refine wpList_append_any _ rfl (.tmp 8) (.tmp 9) _ rfl N 5 i0 (.int .u8 0) 1 1 Tryd.underlying47 HI.out.1 HI.out.2.1 HI.out.2.2.1 HI.out.2.2.2 rfl (by omega) (.slice T bs.length c) bs.length (bs.map (Value.int .u8)) rfl HV.out.row ad nw.length cd (nw.map (Value.int .u8)) rfl (by simp) HC.out (by intro u hu; obtain ⟨x, _, rfl⟩ := List.mem_map.1 hu; rfl) (by unfold maxLen; omega) (by omega) (by omega) ?_; intro v4 w4 ho4 hg4 hat4; obtain ⟨T4, c4, rfl⟩ := slice_of ho4; have HX := Lib.hid (And.intro ho4 (And.intro hg4 hat4)); have m0 : Rec w4 m [.slice T bs.length c] 72 := (hg4.block m hlt (by intro e; obtain ⟨cs, ek⟩ := own_typed HV.out.row m e.symm; have e2 := ek.symm.trans (show w.heap[m]? = _ from HV.out.blk); injection e2 with e2; injection e2 with _ e2; exact absurd e2 (by decide))).trans HV.out.blk; have k0 := m0.cell 0 rfl; have f0 := m0.free 0; have HM := Lib.hid m0; clear ho4 hg4 hat4 m0))
  go_end0
  obtain ⟨ho, hg, hat⟩ := HX.out
  have hlen : (bs ++ nw).length = bs.length + nw.length := by simp
  have hgm : ∀ k, (Value.slice T4 (bs.length + nw.length) c4).ownBlock = some k → k ≠ m := by
    rintro k hk rfl
    obtain ⟨cs, ek⟩ := own_typed ho k hk
    have e2 := ek.symm.trans (show w4.heap[k]? = _ from HM.out)
    injection e2 with e2; injection e2 with _ e2
    exact absurd e2 (by decide)
  refine ⟨rfl, T4, c4, ⟨?_, ?_, hge⟩, ?_, ?_, ?_⟩
  · rw [hlen]; exact HM.out.set 0 _
  · rw [hlen, List.map_append]
    exact own_move ho (fun k hk => Below.heap_setCell w4 _ _ k (hgm k hk))
  · exact Below.setCell ⟨hg.os, hg.tape, hg.output, hg.size, fun k hk => hg.block k (by omega) (by intro e; have := (World.ownsRow.lt HV.out.row k e.symm).1; omega)⟩ hge _
  · intro k hk h1 h2
    exact (Below.heap_setCell w4 _ _ k (by show k ≠ m; exact h1)).trans (hg.block k hk (fun e => h2 e.symm))
  · intro k n' hk
    rw [ob T4 n' (bs.length + nw.length) c4 c4] at hk
    rcases hat with h1 | h1
    · exact .inl (h1 ▸ hk)
    · rw [h1] at hk; injection hk with hk; exact .inr (by omega)
theorem row_new (w : World) (l : List Value) (t : TypeId) : ∀ j u, l[j]? = some u → (w.alloc (.cells l.toArray t)).cell? ((⟨w.heap.size, 0, none⟩ : Addr).add j) = some u := by
  intro j u hu
  have h1 := (Rec.new w l t).cell j hu
  have e : (⟨w.heap.size, 0, none⟩ : Addr).add j = ⟨w.heap.size, j, none⟩ := by
    cases j with
    | zero => rfl
    | succ j => simp [Addr.add]
  rw [e]
  exact h1
theorem row_last {w : World} {b : Nat} {v : Value} {t : TypeId} (h : Rec w b [v] t) : ∀ j u, [v][j]? = some u → w.cell? ((⟨b, 0, none⟩ : Addr).add j) = some u := by
  intro j u hu
  have h1 := h.cell j hu
  have e : (⟨b, 0, none⟩ : Addr).add j = ⟨b, j, none⟩ := by
    cases j with
    | zero => rfl
    | succ j => simp [Addr.add]
  rw [e]
  exact h1
theorem Bytes_calls {N m c : Nat} {T : Option Addr} {w : World} {bs : List Int} (h : VS w N m T c bs) : Calls Tryd.prog 44 #[Wp m] w fun e w' => e = .returned (.slice T bs.length c) ∧ w' = w := by
  have q0 := h.blk.cell 0 rfl
  clear h
  go_enter Tryd.func44, Tryd.ntmps44
  go_wp2
  go_ret
  exact ⟨rfl, rfl⟩
end Go.Proofs.YtanadaamipfmkaaDoor.H
