/- The reference's editor takes runes out and keeps them (spec.Editor.take with keep): what it makes of the editor in memory; for lines of at most 1000 signs. -/
import Derived.Test.YtdinikcfhpfojaaDoorQHEditor
import Derived.Laws.OwnMore
import Derived.Deep.AppendLies
import Derived.Maps.AppendAt
import Derived.IntWalk
import Derived.Deep.RegionLaw
import Derived.BigRegion
namespace Go.Proofs.YtdinikcfhpfojaaDoor.H
open Go.RowKit Go.Proofs.YtdinikcfhpfojaaDoorW.PrintWords Go.Proofs.YtdinikcfhpfojaaDoorW.PrintLast Go.Proofs.YtdinikcfhpfojaaDoor.R
set_option linter.unusedVariables false
set_option linter.unusedSimpArgs false
attribute [local go_sem ↓] Go.wp_at_zero Go.wp_at_succ
theorem slice_ofT {w : World} {N n : Nat} {e : TypeId} {v : Value} {xs : List Value} (h : w.ownsRow N e 1 v n xs) : ∃ T c, v = .slice T n c := by
  rcases h.2 with ⟨e, h0⟩ | ⟨g, cap, cur, e, _⟩
  · exact ⟨none, 0, by rw [e, h0]⟩
  · exact ⟨_, _, e⟩
theorem wpList_append_anyT {P : Program} (w : World) {ops : Array Oper} {rest : List Oper} {o : Oper} {a : Act} {Q : Exit → Act → World → Prop} (hgd : o.guard = none) (s x : Operand) (t : TypeId)
    (ho : o.op = .call { callee := .builtin .append, args := #[s, x], argTypes := #[t, t] })
    (base : Nat) (e : TypeId) (i : TypeInfo) (z : Value) (size bytes : Nat) (ht : P.underlying t = some (.slice e)) (hi : P.info? e = some i) (hz : i.zero = some z)
    (hsize : i.size = size) (hby : i.bytes = bytes) (hzs : z.cells.size = size) (hsz : 0 < size)
    (v : Value) (n : Nat) (xs : List Value) (hs : a.eval s = v) (hown : w.ownsRow base e size v n xs)
    (ad : Addr) (m c : Nat) (news : List Value) (hx : a.eval x = .slice (some ad) m c) (hl : news.length = m * size) (hnews : ∀ j u, news[j]? = some u → w.cell? (ad.add j) = some u) (h1 : ∀ u ∈ news, u.oneCell' = true)
    (h63 : n + m ≤ maxLen) (hbytes : (n + m) * bytes ≤ 140737488355328) (hbase : base ≤ w.heap.size)
    (h : ∀ v' w', w'.ownsRow base e size v' (n + m) (xs ++ news) → w.grownBy w' v.ownBlock → (v'.ownBlock = v.ownBlock ∨ v'.ownBlock = some w.heap.size) → wpList P ops Q rest (a.put o.dst v') w') : wpList P ops Q (o :: rest) a w := by
  refine wpList_plain hgd fun K hK' => ?_
  obtain ⟨v', w', hrun, h2, h3, _, h5⟩ := run_append_own_at (P := P) w base t o.type e i z size bytes ht hi hz hsize hby hzs hsz v n xs hown ad m c news hl hnews h1 h63 hbytes hbase
  unfold Oper.wp
  simp [execOp, ho, resolve, invoke, builtin, hs, hx, hrun, Result.andThen]
  exact hK' _ _ (h v' w' h2 h3 h5)
theorem infoT : (Tryd.prog.info? 21).map (fun i => (i.zero, i.size, i.bytes)) = some (some (.int .i32 0), 1, 4) := by kernel_rfl
theorem infoT_parts {t : TypeId} {z : Value} {n b : Nat} (h : (Tryd.prog.info? t).map (fun i => (i.zero, i.size, i.bytes)) = some (some z, n, b)) : ∃ i, Tryd.prog.info? t = some i ∧ i.zero = some z ∧ i.size = n ∧ i.bytes = b := by
  cases hi : Tryd.prog.info? t with
  | none => rw [hi] at h; cases h
  | some i =>
    rw [hi] at h
    simp only [Option.map_some, Option.some.injEq, Prod.mk.injEq] at h
    exact ⟨i, rfl, h.1, h.2.1, h.2.2⟩
theorem step_append_row {P : Program} {w : World} {ops : Array Oper} {o : Oper} {a : Act} {K : Act → World → Prop} {Q : Exit → Act → World → Prop} {E : Prop} (d : Nat) (hd : o.dst = some d) (hgd : o.guard = none) (s x : Operand) (t : TypeId)
    (ho : o.op = .call { callee := .builtin .append, args := #[s, x], argTypes := #[t, t] })
    (base : Nat) (e : TypeId) (i : TypeInfo) (z : Value) (size bytes : Nat) (ht : P.underlying t = some (.slice e)) (hi : P.info? e = some i) (hz : i.zero = some z)
    (hsize : i.size = size) (hby : i.bytes = bytes) (hzs : z.cells.size = size) (hsz : 0 < size)
    (v : Value) (n : Nat) (xs : List Value) (hs : a.eval s = v) (hown : w.ownsRow base e size v n xs)
    (ad : Addr) (m c : Nat) (news : List Value) (hx : a.eval x = .slice (some ad) m c) (hl : news.length = m * size) (hnews : ∀ j u, news[j]? = some u → w.cell? (ad.add j) = some u) (h1 : ∀ u ∈ news, u.oneCell' = true)
    (h63 : n + m ≤ maxLen) (hbytes : (n + m) * bytes ≤ 140737488355328) (hbase : base ≤ w.heap.size)
    (h : ∀ v' w', w'.ownsRow base e size v' (n + m) (xs ++ news) → w.grownBy w' v.ownBlock → (v'.ownBlock = v.ownBlock ∨ v'.ownBlock = some w.heap.size) → K (a.put (some d) v') w') :
    if Region.wanted o (yielded ops a.tmps) = true then Oper.wp P o a w K Q else E := by
  have hw : Region.wanted o (yielded ops a.tmps) = true := by simp [Region.wanted, hgd]
  rw [if_pos hw]
  obtain ⟨v', w', hrun, h2, h3, _, h5⟩ := run_append_own_at (P := P) w base t o.type e i z size bytes ht hi hz hsize hby hzs hsz v n xs hown ad m c news hl hnews h1 h63 hbytes hbase
  unfold Oper.wp
  simp [execOp, ho, resolve, invoke, builtin, hs, hx, hrun, Result.andThen]
  unfold Oper.upon
  rw [hd]
  exact h v' w' h2 h3 h5
/-- 'xs[m:]' of a row that has an address. -/
theorem cut_some (A : Addr) (n c m : Nat) (hm : m ≤ n) : ∃ ad : Addr, (∀ W : World, (Instr.slice 66 (.slice (some A) n c) (some (.int .i64 (m : Int))) none none).run Tryd.prog W = .ok (.slice (some ad) (n - m) (c - m)) W) ∧
      ∀ (w : World) (xs : List Int), n ≤ c → ReadsOf (Value.int .i32) (0 : Int) w (some A) n xs → ReadsOf (Value.int .i32) (0 : Int) w (some ad) (n - m) (xs.drop m) := by
  obtain ⟨i0, hi, hz0, hz1, hz2⟩ := infoT_parts infoT
  refine ⟨if c = m then A else A.add m, fun W => ?_, fun w xs hc h => ?_⟩
  · have hel : Tryd.prog.elem 66 = 21 := by simp [Program.elem, Tryd.underlying66]
    have hu : Tryd.prog.underlying 66 = some (.slice (Tryd.prog.elem 66)) := by rw [hel]; exact Tryd.underlying66
    rw [run_slice_l W 66 (some A) n c hu .i64 (m : Int) (Int.natCast_nonneg _) (by omega), hel]
    by_cases e : c = m
    · simp [sizeOf, typeInfo, hi, hz1, sliced, Result.andThen, e]
    · simp [sizeOf, typeInfo, hi, hz1, sliced, Result.andThen, e]
  · have := h.drop_ m hm hc
    by_cases e : c = m
    · rw [if_pos e] at this ⊢; exact this
    · rw [if_neg e] at this ⊢; exact this
theorem sub_reads {w : World} {A : Addr} {xs : List Int} {n : Nat} (h : ReadsOf (Value.int .i32) (0 : Int) w (some A) n xs) (p m : Nat) (hpm : p + m ≤ n) : ReadsOf (Value.int .i32) (0 : Int) w (some (A.add p)) m ((xs.drop p).take m) := by
  have h1 := h.drop_ (c := n + p + 1) p (by omega) (by omega)
  rw [if_neg (by omega)] at h1
  exact h1.take_ m (by omega)
/-- What is kept but block g. -/
def KP (w w' : World) (g : Nat) : Prop := (∀ k, k < w.heap.size → k ≠ g → w'.heap[k]? = w.heap[k]?) ∧ w.heap.size ≤ w'.heap.size ∧ w'.os = w.os ∧ w'.tape = w.tape ∧ w'.output = w.output
theorem KP.trans {w w1 w2 : World} {g : Nat} (h : KP w w1 g) (k : KP w1 w2 g) : KP w w2 g := ⟨fun i hi hg => (k.1 i (Nat.lt_of_lt_of_le hi h.2.1) hg).trans (h.1 i hi hg), Nat.le_trans h.2.1 k.2.1, k.2.2.1.trans h.2.2.1, k.2.2.2.1.trans h.2.2.2.1, k.2.2.2.2.trans h.2.2.2.2⟩
theorem KP.alloc (w : World) (g : Nat) (o : Obj) : KP w (w.alloc o) g := ⟨fun k hk _ => Below.heap_alloc w o k hk, by simp, rfl, rfl, rfl⟩
theorem KP.drew (w : World) (g : Nat) : KP w w.drew g := ⟨fun k hk _ => rfl, Nat.le_refl _, rfl, rfl, rfl⟩
theorem KP.set (w : World) (g i : Nat) (u : Value) : KP w (w.setCell ⟨g, i, none⟩ u) g := ⟨fun k hk hg => Below.heap_setCell w ⟨g, i, none⟩ u k hg, by simp, rfl, rfl, rfl⟩
/-- Behind an append onto a row that is new. -/
theorem KP.grown {w w1 w2 : World} {g : Nat} {row : Option Nat} (h : KP w w1 g) (hg : w1.grownBy w2 row) (hr : ∀ k, row = some k → w.heap.size ≤ k) : KP w w2 g := ⟨fun k hk hkg => (hg.block k (Nat.lt_of_lt_of_le hk h.2.1) (fun e => by have := hr k e.symm; omega)).trans (h.1 k hk hkg), Nat.le_trans h.2.1 hg.size, hg.os.trans h.2.2.1, hg.tape.trans h.2.2.2.1, hg.output.trans h.2.2.2.2⟩
theorem add_block_ (A : Addr) (j : Nat) : (A.add j).block = A.block := by unfold Addr.add; split <;> rfl
theorem reads_kept {w w1 : World} {A : Addr} {xs : List Int} {n : Nat} (h : ReadsOf (Value.int .i32) (0 : Int) w (some A) n xs) (e : w1.heap[A.block]? = w.heap[A.block]?) : ReadsOf (Value.int .i32) (0 : Int) w1 (some A) n xs := ⟨h.1, h.2.1, fun hn => by
  obtain ⟨ad, ea, hc⟩ := h.2.2 hn
  obtain rfl := Option.some.inj ea
  refine ⟨A, rfl, fun j hj => ?_⟩
  rw [← hc j hj]
  unfold World.cell?
  rw [add_block_, e]⟩
/-- The editor at block g. -/
def Ed (w : World) (g : Nat) (A : Addr) (c : Nat) (l : List Int) (at_ : Int) (kv : Value) (bad op : Bool) : Prop := Rec w g [.slice (some A) l.length c, .int .i64 at_, kv, .bool bad, .bool op] 91 ∧ ReadsOf (Value.int .i32) (0 : Int) w (some A) l.length l ∧ l.length ≤ c
theorem reads_cells {w : World} {A : Addr} {xs : List Int} {n : Nat} (h : ReadsOf (Value.int .i32) (0 : Int) w (some A) n xs) : ∀ j u, (xs.map (Value.int .i32))[j]? = some u → w.cell? (A.add j) = some u := by
  intro j u hu
  rw [List.getElem?_map] at hu
  obtain ⟨x, hx, rfl⟩ := Option.map_eq_some_iff.1 hu
  obtain ⟨hj, rfl⟩ := List.getElem?_eq_some_iff.1 hx
  obtain ⟨ad, e, hc⟩ := h.2.2 (by have := h.1; omega)
  obtain rfl := Option.some.inj e
  have := hc j (by have := h.1; omega)
  rwa [List.getD_eq_getElem?_getD, List.getElem?_eq_getElem hj] at this
theorem take_end {w w8 : World} {g B : Nat} {l : List Int} {p q : Nat} {T8 : Option Addr} {c8 : Nat} {x y kv : Value} {bad op : Bool} (hp : 0 < p) (hpl : p ≤ l.length) (hq : q ≤ l.length) (ho : w8.ownsRow B 21 1 (.slice T8 (p + (l.length - q)) c8) (p + (l.length - q)) ((l.take p).map (Value.int .i32) ++ (l.drop q).map (Value.int .i32))) (hr : Rec w8 g [x, y, kv, .bool bad, .bool op] 91) (hk : KP w w8 g) :
    ∃ A' c' kv', Ed ((w8.setCell ⟨g, 0, none⟩ (.slice T8 (p + (l.length - q)) c8)).setCell ⟨g, 1, none⟩ (.int .i64 p)) g A' c' (l.take p ++ l.drop q) p kv' bad op ∧ KP w ((w8.setCell ⟨g, 0, none⟩ (.slice T8 (p + (l.length - q)) c8)).setCell ⟨g, 1, none⟩ (.int .i64 p)) g := by
  rw [← List.map_append] at ho
  have hlen : (l.take p ++ l.drop q).length = p + (l.length - q) := by rw [List.length_append, List.length_take, List.length_drop]; omega
  obtain ⟨A, c, e, hc, hrd⟩ := own_reads_of_le (enc := Value.int .i32) (d := (0 : Int)) (xs := l.take p ++ l.drop q) ho
  injection e with e1 e2 e3
  subst e1 e3
  obtain ⟨ad, rfl, _⟩ := hrd.2.2 (by omega)
  have hne : ad.block ≠ g := by
    obtain ⟨cs, ek⟩ := own_typed ho ad.block (by rcases ho.2 with ⟨e, _⟩ | ⟨gg, cap, cur, e, _⟩ <;> simp at e; obtain ⟨rfl, _⟩ := e; simp [Value.ownBlock])
    intro hh
    rw [hh, show w8.heap[g]? = _ from hr] at ek
    injection ek with ek; injection ek with _ ek
    exact absurd ek (by decide)
  refine ⟨ad, c8, kv, ⟨?_, ?_, by omega⟩, (hk.trans (KP.set _ _ _ _)).trans (KP.set _ _ _ _)⟩
  · rw [hlen]
    have := (hr.set 0 (.slice (some ad) (p + (l.length - q)) c8)).set 1 (.int .i64 p)
    exact this
  · rw [hlen]
    exact reads_kept (reads_kept hrd (Below.heap_setCell w8 _ _ _ hne)) (Below.heap_setCell _ _ _ _ hne)
set_option maxRecDepth 100000 in
set_option maxHeartbeats 16000000 in
theorem take_calls (w : World) (g : Nat) (A : Addr) (c : Nat) (l : List Int) (at_ : Int) (kv : Value) (bad op : Bool) (p q : Nat) (h : Ed w g A c l at_ kv bad op) (hA : A.block ≠ g ∧ A.block < w.heap.size) (hp : 0 < p) (hpq : p < q) (hq : q ≤ l.length) (hl : l.length ≤ 1000) :
    Calls Tryd.prog 54 #[.pointer (some ⟨g, 0, none⟩), .int .i64 p, .int .i64 q, .bool true] w fun e w' => e = .returned (.tuple #[]) ∧ ∃ A' c' kv', Ed w' g A' c' (l.take p ++ l.drop q) p kv' bad op ∧ KP w w' g := by
  obtain ⟨i0, hi, hz0, hz1, hz2⟩ := infoT_parts infoT
  have HI := Lib.hid (And.intro hi (And.intro hz0 (And.intro hz1 hz2)))
  obtain ⟨hR, hr, hc⟩ := h
  have k0 := hR.cell 0 rfl
  have f2 := hR.free 2
  have HH := Lib.hid (And.intro hR (And.intro hr hc))
  have hg := hR.lt
  have hqc : q ≤ c := by omega
  have hcp : ¬ c = p := by omega
  have own0 := World.ownsRow_made (base := w.heap.size) (e := 21) (size := 1) w #[] 0 (Nat.le_refl _) (by unfold maxLen; omega) (by simp)
  have src0 := reads_cells ((sub_reads hr p (q - p) (by omega)).below ((Below.refl w.heap.size w).alloc (Nat.le_refl _) (.cells #[] 21)))
  have HO := Lib.hid (And.intro own0 src0)
  clear own0 src0
  clear hR hr hc hi hz0 hz1 hz2
  go_enter Tryd.func54, Tryd.ntmps54
  go_wp2_with (at_builtin; go_loud (refine wpList_append_anyT _ rfl (.tmp 10) (.tmp 17) _ rfl w.heap.size 21 i0 (.int .i32 0) 1 4 Tryd.underlying66 HI.out.1 HI.out.2.1 HI.out.2.2.1 HI.out.2.2.2 rfl (by omega) (.slice (some ⟨w.heap.size, 0, none⟩) 0 0) 0 [] rfl HO.out.1 (A.add p) (q - p) (c - p) (((l.drop p).take (q - p)).map (Value.int .i32)) (by simp [go_sem]) (by simp; omega) HO.out.2 (by intro u hu; obtain ⟨x, _, rfl⟩ := List.mem_map.1 hu; rfl) (by unfold maxLen; omega) (by omega) (by simp) ?_; intro v4 w4 ho4 hg4 hat4; obtain ⟨T4, c4, rfl⟩ := slice_ofT ho4; have m0 : Rec w4 g [.slice (some A) l.length c, .int .i64 at_, kv, .bool bad, .bool op] 91 := (hg4.block g (by simp; omega) (by simp [Value.ownBlock]; omega)).trans (HH.out.1.alloc (.cells #[] 21)); have kk0 := m0.cell 0 rfl; have ff2 := m0.free 2; have kk2 := m0.cell 2 rfl; have HX := Lib.hid (And.intro hg4 m0); clear ho4 hg4 hat4 m0))
  have r5 := HX.out.2.set 2 (.slice T4 (q - p) c4)
  have kp5 : KP w (w4.setCell ⟨g, 2, none⟩ (.slice T4 (q - p) c4)) g := ((KP.alloc w g (.cells #[] 21)).grown HX.out.1 (fun k hk => by simp [Value.ownBlock] at hk; omega)).trans (KP.set _ _ _ _)
  generalize w4.setCell ⟨g, 2, none⟩ (.slice T4 (q - p) c4) = W5 at *
  have rd5 := reads_kept (w1 := W5) HH.out.2.1 (kp5.1 _ hA.2 hA.1)
  obtain ⟨ad, hcut, hcr⟩ := cut_some A l.length c q hq
  have k5 := r5.cell 0 rfl
  have H5 := Lib.hid (And.intro r5 (And.intro kp5 (And.intro rd5 hcr)))
  have hpc : p ≤ c := by omega
  have hpl : p ≤ l.length := by omega
  clear kk0 ff2 kk2 r5 rd5 hcr hcp hqc
  have own6 : (W5.alloc (.cells #[] 21)).drew.ownsRow w.heap.size 21 1 (.slice (some ⟨W5.heap.size, 0, none⟩) 0 0) 0 [] := World.ownsRow_made (base := w.heap.size) (e := 21) (size := 1) W5 #[] 0 kp5.2.1 (by unfold maxLen; omega) (by simp)
  have r6 := ((H5.out.1).alloc (.cells #[] 21)).drew
  have kp6 := (kp5.trans (KP.alloc W5 g (.cells #[] 21))).trans (KP.drew _ g)
  have rd6 := reads_kept (w1 := (W5.alloc (.cells #[] 21)).drew) H5.out.2.2.1 (Below.heap_alloc W5 _ _ (Nat.lt_of_lt_of_le hA.2 kp5.2.1))
  have hs6 : w.heap.size ≤ W5.heap.size := kp5.2.1
  have H6 := Lib.hid (And.intro own6 (And.intro r6 (And.intro kp6 (reads_cells (rd6.take_ p hpl)))))
  have k6 := r6.cell 0 rfl
  clear own6 r6 kp6 rd6 kp5
  go_region_law (first
    | (refine step_append_row 29 rfl rfl (.tmp 22) (.tmp 28) _ rfl w.heap.size 21 i0 (.int .i32 0) 1 4 Tryd.underlying66 HI.out.1 HI.out.2.1 HI.out.2.2.1 HI.out.2.2.2 rfl (by omega) (.slice (some ⟨W5.heap.size, 0, none⟩) 0 0) 0 [] rfl H6.out.1 A p c ((l.take p).map (Value.int .i32)) rfl (by simp; omega) H6.out.2.2.2 (by intro u hu; obtain ⟨x, _, rfl⟩ := List.mem_map.1 hu; rfl) (by unfold maxLen; omega) (by omega) H6.out.2.2.1.2.1 ?_; intro v7 w7 ho7 hg7 hat7; obtain ⟨T7, c7, rfl⟩ := slice_ofT ho7; rw [Nat.zero_add, List.nil_append] at ho7; have r7 := (hg7.block g H6.out.2.1.lt (by simp [Value.ownBlock]; have := H5.out.1.lt; omega)).trans H6.out.2.1; have kp7 := H6.out.2.2.1.grown hg7 (fun k hk => by simp [Value.ownBlock] at hk; omega); have rd7 := reads_kept (w1 := w7) HH.out.2.1 (kp7.1 _ hA.2 hA.1); have k7 := Rec.cell r7 0 rfl; have H7 := Lib.hid (And.intro ho7 (And.intro r7 (And.intro kp7 (reads_cells (H5.out.2.2.2 w7 l HH.out.2.2 rd7))))); clear ho7 hg7 hat7 r7 kp7 rd7)
    | (refine step_append_row 36 rfl rfl (.tmp 29) (.tmp 35) _ rfl w.heap.size 21 i0 (.int .i32 0) 1 4 Tryd.underlying66 HI.out.1 HI.out.2.1 HI.out.2.2.1 HI.out.2.2.2 rfl (by omega) (.slice T7 p c7) p ((l.take p).map (Value.int .i32)) rfl H7.out.1 ad (l.length - q) (c - q) ((l.drop q).map (Value.int .i32)) rfl (by simp) H7.out.2.2.2 (by intro u hu; obtain ⟨x, _, rfl⟩ := List.mem_map.1 hu; rfl) (by unfold maxLen; omega) (by omega) H7.out.2.2.1.2.1 ?_; intro v8 w8 ho8 hg8 hat8; obtain ⟨T8, c8, rfl⟩ := slice_ofT ho8; have hne8 : ∀ k, (Value.slice T7 p c7).ownBlock = some k → w.heap.size ≤ k := fun k hk => (World.ownsRow.lt H7.out.1 k hk).1; have r8 := (hg8.block g (Rec.lt H7.out.2.1) (by intro e; have := hne8 g e.symm; omega)).trans H7.out.2.1; have kp8 := H7.out.2.2.1.grown hg8 hne8; have q0 := Rec.cell r8 0 rfl; have q1 := Rec.free r8 0; have H8 := Lib.hid (And.intro ho8 (And.intro r8 kp8)); clear ho8 hg8 hat8 r8 kp8 hne8))
  all_goals
    have r9 := Rec.set H8.out.2.1 0 (.slice T8 (p + (l.length - q)) c8)
    have u1 := Rec.cell r9 1 rfl
    have u2 := Rec.free r9 1
    have HE := Lib.hid (take_end hp hpl hq H8.out.1 H8.out.2.1 H8.out.2.2)
    clear r9 q0 q1 k5 k6 k7
    go_wp2
    go_end0
    exact ⟨rfl, HE.out⟩
end Go.Proofs.YtdinikcfhpfojaaDoor.H
