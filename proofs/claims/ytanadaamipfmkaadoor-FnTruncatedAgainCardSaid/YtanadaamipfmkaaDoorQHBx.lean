/- One byte written to a bytes.Buffer that lies within a struct (Write), or none; and its bytes (Bytes); no condition but a bound. -/
import Derived.Test.YtanadaamipfmkaaDoorQHBw
namespace Go.Proofs.YtanadaamipfmkaaDoor.H
open Go.RowKit Go.Proofs.YtanadaamipfmkaaDoorW.PrintWords Go.Proofs.YtanadaamipfmkaaDoorW.PrintLast Go.Proofs.YtanadaamipfmkaaDoor.R
set_option linter.unusedVariables false
set_option linter.unusedSimpArgs false
attribute [local go_sem ↓] Go.wp_at_zero Go.wp_at_succ
theorem bw_end {T : TypeId} {R : Nat → Option Value} {B b q g cap : Nat} {lr : Int} {l : List UInt8} {x : UInt8} {cur : Array Value} {W : World} (hbk : LibA.Three W b q T R (.slice (some ⟨g, 0, none⟩) (l.length + 1) cap) (.int .i64 0) (.int .i8 lr))
    (hg : W.heap[g]? = some (.cells cur 5 (0, 0))) (hcs : cur.size = cap) (hn : l.length + 1 ≤ cap) (hcm : cap ≤ maxLen) (htk : cur.toList.take l.length = Lib.byteCells l) (hgb : g ≠ b) (hB : B ≤ b) (hBg : B ≤ g) :
    BW T R B b q (.slice (some ⟨g, 0, none⟩) (l.length + 1) cap) (l ++ [x]) (W.setRow g (cur.toList.take l.length ++ ([Value.int .u8 x.toNat] ++ cur.toList.drop (l.length + [Value.int .u8 x.toNat].length))).toArray) := by
  have hcl : cur.toList.length = cap := by rw [Array.length_toList]; exact hcs
  refine ⟨hB, ⟨lr, hbk.of_heap (setRow_other W g b _ (Ne.symm hgb))⟩, ?_, by simp [Value.ownBlock]; exact hgb, fun h => by simp at h⟩
  refine ⟨by simp [Lib.byteCells], .inr ⟨g, cap, _, by simp, hBg, setRow_heap W g cur _ 5 _ hg, by simp; exact hn, hcm, ?_, ?_⟩⟩
  · simp
    omega
  · rw [htk]
    simp only [Nat.mul_one, List.length_append, List.length_singleton]
    rw [← List.append_assoc, List.take_append_of_le_length (by simp [Lib.byteCells]), List.take_of_length_le (by simp [Lib.byteCells])]
    simp [Lib.byteCells]
theorem kept_row {b g : Nat} {v v' : Value} {w W : World} {arr : Array Value} (hk : ∀ k, k < w.heap.size → k ≠ b → v.ownBlock ≠ some k → W.heap[k]? = w.heap[k]?) (hg : v.ownBlock = some g ∨ w.heap.size ≤ g) (hv : v'.ownBlock = some g) : Kept b v v' w (W.setRow g arr) := by
  refine ⟨fun k hk1 hk2 hk3 => ?_, fun g' h => ?_⟩
  · refine (setRow_other W g k arr ?_).trans (hk k hk1 hk2 hk3)
    rintro rfl
    rcases hg with h | h
    · exact hk3 h
    · omega
  · rw [hv] at h
    injection h with h
    subst h
    exact hg
set_option maxHeartbeats 12800000 in
set_option maxRecDepth 100000 in
/-- One byte is written. -/
theorem write_one (T : TypeId) (R : Nat → Option Value) (B b q : Nat) (v : Value) (l : List UInt8) (w : World) (a : Addr) (c : Nat) (x : UInt8) (h : BW T R B b q v l w) (hBw : B ≤ w.heap.size) (hl : l.length ≤ 1000000000)
    (hab : a.block ≠ b) (hsrc : w.cell? a = some (.int .u8 x.toNat)) (hav : v.ownBlock ≠ some a.block) :
    Calls Tryd.prog 75 #[.pointer (some ⟨b, q, none⟩), .slice (some a) 1 c] w fun e w' => e = .returned (.tuple #[.int .i64 1, .nilIface]) ∧ ∃ v', BW T R B b q v' (l ++ [x]) w' ∧ Below B w w' ∧ Kept b v v' w w' := by
  obtain ⟨hB, ⟨lr, hbk⟩, hown, hne, hnil⟩ := h
  have f2 : w.frozen? ⟨b, q + 2, none⟩ = false := hbk.f (q + 2)
  have c2 : w.cell? ⟨b, q + 2, none⟩ = some (.int .i8 lr) := hbk.c2
  have hbk1 : LibA.Three (w.setCell ⟨b, q + 2, none⟩ (.int .i8 0)) b q T R v (.int .i64 0) (.int .i8 0) := hbk.set2 _
  have hblt := hbk.lt
  have hal : a.block < w.heap.size := by
    rcases Nat.lt_or_ge a.block w.heap.size with h2 | h2
    · exact h2
    · unfold World.cell? at hsrc
      rw [Array.getElem?_eq_none h2] at hsrc
      simp at hsrc
  have hsz : (Tryd.prog.info? 5).map (·.size) = some 1 := by kernel_rfl
  have hW0 : w.grownBy (w.setCell ⟨b, q + 2, none⟩ (.int .i8 0)) (some b) := Lib.grownBy_setCell w b (q + 2) _
  have hadd : ∀ (W : World), W.heap[a.block]? = w.heap[a.block]? → ∀ j u, [Value.int .u8 (x.toNat : Int)][j]? = some u → W.cell? (a.add j) = some u := fun W hW j u hu => by
    cases j with
    | zero =>
      simp at hu
      subst hu
      rw [show a.add 0 = a by unfold Addr.add; simp]
      rw [← hsrc]
      unfold World.cell?
      rw [hW]
    | succ j => simp at hu
  have hll : (Lib.byteCells l).length = l.length := by simp [Lib.byteCells]
  have HSZ := Lib.hid hsz
  clear hbk hsz
  rcases hown.2 with ⟨rfl, h0⟩ | ⟨g, cap, cur, rfl, hBg, hg, hnc, hcm, hcs, htk⟩
  · have hl0 : l = [] := List.eq_nil_of_length_eq_zero h0
    subst hl0
    have d0 := hbk1.c0
    go_enter Tryd.func75, Tryd.ntmps75
    go_wp2_with (go_at_call 85; refine (Tryd.Buffer_tryGrow_none_at b q _ 0 0 1 _ d0 (Nat.le_refl _) (Nat.zero_le _) (by omega)).mono ?_; rintro e w' ⟨rfl, rfl⟩)
    refine (grow_nil b q T R 0 _ hbk1).mono ?_
    rintro e W2 ⟨rfl, M, hM, hbk2, hN, hgr⟩
    have hsz0 : (w.setCell ⟨b, q + 2, none⟩ (.int .i8 0)).heap.size = w.heap.size := by simp
    rw [hsz0] at hbk2 hN
    have e0 := hbk2.c0
    have hgr2 := Lib.grownBy_trans hW0 hgr
    have HA := Lib.hid (hadd W2 (hgr2.block _ hal (by simpa using hab)))
    have HN := Lib.hid hN
    clear hgr hN hbk1 d0 c2 hadd
    go_wp2_with ((with_reducible refine gate_dst (N := 31) rfl ?_); refine wpList_copy_own rfl (.tmp 29) (.tmp 30) 47 47 rfl 5 Tryd.underlying47 HSZ.out w.heap.size 0 1 64 a 1 c rfl rfl M 5 HN.out [.int .u8 x.toNat] rfl HA.out (by rw [hM]; simp) (by intro v hv; simp at hv; subst hv; rfl) ?_)
    refine bodyPost_ret (v := .tuple #[.int .i64 1, .nilIface]) (by simp [results, Tryd.results75, go_sem]) rfl ?_
    have hE := bw_end (x := x) (l := []) hbk2 HN.out hM (by simp) (by unfold maxLen; omega) (by simp [Lib.byteCells]) (by omega) hB hBw
    refine ⟨rfl, .slice (some ⟨w.heap.size, 0, none⟩) 1 64, by simpa using hE, below_setRow (grown_below hgr2 hB hBw) hBw _, kept_row (grown_keep hgr2) (.inr (Nat.le_refl _)) rfl⟩
  · have hpos : 0 < l.length := by
      rcases Nat.eq_zero_or_pos l.length with h0 | h0
      · have := hnil (List.eq_nil_of_length_eq_zero h0)
        cases this
      · exact h0
    have hgb : g ≠ b := by simpa [Value.ownBlock] using hne
    have hga : g ≠ a.block := by simpa [Value.ownBlock] using hav
    have hgl := lt_of_block hg
    have d0 := hbk1.c0
    have z0 := hbk1.f q
    have hg1 : (w.setCell ⟨b, q + 2, none⟩ (.int .i8 0)).heap[g]? = some (.cells cur 5 (0, 0)) := (Below.heap_setCell w ⟨b, q + 2, none⟩ _ g hgb).trans hg
    rw [Nat.mul_one] at hcs htk
    have htl : cur.toList.take l.length = Lib.byteCells l := htk
    by_cases hroom : l.length + 1 ≤ cap
    · have hbk2 := hbk1.set0 (.slice (some ⟨g, 0, none⟩) (l.length + 1) cap)
      have e0 := hbk2.c0
      have hgr2 := Lib.grownBy_setB hW0 q (.slice (some ⟨g, 0, none⟩) (l.length + 1) cap)
      have hN : ((w.setCell ⟨b, q + 2, none⟩ (.int .i8 0)).setCell ⟨b, q, none⟩ (.slice (some ⟨g, 0, none⟩) (l.length + 1) cap)).heap[g]? = some (.cells cur 5 (0, 0)) := (Below.heap_setCell _ ⟨b, q, none⟩ _ g hgb).trans hg1
      have HA := Lib.hid (hadd _ (hgr2.block _ hal (by simpa using hab)))
      have HN := Lib.hid hN
      have HB2 := Lib.hid hbk2
      have HG2 := Lib.hid hgr2
      clear hN hbk1 hadd hg1 hbk2 hgr2 hg htk hown
      go_enter Tryd.func75, Tryd.ntmps75
      go_wp2_with (first
        | (go_at_call 85; refine (Tryd.Buffer_tryGrow_room_at b q _ l.length cap 1 _ d0 z0 hnc hcm (by omega)).mono ?_; rintro e w' ⟨rfl, rfl⟩)
        | ((with_reducible refine gate_dst (N := 31) rfl ?_); refine wpList_copy_own rfl (.tmp 29) (.tmp 30) 47 47 rfl 5 Tryd.underlying47 HSZ.out g l.length 1 (cap - l.length) a 1 c rfl rfl cur 5 HN.out [.int .u8 x.toNat] rfl HA.out (by rw [hcs]; simp; omega) (by intro v hv; simp at hv; subst hv; rfl) ?_))
      refine bodyPost_ret (v := .tuple #[.int .i64 1, .nilIface]) (by simp [results, Tryd.results75, go_sem]) rfl ?_
      have hE := bw_end (x := x) (l := l) HB2.out HN.out hcs hroom hcm htl hgb hB hBg
      refine ⟨rfl, .slice (some ⟨g, 0, none⟩) (l.length + 1) cap, by simpa [htl] using hE, below_setRow (grown_below HG2.out hB hBw) hBg _, kept_row (grown_keep HG2.out) (.inl rfl) rfl⟩
    · obtain rfl : cap = l.length := by omega
      have hcl : cur.toList = Lib.byteCells l := by rw [← htl, List.take_of_length_le (by rw [Array.length_toList]; omega)]
      have hG := grow_full b q g l.length T R 0 cur _ hbk1 hg1 hcs hpos hl hgb (by rw [hcl]; exact bytes_cells l)
      have hsz0 : (w.setCell ⟨b, q + 2, none⟩ (.int .i8 0)).heap.size = w.heap.size := by simp
      rw [hsz0] at hG
      have HGR := Lib.hid hG
      clear hG hg1 hg htk hown
      go_enter Tryd.func75, Tryd.ntmps75
      go_wp2_with (go_at_call 85; refine (Tryd.Buffer_tryGrow_none_at b q _ l.length l.length 1 _ d0 (Nat.le_refl _) hcm (by omega)).mono ?_; rintro e w' ⟨rfl, rfl⟩)
      refine HGR.out.mono ?_
      rintro e W2 ⟨rfl, cap2, M, hM1, hM2, hM3, hM4, hbk2, hN, hgr⟩
      have e0 := hbk2.c0
      have hgr2 := Lib.grownBy_trans hW0 hgr
      have HA := Lib.hid (hadd W2 (hgr2.block _ hal (by simpa using hab)))
      have HN := Lib.hid hN
      have HB2 := Lib.hid hbk2
      have HG2 := Lib.hid hgr2
      clear hgr hN hbk1 d0 c2 hadd hgr2 hbk2
      go_wp2_with ((with_reducible refine gate_dst (N := 31) rfl ?_); refine wpList_copy_own rfl (.tmp 29) (.tmp 30) 47 47 rfl 5 Tryd.underlying47 HSZ.out w.heap.size l.length 1 (cap2 - l.length) a 1 c rfl rfl M 5 HN.out [.int .u8 x.toNat] rfl HA.out (by rw [hM1]; simp; omega) (by intro v hv; simp at hv; subst hv; rfl) ?_)
      refine bodyPost_ret (v := .tuple #[.int .i64 1, .nilIface]) (by simp [results, Tryd.results75, go_sem]) rfl ?_
      have hE := bw_end (x := x) (l := l) HB2.out HN.out hM1 hM2 hM3 (by rw [hM4, hcl]) (by omega) hB hBw
      refine ⟨rfl, .slice (some ⟨w.heap.size, 0, none⟩) (l.length + 1) cap2, by simpa [hM4, hcl] using hE, below_setRow (grown_below HG2.out hB hBw) hBw _, kept_row (grown_keep HG2.out) (.inr (Nat.le_refl _)) rfl⟩
theorem BW.cases_ {T : TypeId} {R : Nat → Option Value} {B b q : Nat} {v : Value} {l : List UInt8} {w : World} (h : BW T R B b q v l w) : ∃ ao n cap, v = .slice ao n cap ∧ n = l.length ∧ n ≤ cap ∧ cap ≤ maxLen ∧ (ao = none → n = 0 ∧ cap = 0) ∧ (∀ ad, ao = some ad → ∃ g, ad = ⟨g, 0, none⟩) := by
  rcases h.own.2 with ⟨e, h0⟩ | ⟨g, cap, cur, e, hBg, hg, hnc, hcm, hcs, htk⟩
  · exact ⟨none, 0, 0, e, h0.symm, Nat.le_refl _, Nat.zero_le _, ⟨fun _ => ⟨rfl, rfl⟩, (fun ad h => by cases h)⟩⟩
  · exact ⟨_, _, cap, e, rfl, hnc, hcm, ⟨(fun h => by cases h), fun ad h => ⟨g, (Option.some.inj h).symm⟩⟩⟩
theorem BW.same {T : TypeId} {R : Nat → Option Value} {B b q : Nat} {v : Value} {l : List UInt8} {w w' : World} (h : BW T R B b q v l w) (hb : ∃ lr, LibA.Three w' b q T R v (.int .i64 0) (.int .i8 lr)) (hk : ∀ k, k ≠ b → w'.heap[k]? = w.heap[k]?) : BW T R B b q v l w' :=
  ⟨h.low, hb, own_move h.own (fun k e => hk k (fun e2 => h.ne (by rw [e, e2]))), h.ne, h.nil⟩
set_option maxHeartbeats 12800000 in
set_option maxRecDepth 100000 in
/-- No byte is written. -/
theorem write_none (T : TypeId) (R : Nat → Option Value) (B b q : Nat) (v : Value) (l : List UInt8) (w : World) (h : BW T R B b q v l w) (hBw : B ≤ w.heap.size) :
    Calls Tryd.prog 75 #[.pointer (some ⟨b, q, none⟩), .slice none 0 0] w fun e w' => e = .returned (.tuple #[.int .i64 0, .nilIface]) ∧ BW T R B b q v l w' ∧ Below B w w' ∧ w.grownBy w' (some b) := by
  obtain ⟨ao, n, cap, rfl, hn, hnc, hcm, ha0, ha1⟩ := h.cases_
  have HH := Lib.hid h
  obtain ⟨hB, ⟨lr, hbk⟩, hown, hne, hnil⟩ := h
  clear hown hne hnil
  have f2 : w.frozen? ⟨b, q + 2, none⟩ = false := hbk.f (q + 2)
  have c2 : w.cell? ⟨b, q + 2, none⟩ = some (.int .i8 lr) := hbk.c2
  have hbk1 : LibA.Three (w.setCell ⟨b, q + 2, none⟩ (.int .i8 0)) b q T R (.slice ao n cap) (.int .i64 0) (.int .i8 0) := hbk.set2 _
  have d0 := hbk1.c0
  have z0 := hbk1.f q
  have hbk2 := hbk1.set0 (.slice ao n cap)
  have e0 := hbk2.c0
  have hW0 : w.grownBy (w.setCell ⟨b, q + 2, none⟩ (.int .i8 0)) (some b) := Lib.grownBy_setCell w b (q + 2) _
  have HG := Lib.hid (Lib.grownBy_setB hW0 q (.slice ao n cap))
  have hsz : (Tryd.prog.info? 5).map (·.size) = some 1 := by kernel_rfl
  have hcp : ∀ d dLen dCap W, (Builtin.copy_ #[47, 47] 3 #[.slice d dLen dCap, .slice none 0 0]).run Tryd.prog W = .ok (goInt 0) W := fun d dLen dCap W => run_copy_none W 47 47 3 5 d none dLen dCap 0 0 Tryd.underlying47 hsz (by simp)
  have HB2 := Lib.hid hbk2
  have hfin : BW T R B b q (.slice ao n cap) l ((w.setCell ⟨b, q + 2, none⟩ (.int .i8 0)).setCell ⟨b, q, none⟩ (.slice ao n cap)) := HH.out.same ⟨0, hbk2⟩ (fun k hk => (Below.heap_setCell _ ⟨b, q, none⟩ _ k hk).trans (Below.heap_setCell w ⟨b, q + 2, none⟩ _ k hk))
  have HF := Lib.hid hfin
  have hcm' := hcm
  unfold maxLen at hcm'
  clear hsz hbk hbk1 hbk2 hW0 hfin
  have HA := Lib.hid (And.intro ha0 ha1)
  clear ha0 ha1 hn
  go_enter Tryd.func75, Tryd.ntmps75
  go_wp2_with (go_at_call 85; refine (Tryd.Buffer_tryGrow_room_at b q ao n cap 0 _ d0 z0 hnc hcm (by omega)).mono ?_; rintro e w' ⟨rfl, rfl⟩)
  all_goals (
    refine bodyPost_ret (v := .tuple #[.int .i64 0, .nilIface]) (by simp [results, Tryd.results75, go_sem]) rfl ?_
    first
      | exact ⟨rfl, HF.out, grown_below HG.out hB hBw, HG.out⟩
      | (obtain rfl : cap = n := by omega
         exact ⟨rfl, HF.out, grown_below HG.out hB hBw, HG.out⟩))
set_option maxHeartbeats 4000000 in
set_option maxRecDepth 100000 in
/-- Its bytes: the row itself. -/
theorem bytes_at (T : TypeId) (R : Nat → Option Value) (b q n cap : Nat) (ao : Option Addr) (lr : Int) (w : World) (h : LibA.Three w b q T R (.slice ao n cap) (.int .i64 0) (.int .i8 lr)) (hn : n ≤ cap) (hc : cap ≤ maxLen) (ha : ∀ ad, ao = some ad → ∃ g, ad = ⟨g, 0, none⟩) (ha0 : ao = none → n = 0 ∧ cap = 0) :
    Calls Tryd.prog 76 #[.pointer (some ⟨b, q, none⟩)] w fun e w' => e = .returned (.slice ao n cap) ∧ w' = w.drew := by
  have c0 := h.c0
  have c1 := h.c1
  unfold maxLen at hc
  clear h
  have mixed : Tryd.prog.follows Departure.mixedOrders = true := by kernel_rfl
  cases ao with
  | none =>
    obtain ⟨rfl, rfl⟩ := ha0 rfl
    go_enter Tryd.func76, Tryd.ntmps76
    go_wp2
    go_region_o
    all_goals (go_wp2; go_ret; exact ⟨rfl, rfl⟩)
  | some ad =>
    obtain ⟨g, rfl⟩ := ha ad rfl
    go_enter Tryd.func76, Tryd.ntmps76
    go_wp2
    go_region_o
    all_goals (go_wp2; go_ret; exact ⟨rfl, rfl⟩)
set_option maxHeartbeats 4000000 in
/-- A sign of ASCII is put at the row's beginning. -/
theorem encode_one (rb : Nat) (x : UInt8) (y : Value) (w : World) (hx : x.toNat < 128) (hc : w.cell? ⟨rb, 0, none⟩ = some y) (hf : w.frozen? ⟨rb, 0, none⟩ = false) :
    Calls Tryd.prog 111 #[.slice (some ⟨rb, 0, none⟩) 4 4, .int .i32 x.toNat] w fun e w' => e = .returned (.int .i64 1) ∧ w' = w.setCell ⟨rb, 0, none⟩ (.int .u8 x.toNat) := by
  have h8 : IntKind.u8.wrap (x.toNat : Int) = (x.toNat : Int) := by unfold IntKind.wrap; simp [IntKind.bits, IntKind.signed]; omega
  have h32 : IntKind.u32.wrap (x.toNat : Int) = (x.toNat : Int) := by unfold IntKind.wrap; simp [IntKind.bits, IntKind.signed]; omega
  go_enter Tryd.func111, Tryd.ntmps111
  go_wp2
  go_ret
  exact ⟨rfl, rfl⟩
end Go.Proofs.YtanadaamipfmkaaDoor.H
