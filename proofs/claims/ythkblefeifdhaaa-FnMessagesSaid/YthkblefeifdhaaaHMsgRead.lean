/- What a message is read from: the contract of readline's ReadMessage, where a message stands ahead; no condition but bounds that its callers meet. -/
import Derived.Test.YthkblefeifdhaaaHMsgWritten
namespace Go.Proofs.Ythkblefeifdhaaa.H
open Go.RowKit Go.Proofs.YthkblefeifdhaaaW.PrintWords Go.Proofs.YthkblefeifdhaaaW.PrintLast Go.Proofs.Ythkblefeifdhaaa.R Go.Proofs.Ythkblefeifdhaaa.X
set_option linter.unusedVariables false
set_option linter.unusedSimpArgs false
attribute [local go_sem ↓] Go.wp_at_zero Go.wp_at_succ

theorem or_len : ∀ a : Fin 3, ∀ b : Fin 256, wrap32 (bits BinOp.or IntKind.u32 (bits BinOp.or IntKind.u32 (bits BinOp.or IntKind.u32 0 0) ((a.val : Int) * 256)) (b.val : Int)) = (a.val : Int) * 256 + (b.val : Int) := by decide +kernel
theorem or_len' (a b : Int) (h0 : 0 ≤ a) (h1 : a ≤ 2) (h2 : 0 ≤ b) (h3 : b ≤ 255) : wrap32 (bits BinOp.or IntKind.u32 (bits BinOp.or IntKind.u32 (bits BinOp.or IntKind.u32 0 0) (a * 256)) b) = a * 256 + b := by
  obtain ⟨x, rfl⟩ := Int.eq_ofNat_of_zero_le h0
  obtain ⟨y, rfl⟩ := Int.eq_ofNat_of_zero_le h2
  exact or_len ⟨x, by omega⟩ ⟨y, by omega⟩
theorem or_kind (k : Nat) (hk : k < 32768) (a b : Int) (ha : (k : Int) / 256 = a) (hb : (k : Int) % 256 = b) : IntKind.i16.wrap (bits BinOp.or IntKind.u16 (IntKind.u16.wrap (IntKind.u16.wrap a * 256)) (IntKind.u16.wrap b)) = (k : Int) := by
  obtain ⟨x, rfl⟩ := Int.eq_ofNat_of_zero_le (show 0 ≤ a by omega)
  obtain ⟨y, rfl⟩ := Int.eq_ofNat_of_zero_le (show 0 ≤ b by omega)
  have e1 : IntKind.u16.wrap (IntKind.u16.wrap (x : Int) * 256) = ((2 ^ 8 * x : Nat) : Int) := by simp only [IntKind.wrap_u16]; omega
  have e2 : IntKind.u16.wrap (y : Int) = (y : Int) := by simp only [IntKind.wrap_u16]; omega
  rw [e1, e2, u16_or_nat _ _ (by omega) (by omega), ← Nat.two_pow_add_eq_or_of_lt (i := 8) (by omega)]
  simp only [IntKind.wrap, IntKind.bits, IntKind.signed]
  simp
  omega
theorem splice_all {α : Type} (L cs : List α) (h : cs.length = L.length) : splice L 0 cs = cs := by
  unfold splice
  rw [List.take_zero, List.nil_append, Nat.zero_add, List.drop_of_length_le (by omega), List.append_nil]
theorem make_bytes (n : Nat) (hn : n ≤ 2000000000) (w : World) : (Instr.makeSlice 26 (.int .i64 (n : Int)) (.int .i64 (n : Int))).run Try.prog w = .ok (.slice (some ⟨w.heap.size, 0, none⟩) n n) (w.alloc (.cells (madeCells #[.int .u8 0] n).toList.toArray 5)) := by
  obtain ⟨i0, hi, hz0, hz1, hz2⟩ := info_parts info5
  have := run_make (P := Try.prog) w 26 5 i0 (.int .u8 0) Try.underlying26 hi hz0 .i64 .i64 (n : Int) (n : Int) (by omega) (by omega) (by rw [hz2]; omega) (by omega)
  simp only [Int.toNat_natCast, hz1, Nat.mul_one] at this
  rw [Array.toArray_toList]
  exact this
set_option maxRecDepth 100000 in
set_option maxHeartbeats 4000000 in
theorem read_calls (g c n kd : Nat) (d rest : List Int) (w : World) (hn : d.length = n) (hc : 6 + n + rest.length ≤ c) (hcm : c ≤ maxLen) (hg : g < w.heap.size)
    (hs : ∀ j, j < 6 + n + rest.length → w.cell? ⟨g, j, none⟩ = some (.int .u8 ((head6 n kd ++ (d ++ rest)).getD j 0))) (hl : n ≤ 500) (hk1 : kd < 32768) :
    Calls Try.prog 49 #[.slice (some ⟨g, 0, none⟩) (6 + n + rest.length) c] w fun e w' => ∃ o c' dv, e = .returned (.tuple #[.pointer (some ⟨w.heap.size, 0, none⟩), .slice (some ⟨g, o, none⟩) rest.length c', .nilIface]) ∧ Rec w' w.heap.size [.int .i16 kd, dv] 73 ∧ BOwn w' w.heap.size dv d ∧ (∀ j, j < rest.length → w'.cell? ⟨g, o + j, none⟩ = some (.int .u8 (rest.getD j 0))) ∧ Below w.heap.size w w' := by
  unfold maxLen at hcm
  have c0 := hs 0 (by omega)
  have c1 := hs 1 (by omega)
  have c2 := hs 2 (by omega)
  have c3 := hs 3 (by omega)
  have c4 := hs 4 (by omega)
  have c5 := hs 5 (by omega)
  simp only [head6, List.cons_append, List.nil_append, List.getD_cons_zero, List.getD_cons_succ] at c0 c1 c2 c3 c4 c5
  obtain ⟨b2, hb2⟩ : ∃ b, ((n : Int) + 2) / 256 = b := ⟨_, rfl⟩
  obtain ⟨b3, hb3⟩ : ∃ b, ((n : Int) + 2) % 256 = b := ⟨_, rfl⟩
  obtain ⟨b4, hb4⟩ : ∃ b, (kd : Int) / 256 = b := ⟨_, rfl⟩
  obtain ⟨b5, hb5⟩ : ∃ b, (kd : Int) % 256 = b := ⟨_, rfl⟩
  rw [hb2] at c2
  rw [hb3] at c3
  rw [hb4] at c4
  rw [hb5] at c5
  obtain ⟨R, hR⟩ : ∃ R, rest.length = R := ⟨_, rfl⟩
  rw [hR] at hc hs ⊢
  obtain ⟨N, hN⟩ : ∃ N, 6 + n + R = N := ⟨_, rfl⟩
  rw [hN] at hc hs ⊢
  have f4 : ¬ c = 4 := by omega
  have i0 : ¬ (N : Int) < 4 := by omega
  have i1 : (4 : Int) ≤ (N : Int) := by omega
  have i2 : (N : Int) ≤ (c : Int) := by omega
  have j0 : (0 : Int) < (N : Int) := by omega
  have j1 : (1 : Int) < (N : Int) := by omega
  have j2 : (2 : Int) < (N : Int) := by omega
  have j3 : (3 : Int) < (N : Int) := by omega
  have hx : ∀ j, j < n + R → w.cell? ⟨g, 6 + j, none⟩ = some (.int .u8 ((d ++ rest).getD j 0)) := fun j hj => by
    rw [hs (6 + j) (by omega)]
    congr 2
    rw [List.getD_eq_getElem?_getD, List.getD_eq_getElem?_getD, List.getElem?_append_right (by simp [head6])]
    simp [head6]
  have HX := Lib.hid (And.intro hx hg)
  have hW := Below.heap_alloc w (.cells #[.int .i16 0, .slice none 0 0] 73) g hg
  replace c0 := (World.cell?_of_block (a := ⟨g, 0, none⟩) hW).trans c0
  replace c1 := (World.cell?_of_block (a := ⟨g, 1, none⟩) hW).trans c1
  replace c2 := (World.cell?_of_block (a := ⟨g, 2, none⟩) hW).trans c2
  replace c3 := (World.cell?_of_block (a := ⟨g, 3, none⟩) hW).trans c3
  replace c4 := (World.cell?_of_block (a := ⟨g, 4, none⟩) hW).trans c4
  replace c5 := (World.cell?_of_block (a := ⟨g, 5, none⟩) hW).trans c5
  have hm0 := Rec.new w [.int .i16 0, .slice none 0 0] 73
  have hB0 := (Below.refl w.heap.size w).alloc (Nat.le_refl _) (.cells #[.int .i16 0, .slice none 0 0] 73)
  have hz0 : (w.alloc (.cells #[.int .i16 0, .slice none 0 0] 73)).heap.size = w.heap.size + 1 := by simp
  have v2 : 0 ≤ b2 ∧ b2 ≤ 2 := by omega
  have v3 : 0 ≤ b3 ∧ b3 ≤ 255 := by omega
  have hbb := Lib.hid (And.intro hb2 (And.intro hb3 (And.intro hb4 hb5)))
  clear hb2 hb3 hb4 hb5
  obtain ⟨v20, v21⟩ := v2
  obtain ⟨v30, v31⟩ := v3
  go_enter Try.func49, Try.ntmps49
  go_wp2
  generalize w.alloc (.cells #[.int .i16 0, .slice none 0 0] 73) = W at c0 c1 c2 c3 c4 c5 hm0 hB0 hz0 ⊢
  go_region
  have hL : b2 * 256 + b3 = ((n + 2 : Nat) : Int) := by have := hbb.out; omega
  rw [or_len' b2 b3 v20 v21 v30 v31, hL]
  have e4 : ((N : Int) - 4) = ((N - 4 : Nat) : Int) := by omega
  have k0 := hm0.cell 0 rfl
  have z0 := hm0.free 0
  have n0 : (0 : Int) < ((N - 4 : Nat) : Int) := by omega
  have n1 : (1 : Int) < ((N - 4 : Nat) : Int) := by omega
  have n2 : ¬ (((N - 4 : Nat) : Int) < 2) := by omega
  go_wp2
  go_region
  have hkd := or_kind kd hk1 b4 b5 hbb.out.2.2.1 hbb.out.2.2.2
  rw [hkd]
  have hm1 : Rec (W.setCell ⟨w.heap.size, 0, none⟩ (.int .i16 kd)) w.heap.size [.int .i16 kd, .slice none 0 0] 73 := hm0.set 0 (.int .i16 kd)
  have hB1 := hB0.setCell (p := ⟨w.heap.size, 0, none⟩) (Nat.le_refl _) (.int .i16 kd)
  have hz1 : (W.setCell ⟨w.heap.size, 0, none⟩ (.int .i16 kd)).heap.size = w.heap.size + 1 := by simp [hz0]
  clear c0 c1 c2 c3 c4 c5 k0 z0 hkd hm0 hB0 hz0
  generalize W.setCell ⟨w.heap.size, 0, none⟩ (.int .i16 kd) = W2 at hm1 hB1 hz1 ⊢
  have m1 : (2 : Int) ≤ ((N - 4 : Nat) : Int) := by omega
  have m2 : ((N - 4 : Nat) : Int) ≤ ((c - 4 : Nat) : Int) := by omega
  obtain ⟨L, hL1, hL2⟩ : ∃ L : List Value, madeCells #[.int .u8 0] n = L.toArray ∧ L.length = n := ⟨(madeCells #[.int .u8 0] n).toList, by simp, by simp [size_madeCells]⟩
  have hmk := make_bytes n (by omega)
  rw [hL1] at hmk
  simp only [List.toList_toArray] at hmk
  have eN : N - 4 - 2 = n + R := by omega
  have n4 : ¬ (((n + R : Nat) : Int) < (n : Int)) := by omega
  obtain ⟨T, hT⟩ : ∃ T, (if c - 4 = 2 then some (⟨g, 4, none⟩ : Addr) else some ⟨g, 6, none⟩) = T := ⟨_, rfl⟩
  have k1 := hm1.cell 1 rfl
  have z1 := hm1.free 1
  have hz3 : (W2.setCell ⟨w.heap.size, 1, none⟩ (.slice (some ⟨w.heap.size + 1, 0, none⟩) n n)).heap.size = w.heap.size + 1 := by simp [hz1]
  have hm3 := (hm1.set 1 (.slice (some ⟨w.heap.size + 1, 0, none⟩) n n)).alloc (.cells L.toArray 5)
  have hB3 := (hB1.setCell (p := ⟨w.heap.size, 1, none⟩) (Nat.le_refl _) (.slice (some ⟨w.heap.size + 1, 0, none⟩) n n)).alloc (by omega) (.cells L.toArray 5)
  have hnew := Go.heap_alloc_new (W2.setCell ⟨w.heap.size, 1, none⟩ (.slice (some ⟨w.heap.size + 1, 0, none⟩) n n)) (.cells L.toArray 5)
  rw [hz3] at hnew
  have HP := Lib.hid (show 0 < (d.map (Value.int .u8)).length → (some ⟨w.heap.size + 1, 0, none⟩ : Option Addr) = some ⟨w.heap.size + 1, 0, none⟩ ∧ ∃ ad, T = some ad ∧ ∀ j v, (d.map (Value.int .u8))[j]? = some v → ((W2.setCell ⟨w.heap.size, 1, none⟩ (.slice (some ⟨w.heap.size + 1, 0, none⟩) n n)).alloc (.cells L.toArray 5)).cell? (ad.add j) = some v from fun h0 => by
    rw [List.length_map] at h0
    rw [if_neg (by omega)] at hT
    refine ⟨rfl, _, hT.symm, fun j v hj => ?_⟩
    rw [List.getElem?_map] at hj
    obtain ⟨x, hx, rfl⟩ := Option.map_eq_some_iff.1 hj
    obtain ⟨hjl, rfl⟩ := List.getElem?_eq_some_iff.1 hx
    have h1 := pw_cell_below (hB3) (HX.out.1 j (by omega))
    rw [show ((⟨g, 6, none⟩ : Addr).add j) = ⟨g, 6 + j, none⟩ by unfold Addr.add; split <;> simp_all, h1]
    simp [List.getD, List.getElem?_append_left hjl, List.getElem?_eq_getElem hjl])
  have hsz : (Try.prog.info? 5).map (·.size) = some 1 := by kernel_rfl
  have HSZ := Lib.hid hsz
  have HH := Lib.hid (And.intro hm3 (And.intro hB3 (And.intro hnew (And.intro hL1 hL2))))
  have hT1 := Lib.hid hT
  clear hsz hm3 hB3 hnew hL1 hL2
  obtain ⟨T2, hT2⟩ : ∃ T2, (if c - 4 - 2 = n then T else Option.map (fun x => x.add n) T) = T2 := ⟨_, rfl⟩
  go_wp2_with ((with_reducible refine gate_dst (N := 78) rfl ?_); refine wpList_copy_splice rfl (.tmp 76) (.tmp 77) 26 26 rfl 5 Try.underlying26 HSZ.out (some ⟨w.heap.size + 1, 0, none⟩) T n n (n + R) (c - 4 - 2) rfl rfl (w.heap.size + 1) 0 L 5 HH.out.2.2.1 (d.map (Value.int .u8)) (by rw [List.length_map, hn]; exact (Nat.min_eq_right (by omega)).symm) HP.out (by rw [HH.out.2.2.2.2]; simp [hn]) (by intro v hv; obtain ⟨x, _, rfl⟩ := List.mem_map.1 hv; rfl) (w.heap.size + 1) _ (Below.refl _ _) (Nat.le_refl _) ?_; intro w1 hg1 hbl1)
  have hm5 : Rec w1 w.heap.size [.int .i16 kd, .slice (some ⟨w.heap.size + 1, 0, none⟩) n n] 73 := Rec.below (B := w.heap.size + 1) HH.out.1.drew.drew hbl1 (by omega)
  have k5 := hm5.cell 1 rfl
  have q0 : (n : Int) ≤ ((n + R : Nat) : Int) := by omega
  have q1 : ((n + R : Nat) : Int) ≤ ((c - 4 - 2 : Nat) : Int) := by omega
  have q2 : (0 : Int) ≤ (n : Int) := by omega
  clear k1 z1 hT
  go_region
  go_wp2
  have hrow := hg1.out
  rw [splice_all _ _ (by rw [HH.out.2.2.2.2]; simp [hn])] at hrow
  have hB5 : Below w.heap.size w w1 := HH.out.2.1.drew.drew.trans (hbl1.mono (by omega))
  have hT3 : ∃ t, T = some ⟨g, t, none⟩ ∧ (0 < R → c - 4 - 2 ≠ n ∧ t = 6) := by
    by_cases h6 : c - 4 = 2
    · exact ⟨_, by rw [← hT1.out, if_pos h6], fun h => by omega⟩
    · exact ⟨_, by rw [← hT1.out, if_neg h6], fun h => ⟨by omega, rfl⟩⟩
  obtain ⟨t, rfl, h0⟩ := hT3
  have hT4 : ∃ o, T2 = some ⟨g, o, none⟩ ∧ (0 < R → o = 6 + n) := by
    by_cases hcn : c - 4 - 2 = n
    · exact ⟨t, by rw [← hT2, if_pos hcn], fun h => absurd hcn (h0 h).1⟩
    · refine ⟨t + n, ?_, fun h => by rw [(h0 h).2]⟩
      rw [← hT2, if_neg hcn, Option.map_some, show ((⟨g, t, none⟩ : Addr).add n) = ⟨g, t + n, none⟩ by unfold Addr.add; split <;> simp_all]
  obtain ⟨o, rfl, ho⟩ := hT4
  refine bodyPost_ret (v := .tuple #[.pointer (some ⟨w.heap.size, 0, none⟩), .slice (some ⟨g, o, none⟩) R (c - 4 - 2 - n), .nilIface]) (by simp [results, Try.results49, go_sem]) rfl ?_
  refine ⟨o, _, _, rfl, hm5, ?_, fun j hj => ?_, hB5.drew⟩
  · refine ⟨by simp [nums], .inr ⟨w.heap.size + 1, n, _, by rw [hn], by omega, hrow, by omega, by unfold maxLen; omega, by simp [hn], by rw [hn, Nat.mul_one, List.take_of_length_le (by simp [hn])]; rfl⟩⟩
  · have h1 := pw_cell_below hB5 (HX.out.1 (n + j) (by omega))
    show w1.cell? _ = _
    rw [ho (by omega), Nat.add_assoc, h1]
    congr 2
    rw [List.getD_eq_getElem?_getD, List.getD_eq_getElem?_getD, List.getElem?_append_right (by omega)]
    congr 2
    omega
end Go.Proofs.Ythkblefeifdhaaa.H
