/- The reference's editor goes back a word and takes it out (spec.Editor.Do, step 14), and what is told of it behind that (Open, Bad, Line); for lines of at most 1000 signs. -/
import Derived.Test.YtdinikcfhpfojaaDoorQHTake
import Derived.Test.YtdinikcfhpfojaaDoorQHOne9P
namespace Go.Proofs.YtdinikcfhpfojaaDoor.H
open Go.RowKit Go.Proofs.YtdinikcfhpfojaaDoorW.PrintWords Go.Proofs.YtdinikcfhpfojaaDoorW.PrintLast Go.Proofs.YtdinikcfhpfojaaDoor.R Go.Proofs.YtdinikcfhpfojaaDoor.PDo
set_option linter.unusedVariables false
set_option linter.unusedSimpArgs false
theorem KP.below {w0 w w1 : World} {g : Nat} (h : KP w w1 g) (hB : Below w0.heap.size w0 w) (hg : w0.heap.size ≤ g) : Below w0.heap.size w0 w1 := ⟨h.2.2.1.trans hB.os, h.2.2.2.1.trans hB.tape, h.2.2.2.2.trans hB.output, Nat.le_trans hB.size h.2.1, fun k hk => (h.1 k (Nat.lt_of_lt_of_le hk hB.size) (by omega)).trans (hB.block k hk)⟩
theorem Ed.stays {w w1 : World} {g : Nat} {A : Addr} {c : Nat} {l : List Int} {a : Int} {kv : Value} {b o : Bool} (h : Ed w g A c l a kv b o) (hA : A.block < w.heap.size) (hb : Below w.heap.size w w1) : Ed w1 g A c l a kv b o := ⟨h.1.stays hb, reads_kept h.2.1 (hb.block _ hA), h.2.2⟩
theorem ed_cell {w : World} {g : Nat} {A : Addr} {c : Nat} {l : List Int} {a : Int} {kv : Value} {b o : Bool} (h : Ed w g A c l a kv b o) (j : Nat) (hj : j < l.length) : w.cell? (A.add j) = some (.int .i32 (l.getD j 0)) := by
  obtain ⟨ad, e, hc⟩ := h.2.1.2.2 (by omega)
  obtain rfl := Option.some.inj e
  exact hc j hj
set_option maxRecDepth 100000 in
set_option maxHeartbeats 4000000 in
theorem begins_ed (w : World) (g c i : Nat) (A : Addr) (l : List Int) (a : Int) (kv : Value) (b o : Bool) (h : Ed w g A c l a kv b o) (hi : i < l.length) (hl : l.length ≤ 1000) :
    Calls Tryd.prog 92 #[.pointer (some ⟨g, 0, none⟩), .int .i64 i] w fun e w' => e = .returned (.bool (decide (0 < i) && begs l i)) ∧ ∃ n, w' = w.drewN n := by
  have k0 := h.1.cell 0 rfl
  cases i with
  | zero =>
    clear h
    go_enter Tryd.func92, Tryd.ntmps92
    go_wp2
    go_ret
    exact ⟨by simp, 0, rfl⟩
  | succ j =>
    have q1 := ed_cell h (j + 1) hi
    have q0 := ed_cell h j (by omega)
    rw [show A.add (j + 1) = ⟨A.block, A.off + (j + 1), none⟩ from by simp [Addr.add]] at q1
    have hw : IntKind.i64.wrap (((j + 1 : Nat) : Int) - 1) = (j : Int) := by rw [IntWalk.i64_in _ (by omega)]; omega
    have hw2 : (((j + 1 : Nat) : Int) - 1) = (j : Int) := by omega
    have HB := Lib.hid (show begs l (j + 1) = (wsign (l.getD (j + 1) 0) && !wsign (l.getD j 0)) from rfl)
    generalize l.getD (j + 1) 0 = x at *
    generalize l.getD j 0 = y at *
    clear h
    cases hx : wsign x with
    | false =>
      have HX := Lib.hid hx
      have HC := Lib.hid (spec_IsWordSign.calls x false w (by rw [word_tells, hx]))
      clear hx
      go_enter Tryd.func92, Tryd.ntmps92
      go_wp2_with fail
      refine HC.out.mono ?_
      rintro e w1 ⟨rfl, n1, rfl⟩
      go_wp2_with fail
      go_ret
      exact ⟨by rw [HB.out, HX.out]; simp, n1, rfl⟩
    | true =>
      have HX := Lib.hid hx
      have HC := Lib.hid (spec_IsWordSign.calls x true w (by rw [word_tells, hx]))
      have HD := Lib.hid (fun n => spec_IsWordSign.calls y (wsign y) (w.drewN n) (word_tells y))
      clear hx
      go_enter Tryd.func92, Tryd.ntmps92
      go_wp2_with fail
      refine HC.out.mono ?_
      rintro e w1 ⟨rfl, n1, rfl⟩
      go_wp2_with fail
      refine (HD.out n1).mono ?_
      rintro e w2 ⟨rfl, n2, rfl⟩
      go_wp2_with fail
      go_ret
      exact ⟨by rw [HB.out, HX.out]; simp, n1 + n2, rfl⟩
theorem Ed.drewN {w : World} {g : Nat} {A : Addr} {c : Nat} {l : List Int} {a : Int} {kv : Value} {b o : Bool} (h : Ed w g A c l a kv b o) (n : Nat) : Ed (w.drewN n) g A c l a kv b o := ⟨h.1.drewN n, reads_kept h.2.1 rfl, h.2.2⟩
theorem prevW_le (l : List Int) : ∀ i, prevW l i ≤ i
  | 0 => by simp [prevW]
  | i + 1 => by
    have := prevW_le l i
    unfold prevW
    split <;> omega
set_option maxRecDepth 100000 in
set_option maxHeartbeats 4000000 in
theorem before_ed (w : World) (g c n p : Nat) (A : Addr) (l : List Int) (a : Int) (kv : Value) (b o : Bool) (h : Ed w g A c l a kv b o) (hn0 : 0 < n) (hn : n ≤ l.length) (hl : l.length ≤ 1000) (hp : prevW l (n - 1) = p) (hp0 : 0 < p) :
    Calls Tryd.prog 55 #[.pointer (some ⟨g, 0, none⟩), .int .i64 n] w fun e w' => e = .returned (.int .i64 p) ∧ ∃ n, w' = w.drewN n := by
  have HE := Lib.hid (And.intro h hp)
  have hw : IntKind.i64.wrap ((n : Int) - 1) = ((n - 1 : Nat) : Int) := by rw [IntWalk.i64_in _ (by omega)]; omega
  have hw2 : (n : Int) - 1 = ((n - 1 : Nat) : Int) := by omega
  clear h hp
  go_enter Tryd.func55, Tryd.ntmps55
  go_wp2_with fail
  go_loopw [5] (fun v5 wr => ∃ (i m : Nat), v5 = .int .i64 i ∧ i < l.length ∧ prevW l i = p ∧ wr = w.drewN m) (fun v5 _ => (intOf v5).toNat)
  case atStart => exact ⟨n - 1, 0, by simp [hw2], by omega, HE.out.2, rfl⟩
  case round =>
    obtain ⟨i, m, rfl, hi, hpi, rfl⟩ := hrel
    have hi0 : 0 < i := by have := prevW_le l i; omega
    have HC := Lib.hid (begins_ed (w.drewN m) g c i A l a kv b o (HE.out.1.drewN m) hi hl)
    have HP := Lib.hid hpi
    have hd : decide (0 < i) = true := decide_eq_true hi0
    have hw3 : IntKind.i64.wrap ((i : Int) - 1) = ((i - 1 : Nat) : Int) := by rw [IntWalk.i64_in _ (by omega)]; omega
    clear hpi hw hw2
    cases hb : begs l i with
    | true =>
      have HB := Lib.hid hb
      go_wp2_with fail
      refine HC.out.mono ?_
      rw [hb, hd]
      rintro e w1 ⟨rfl, m1, rfl⟩
      clear hb
      go_wp2_with fail
      go_ret
      refine ⟨?_, m + m1, rfl⟩
      have h1 := HP.out
      obtain ⟨i', rfl⟩ : ∃ i', i = i' + 1 := ⟨i - 1, by omega⟩
      rw [prevW, HB.out, if_pos rfl] at h1
      rw [h1]; rfl
    | false =>
      have HB := Lib.hid hb
      go_wp2_with fail
      refine HC.out.mono ?_
      rw [hb, hd]
      rintro e w1 ⟨rfl, m1, rfl⟩
      clear hb
      go_wp2_with fail
      go_roundw
      case rel =>
        refine ⟨i - 1, m + m1, by first | rfl | (simp; omega), by omega, ?_, rfl⟩
        have h1 := HP.out
        obtain ⟨i', rfl⟩ : ∃ i', i = i' + 1 := ⟨i - 1, by omega⟩
        rw [prevW, HB.out] at h1
        simpa using h1
      case measure => simp only [intOf]; omega
theorem KP.of_below {w w1 : World} (g : Nat) (h : Below w.heap.size w w1) : KP w w1 g := ⟨fun k hk _ => h.block k hk, h.size, h.os, h.tape, h.output⟩
set_option maxRecDepth 100000 in
set_option maxHeartbeats 8000000 in
theorem more_14 (w : World) (g p n c : Nat) (A : Addr) (l : List Int) (kv : Value) (hE : Ed w g A c l n kv false false) (hA : A.block ≠ g ∧ A.block < w.heap.size) (hpw : prevW l (n - 1) = p) (hp : 0 < p) (hpn : p < n) (hn : n ≤ l.length) (hl : l.length ≤ 1000) :
    Calls Tryd.prog 58 #[.pointer (some ⟨g, 0, none⟩), .agg #[.int .i64 14, .string ⟨#[]⟩, .int .i64 0, .bool false, .bool false]] w fun e w' => e = .returned (.int .i64 (-1)) ∧ (∃ A' c' kv', Ed w' g A' c' (l.take p ++ l.drop n) p kv' false false) ∧ KP w w' g := by
  have b1 := Below.alloc (Below.refl w.heap.size w) (Nat.le_refl _) (.cells #[.int .i64 14, .string ⟨#[]⟩, .int .i64 0, .bool false, .bool false] 29)
  have hE1 := hE.stays hA.2 b1
  have k0 := hE1.1.cell 0 rfl
  have k1 := hE1.1.cell 1 rfl
  have n0 := (Rec.new w [.int .i64 14, .string ⟨#[]⟩, .int .i64 0, .bool false, .bool false] 29).cell 0 rfl
  have HC := Lib.hid (before_ed _ g c n p A l n kv false false hE1 (by omega) hn hl hpw hp)
  have HD := Lib.hid (fun m => take_calls ((w.alloc (.cells #[.int .i64 14, .string ⟨#[]⟩, .int .i64 0, .bool false, .bool false] 29)).drewN m) g A c l n kv false false p n (hE1.drewN m) ⟨hA.1, Nat.lt_of_lt_of_le hA.2 b1.size⟩ hp hpn hn hl)
  have HK := Lib.hid (KP.of_below g b1)
  have hgw := hE.1.lt
  have hgn : ¬ g = w.heap.size := by omega
  clear hE hE1 b1
  go_enter Tryd.func58, Tryd.ntmps58
  go_wp2_with fail
  refine HC.out.mono ?_
  rintro e w2 ⟨rfl, m, rfl⟩
  go_wp2_with fail
  refine (HD.out m).mono ?_
  rintro e w3 ⟨rfl, A', c', kv', hE3, hk3⟩
  have H3 := Lib.hid (And.intro hE3 (HK.out.trans ((KP.of_below g (pw_below_drewN (Below.refl _ _) m)).trans hk3)))
  clear hE3 hk3
  go_wp2_with fail
  go_ret
  exact ⟨rfl, ⟨A', c', kv', H3.out.1⟩, H3.out.2⟩
set_option maxRecDepth 100000 in
set_option maxHeartbeats 8000000 in
theorem Do_14 (w : World) (g p n c : Nat) (A : Addr) (l : List Int) (kv : Value) (hE : Ed w g A c l n kv false false) (hA : A.block ≠ g ∧ A.block < w.heap.size) (hpw : prevW l (n - 1) = p) (hp : 0 < p) (hpn : p < n) (hn : n ≤ l.length) (hl : l.length ≤ 1000) :
    Calls Tryd.prog 31 #[.pointer (some ⟨g, 0, none⟩), .agg #[.int .i64 14, .string ⟨#[]⟩, .int .i64 0, .bool false, .bool false]] w fun e w' => e = .returned (.int .i64 (-1)) ∧ (∃ A' c' kv', Ed w' g A' c' (l.take p ++ l.drop n) p kv' false false) ∧ KP w w' g := by
  have b1 := Below.alloc (Below.refl w.heap.size w) (Nat.le_refl _) (.cells #[.int .i64 14, .string ⟨#[]⟩, .int .i64 0, .bool false, .bool false] 29)
  have hE1 := hE.stays hA.2 b1
  have k0 := hE1.1.cell 0 rfl
  have k1 := hE1.1.cell 1 rfl
  have k3 := hE1.1.cell 3 rfl
  have k4 := hE1.1.cell 4 rfl
  have nb := (Rec.new w [.int .i64 14, .string ⟨#[]⟩, .int .i64 0, .bool false, .bool false] 29)
  have n0 := nb.cell 0 rfl
  have n1 := nb.cell 1 rfl
  have n2 := nb.cell 2 rfl
  have n3 := nb.cell 3 rfl
  have n4 := nb.cell 4 rfl
  have HC := Lib.hid (more_14 _ g p n c A l kv hE1 ⟨hA.1, Nat.lt_of_lt_of_le hA.2 b1.size⟩ hpw hp hpn hn hl)
  have HK := Lib.hid (KP.of_below g b1)
  have hgw := hE.1.lt
  have hgn : ¬ g = w.heap.size := by omega
  clear hE hE1 b1 nb
  go_enter Tryd.func31, Tryd.ntmps31
  go_wp2_with fail
  refine HC.out.mono ?_
  rintro e w3 ⟨rfl, hE3, hk3⟩
  have H3 := Lib.hid (And.intro hE3 (HK.out.trans hk3))
  clear hE3 hk3
  go_wp2_with fail
  go_ret
  exact ⟨rfl, H3.out.1, H3.out.2⟩
theorem Open_ed (w : World) (g c : Nat) (A : Addr) (l : List Int) (a : Int) (kv : Value) (b o : Bool) (h : Ed w g A c l a kv b o) : Calls Tryd.prog 32 #[.pointer (some ⟨g, 0, none⟩)] w fun e w' => e = .returned (.bool o) ∧ ∃ n, w' = w.drewN n := by
  have k4 := h.1.cell 4 rfl
  clear h
  go_enter Tryd.func32, Tryd.ntmps32
  go_wp2
  go_ret
  exact ⟨rfl, 0, rfl⟩
theorem Bad_ed (w : World) (g c : Nat) (A : Addr) (l : List Int) (a : Int) (kv : Value) (b o : Bool) (h : Ed w g A c l a kv b o) : Calls Tryd.prog 33 #[.pointer (some ⟨g, 0, none⟩)] w fun e w' => e = .returned (.bool b) ∧ ∃ n, w' = w.drewN n := by
  have k3 := h.1.cell 3 rfl
  clear h
  go_enter Tryd.func33, Tryd.ntmps33
  go_wp2
  go_ret
  exact ⟨rfl, 0, rfl⟩
set_option maxRecDepth 100000 in
set_option maxHeartbeats 4000000 in
theorem Line_ed (w : World) (g c0 : Nat) (A : Addr) (l : List Int) (a : Int) (kv : Value) (bad op : Bool) (hI : Ed w g A c0 l a kv bad op) :
    Calls Tryd.prog 34 #[.pointer (some ⟨g, 0, none⟩)] w fun e w' => e = .returned (.agg #[.string (runesBytes l), .int .i64 a]) ∧ Below w.heap.size w w' := by
  obtain ⟨hb, hr0, hcc⟩ := hI
  have hR : Rec w g [.slice (some A) l.length c0, .int .i64 a, kv, .bool bad, .bool op] 91 := hb
  have k0 := (hR.alloc (.cells #[.string ⟨#[]⟩, .int .i64 0] 23)).cell 0 rfl
  have k1 := (hR.alloc (.cells #[.string ⟨#[]⟩, .int .i64 0] 23)).cell 1 rfl
  have hC : Kd.C (Kd.int .i32) w (some A) l.length l := Kd.C_of_reads hr0
  have hcv : ∀ n, (convert 66 9 (.slice (some A) l.length c0)).run Tryd.prog ((w.alloc (.cells #[.string ⟨#[]⟩, .int .i64 0] 23)).drewN n) = .ok (.string (runesBytes l)) ((w.alloc (.cells #[.string ⟨#[]⟩, .int .i64 0] 23)).drewN n) := fun n =>
    C_runes Tryd.underlying66 Tryd.underlying21 Tryd.underlying9 (Kd.C_below (Kd.C_alloc hC _) (pw_below_drewN (Below.refl _ _) n))
  have hcv1 : (convert 66 9 (.slice (some A) l.length c0)).run Tryd.prog (w.alloc (.cells #[.string ⟨#[]⟩, .int .i64 0] 23)).drew = .ok (.string (runesBytes l)) (w.alloc (.cells #[.string ⟨#[]⟩, .int .i64 0] 23)).drew := hcv 1
  have hn := Rec.new w [.string ⟨#[]⟩, .int .i64 0] 23
  have n0 := hn.cell 0 rfl
  have n1 := hn.cell 1 rfl
  have f0 := hn.free 0
  have f1 := hn.free 1
  clear hb hr0 hC hR
  go_enter Tryd.func34, Tryd.ntmps34
  go_wp2_with fail
  have hbw := Below.alloc (Below.refl w.heap.size w) (Nat.le_refl _) (.cells #[.string ⟨#[]⟩, .int .i64 0] 23)
  have HB := Lib.hid hbw
  have HN := Lib.hid hn
  clear hbw hn hcv
  generalize w.alloc (.cells #[.string ⟨#[]⟩, .int .i64 0] 23) = W at *
  go_still_tail 10, (by kernel_rfl)
  change wpList _ _ _ _ _ W.drew
  go_wp2_with fail
  have hf := (HN.out.set 0 (.string (runesBytes l))).set 1 (.int .i64 a)
  have r0 := hf.cell 0 rfl
  have r1 := hf.cell 1 rfl
  refine bodyPost_ret (v := .agg #[.string (runesBytes l), .int .i64 a]) (by simp [results, Tryd.results34, go_sem, r0, r1]) rfl ⟨rfl, ?_⟩
  exact ((HB.out.setCell (p := ⟨w.heap.size, 0, none⟩) (Nat.le_refl _) _).setCell (p := ⟨w.heap.size, 1, none⟩) (Nat.le_refl _) _).drew
end Go.Proofs.YtdinikcfhpfojaaDoor.H
