/- Printed by a program of this seat (xprint) out of the translation: Go functions as plain functions, and the walks that show them; no condition. -/
import Derived.Test.YthkblefeifdhaaaPWordPlacesx0
import Derived.Test.YthkblefeifdhaaaHIndexByte
namespace Go.Proofs.Ythkblefeifdhaaa.PWordPlaces
open Go.RowKit Go.Proofs.Ythkblefeifdhaaa.H Go.Proofs.Ythkblefeifdhaaa.R Go.Proofs.YthkblefeifdhaaaW.PrintWords Go.Proofs.YthkblefeifdhaaaW.PrintLast Go.Proofs.YthkblefeifdhaaaW.PrintMore
attribute [local go_sem] max2_int min2_int max_two min_two max_three min_three max_four min_four   -- for this text's walks alone
set_option linter.unusedVariables false
set_option linter.unusedSimpArgs false

/-- A state of type 127 at block g of W; what its slices lead to came in by w0. -/
def IsS127 (w0 W : World) (g : Nat) (f0 : ByteArray) (f1 : Int) : Prop := W.heap[g]? = some (.cells #[.string f0, .int .i64 f1] 127 (0, 0)) ∧ w0.heap.size ≤ g
theorem IsS127.grown {w0 W : World} {g : Nat} {f0 : ByteArray} {f1 : Int} {W1 : World} {row : Option Nat} (h : IsS127 w0 W g f0 f1) (hw : W.grownBy W1 row) (hne : some g ≠ row) : IsS127 w0 W1 g f0 f1 := by
  obtain ⟨hb, hg⟩ := h
  exact ⟨blk_grown hb hw hne, hg⟩
theorem IsS127.own_neN {w0 W : World} {g : Nat} {f0 : ByteArray} {f1 : Int} {α : Type} {d : Kd α} {e : Nat} {base : Nat} {ok : Nat → Prop} {v : Value} {xs : List α} (h : IsS127 w0 W g f0 f1) (ho : Kd.N d e W base ok v xs) (ht : e ≠ 127) : some g ≠ v.ownBlock := by
  obtain ⟨hb, hg⟩ := h
  exact Kd.N_ne ho hb ht
theorem IsS127.fresh {w0 W : World} {g : Nat} {f0 : ByteArray} {f1 : Int} (h : IsS127 w0 W g f0 f1) : ∀ k, W.heap.size ≤ k → k ≠ g := by
  obtain ⟨hb, hg⟩ := h
  exact Kd.freshB hb
theorem IsS127.kept {w0 W : World} {g : Nat} {f0 : ByteArray} {f1 : Int} {W1 : World} {S : Nat → Prop} (h : IsS127 w0 W g f0 f1) (hk : Kept W W1 S) (hne : ¬ S g) : IsS127 w0 W1 g f0 f1 := by
  obtain ⟨hb, hg⟩ := h
  exact ⟨blk_kept hb hk hne, hg⟩
theorem IsS127.below {w0 W : World} {g : Nat} {f0 : ByteArray} {f1 : Int} {W1 : World} (h : IsS127 w0 W g f0 f1) (hw : Below W.heap.size W W1) : IsS127 w0 W1 g f0 f1 := h.grown (grown_of_below hw none) (by simp)
theorem IsS127.alloc {w0 W : World} {g : Nat} {f0 : ByteArray} {f1 : Int} (h : IsS127 w0 W g f0 f1) (o : Obj) : IsS127 w0 (W.alloc o) g f0 f1 := h.below (below_alloc (Below.refl _ _) o)
theorem IsS127.drewN {w0 W : World} {g : Nat} {f0 : ByteArray} {f1 : Int} (h : IsS127 w0 W g f0 f1) (m : Nat) : IsS127 w0 (W.drewN m) g f0 f1 := h
theorem IsS127.drew {w0 W : World} {g : Nat} {f0 : ByteArray} {f1 : Int} (h : IsS127 w0 W g f0 f1) : IsS127 w0 W.drew g f0 f1 := h
theorem IsS127.at_ {w0 W : World} {g : Nat} {f0 : ByteArray} {f1 : Int} {w' : World} {m : Nat} (hq : W.drewN m = w') (h : IsS127 w0 W g f0 f1) : IsS127 w0 w' g f0 f1 := by subst hq; exact IsS127.drewN h m
theorem IsS127.apart {w0 W : World} {g : Nat} {f0 : ByteArray} {f1 : Int} {α : Type} {d : Kd α} {e : Nat} {base : Nat} {ok : Nat → Prop} {v : Value} {xs : List α} (h : IsS127 w0 W g f0 f1) (ho : d.R e W base ok v xs) (ht : ∀ q, q ∈ e :: d.E → q ≠ 127) : d.R e W base (fun k => ok k ∧ k ≠ g) v xs := by
  obtain ⟨hb, hg⟩ := h
  exact Kd.R_types ho hb ht
theorem IsS127.own_ne {w0 W : World} {g : Nat} {f0 : ByteArray} {f1 : Int} {α : Type} {d : Kd α} {e : Nat} {base : Nat} {ok : Nat → Prop} {v : Value} {xs : List α} (h : IsS127 w0 W g f0 f1) (ho : d.R e W base ok v xs) (ht : e ≠ 127) : some g ≠ v.ownBlock := by
  obtain ⟨hb, hg⟩ := h
  exact Kd.R_ne ho hb ht
theorem IsS127.apartQ {w0 W : World} {g : Nat} {f0 : ByteArray} {f1 : Int} {α : Type} {d : Kd α} {e : Nat} {base : Nat} {ok : Nat → Prop} {v : Value} {xs : List α} (h : IsS127 w0 W g f0 f1) (ho : d.Q e W base ok v xs) (ht : ∀ q, q ∈ e :: d.E → q ≠ 127) : d.Q e W base (fun k => ok k ∧ k ≠ g) v xs := by
  obtain ⟨hb, hg⟩ := h
  exact Kd.Q_types ho hb ht
theorem IsS127.own_neQ {w0 W : World} {g : Nat} {f0 : ByteArray} {f1 : Int} {α : Type} {d : Kd α} {e : Nat} {base : Nat} {ok : Nat → Prop} {v : Value} {xs : List α} (h : IsS127 w0 W g f0 f1) (ho : d.Q e W base ok v xs) (ht : e ≠ 127) : some g ≠ v.ownBlock := by
  obtain ⟨hb, hg⟩ := h
  exact Kd.Q_ne ho hb ht
theorem IsS127.apartS {w0 W : World} {g : Nat} {f0 : ByteArray} {f1 : Int} {α : Type} {d : Kd α} {e : Nat} {base : Nat} {ok : Nat → Prop} {v : Value} {xs : List α} (h : IsS127 w0 W g f0 f1) (ho : d.S e W base ok v xs) (ht : ∀ q, q ∈ e :: d.E → q ≠ 127) : d.S e W base (fun k => ok k ∧ k ≠ g) v xs := by
  obtain ⟨hb, hg⟩ := h
  exact Kd.S_types ho hb ht
theorem IsS127.own_neS {w0 W : World} {g : Nat} {f0 : ByteArray} {f1 : Int} {α : Type} {d : Kd α} {e : Nat} {base : Nat} {ok : Nat → Prop} {v : Value} {xs : List α} (h : IsS127 w0 W g f0 f1) (ho : d.S e W base ok v xs) (ht : e ≠ 127) : some g ≠ v.ownBlock := by
  obtain ⟨hb, hg⟩ := h
  exact Kd.S_ne ho hb ht
theorem IsS127.lt {w0 W : World} {g : Nat} {f0 : ByteArray} {f1 : Int} (h : IsS127 w0 W g f0 f1) : g < W.heap.size := by
  obtain ⟨hb, hg⟩ := h
  exact blk_lt hb
theorem IsS127.ge {w0 W : World} {g : Nat} {f0 : ByteArray} {f1 : Int} (h : IsS127 w0 W g f0 f1) : w0.heap.size ≤ g := by
  obtain ⟨hb, hg⟩ := h
  exact hg
theorem IsS127.ne_blk {w0 W : World} {g : Nat} {f0 : ByteArray} {f1 : Int} {a : Nat} {cs : Array Value} {t : TypeId} {fr : Nat × Nat} (h : IsS127 w0 W g f0 f1) (hb2 : W.heap[a]? = some (.cells cs t fr)) (ht : t ≠ 127) : g ≠ a := by
  obtain ⟨hb, hg⟩ := h
  rintro rfl
  rw [hb] at hb2
  injection hb2 with hb2
  injection hb2 with _ ht2
  exact ht ht2.symm
theorem IsS127.far {w0 W : World} {g : Nat} {f0 : ByteArray} {f1 : Int} {p : Addr} (h : IsS127 w0 W g f0 f1) (hne : g ≠ p.block) (u : Value) : IsS127 w0 (W.setCell p u) g f0 f1 := by
  obtain ⟨hb, hg⟩ := h
  exact ⟨blk_far hb hne u, hg⟩
theorem cellS127_0 {W : World} {g : Nat} {f0 : ByteArray} {f1 : Int} (h : W.heap[g]? = some (.cells #[.string f0, .int .i64 f1] 127 (0, 0))) : W.cell? ⟨g, 0, none⟩ = some (.string f0) := (blk_cell h 0).trans rfl
theorem IsS127.set_0 {w0 W : World} {g : Nat} {f0 : ByteArray} {f1 : Int} (h : IsS127 w0 W g f0 f1) (x : ByteArray) : IsS127 w0 (W.setCell ⟨g, 0, none⟩ (.string x)) g x f1 := by
  obtain ⟨hb, hg⟩ := h
  exact ⟨by simpa using blk_set hb 0 (.string x), hg⟩
theorem cellS127_1 {W : World} {g : Nat} {f0 : ByteArray} {f1 : Int} (h : W.heap[g]? = some (.cells #[.string f0, .int .i64 f1] 127 (0, 0))) : W.cell? ⟨g, 1, none⟩ = some (.int .i64 f1) := (blk_cell h 1).trans rfl
theorem IsS127.set_1 {w0 W : World} {g : Nat} {f0 : ByteArray} {f1 : Int} (h : IsS127 w0 W g f0 f1) (x : Int) : IsS127 w0 (W.setCell ⟨g, 1, none⟩ (.int .i64 x)) g f0 x := by
  obtain ⟨hb, hg⟩ := h
  exact ⟨by simpa using blk_set hb 1 (.int .i64 x), hg⟩
theorem IsS127.new (w0 W : World) (f0 : ByteArray) (f1 : Int) (hB : Below w0.heap.size w0 W) : IsS127 w0 (W.alloc (.cells #[.string f0, .int .i64 f1] 127)) W.heap.size f0 f1 := ⟨by simpa using heap_alloc_new W _, hB.size⟩

/-! ### goprompt_DocumentAt: function 89 -/
def goprompt_DocumentAt.f (a0 : ByteArray) (a1 : Int) : Option (ByteArray × Int) := some (a0, a1)
set_option maxHeartbeats 8000000 in
set_option maxRecDepth 100000 in
theorem goprompt_DocumentAt.calls (a0 : ByteArray) (a1 : Int) (r1 : ByteArray) (r2 : Int) (w0 w : World) (hB : Below w0.heap.size w0 w) (h : goprompt_DocumentAt.f a0 a1 = some (r1, r2)) :
    Calls Try.prog 89 #[.string a0, .int .i64 a1] w fun e w' => ∃ g_ : Nat, e = .returned (.pointer (some ⟨g_, 0, none⟩)) ∧ IsS127 w0 w' g_ r1 r2 ∧ Below w0.heap.size w0 w' ∧ Below w.heap.size w w' := by
  have hu127 := Try.underlying127
  have HBW := Aside0.mk (Below.refl w.heap.size w)
  have HW0 := Aside0.mk hB.size
  have HB := Aside0.mk hB
  clear hB
  have H : (some (a0, a1)) = some (r1, r2) := h
  clear h
  simp only [Option.some.injEq, Prod.mk.injEq] at H
  obtain ⟨rfl, rfl⟩ := H
  go_enter Try.func89, Try.ntmps89
  go_wp2_with (first | ((with_reducible refine gate_dst (N := 8) rfl ?_); refine box_event ?hg (N := 8) ?hd (cs := #[.string a0, .int .i64 a1]) (t := 127) ?hr ?_; (case hd => rfl); (case hg => rfl); (case hr => first | (go_simp; done) | (go_simp; rfl)); intro gb101 hg w3 hbox hb; have n0_ := Aside0.mk (below_step HBW.out hb); have n1_ := Aside0.mk (below_step (by repeat (first | (with_reducible first | exact HB.out | apply below_alloc | apply pw_below_drewN | apply below_drew1) | exact HB.out)) hb); have n2_ := Aside0.mk (hbox); have n3_ := Aside0.mk ((by rw [hg]; exact (below_size (by repeat (first | (with_reducible first | exact HBW.out | apply below_alloc | apply pw_below_drewN | apply below_drew1) | exact HBW.out))) : w.heap.size ≤ gb101)); have n4_ := Aside0.mk ((Nat.le_trans HW0.out (by rw [hg]; exact (below_size (by repeat (first | (with_reducible first | exact HBW.out | apply below_alloc | apply pw_below_drewN | apply below_drew1) | exact HBW.out))) : w.heap.size ≤ gb101) : w0.heap.size ≤ gb101)); clear HBW; clear HB; have HBW := n0_; have HB := n1_; have BK101 := n2_; have GW101 := n3_; have GE101 := n4_; clear n0_ n1_ n2_ n3_ n4_; clear hb hbox hg))
  go_ret
  exact ⟨_, rfl, (show IsS127 w0 _ gb101 a0 a1 from ⟨by (with_reducible repeat (first | refine blk_drewN ?_ _ | refine blk_drew ?_ | refine blk_alloc ?_ _)); exact BK101.out, GE101.out⟩), by repeat (first | (with_reducible first | exact HB.out | apply below_alloc | apply pw_below_drewN | apply below_drew1 | refine below_set ?_ GE101.out) | exact HB.out), by repeat (first | (with_reducible first | exact HBW.out | apply below_alloc | apply pw_below_drewN | apply below_drew1 | refine below_set ?_ GW101.out) | exact HBW.out)⟩

-- NOT PRINTED: function 62 (impl_document)

/-! ### goprompt_Document_TextBeforeCursor: function 90 -/
def goprompt_Document_TextBeforeCursor.f (s0_0 : ByteArray) (s0_1 : Int) : Option (ByteArray × ByteArray × Int) := if (runesOf s0_0).length ≤ 70368744177664 then ((some (runesOf s0_0 : List Int)).bind fun y102 => (if 0 ≤ s0_1 then (if s0_1 ≤ (y102.length : Int) then (some (runesBytes (y102.take (s0_1 : Int).toNat), s0_0, s0_1)) else (none)) else (none))) else (none)
set_option maxHeartbeats 8000000 in
set_option maxRecDepth 100000 in
theorem goprompt_Document_TextBeforeCursor.calls (g : Nat) (s0_0 : ByteArray) (s0_1 : Int) (r1 : ByteArray) (r2 : ByteArray) (r3 : Int) (w0 w : World) (hI : IsS127 w0 w g s0_0 s0_1) (hB : Below w0.heap.size w0 w) (h : goprompt_Document_TextBeforeCursor.f s0_0 s0_1 = some (r1, r2, r3)) :
    Calls Try.prog 90 #[.pointer (some ⟨g, 0, none⟩)] w fun e w' => e = .returned (.string r1) ∧ IsS127 w0 w' g r2 r3 ∧ Below w0.heap.size w0 w' ∧ KeepBut w w' g none := by
  have HI0 := Aside0.mk hI
  have HK := Aside0.mk (KeepBut.refl w g none)
  have HL := Aside0.mk hB.size
  clear hI
  have HW0 := Aside0.mk hB.size
  have HB := Aside0.mk hB
  clear hB
  have H : (if (runesOf s0_0).length ≤ 70368744177664 then ((some (runesOf s0_0 : List Int)).bind fun y102 => (if 0 ≤ s0_1 then (if s0_1 ≤ (y102.length : Int) then (some (runesBytes (y102.take (s0_1 : Int).toNat), s0_0, s0_1)) else (none)) else (none))) else (none)) = some (r1, r2, r3) := h
  clear h
  by_cases c2 : (runesOf s0_0).length ≤ 70368744177664
  · rw [if_pos c2] at H
    have c2b0 := eq_true c2
    have c2b1 : decide ((runesOf s0_0).length ≤ 70368744177664) = true := decide_eq_true c2
    clear c2
    obtain ⟨y102, hy102⟩ : ∃ y_ : List Int, y_ = (runesOf s0_0) := ⟨_, rfl⟩
    replace H : (if 0 ≤ s0_1 then (if s0_1 ≤ (y102.length : Int) then (some (runesBytes (y102.take (s0_1 : Int).toNat), s0_0, s0_1)) else (none)) else (none)) = some (r1, r2, r3) := by first | (rw [hy102]; with_reducible exact H) | (have H2_ := (Option.bind_some _ _).symm.trans H; rw [hy102]; with_reducible exact H2_) | (have H2_ := (Option.bind_some _ _).symm.trans H; with_reducible exact H2_) | with_reducible exact H | (rw [hy102]; exact H) | exact H
    have Ny102 := Aside0.mk hy102
    clear hy102
    by_cases c3 : 0 ≤ s0_1
    · rw [if_pos c3] at H
      have c3b0 := eq_true c3
      have c3b1 : decide (0 ≤ s0_1) = true := decide_eq_true c3
      clear c3
      by_cases c4 : s0_1 ≤ (y102.length : Int)
      · rw [if_pos c4] at H
        have c4b0 := eq_true c4
        have c4b1 : decide (s0_1 ≤ (y102.length : Int)) = true := decide_eq_true c4
        clear c4
        obtain ⟨y105, hy105⟩ : ∃ y_ : List Int, y_ = (y102.take (s0_1 : Int).toNat) := ⟨_, rfl⟩
        replace H : (some (runesBytes y105, s0_0, s0_1)) = some (r1, r2, r3) := by first | (rw [hy105]; with_reducible exact H) | (have H2_ := (Option.bind_some _ _).symm.trans H; rw [hy105]; with_reducible exact H2_) | (have H2_ := (Option.bind_some _ _).symm.trans H; with_reducible exact H2_) | with_reducible exact H | (rw [hy105]; exact H) | exact H
        have Ny105 := Aside0.mk hy105
        clear hy105
        simp only [Option.some.injEq, Prod.mk.injEq] at H
        obtain ⟨rfl, rfl, rfl⟩ := H
        obtain ⟨HGz5, hgz5⟩ := HI0.out
        have hcz5_0 := cellS127_0 HGz5
        have hcz5_1 := cellS127_1 HGz5
        have hfz5_0 := blk_frozen HGz5 0
        have hfz5_1 := blk_frozen HGz5 1
        clear HGz5 hgz5
        go_enter Try.func90, Try.ntmps90
        go_wp2_with (first | ((with_reducible refine gate_dst (N := 8) rfl ?_); refine R_runes _ 21 rfl (N := 8) rfl 9 85 _ rfl s0_0 rfl Try.underlying9 Try.underlying85 Try.underlying21 (ok := fun _ => True) (okp := fun _ => True) (fun _ hk => hk) trivial (of_decide_eq_true (by first | (with_reducible assumption) | assumption)) (Below.refl _ _) (Nat.le_refl _) ?_; intro v103 w6 ho7 hb hg_ hnew_; clear hg_ hnew_; (first | rw [← Ny102.out] at ho7 | (simp only [Int.reduceToNat] at ho7; rw [← Ny102.out] at ho7)); have n0_ := Aside0.mk (Kd.R_lower ho7 (keep_size (w := w) (g := g) (row := none) (by repeat (first | (with_reducible first | exact HK.out | apply KeepBut.set_ | apply keep_drewN | apply keep_drew | apply keep_alloc) | exact HK.out)))); have n1_ := Aside0.mk (IsS127.below (by repeat (first | (with_reducible first | exact HI0.out | apply IsS127.alloc | apply IsS127.drewN | apply IsS127.drew | apply IsS127.set_0 | apply IsS127.set_1) | exact HI0.out)) hb); have n2_ := Aside0.mk (KeepBut.trans (by repeat (first | (with_reducible first | exact HK.out | apply KeepBut.set_ | apply keep_drewN | apply keep_drew | apply keep_alloc) | exact HK.out)) (KeepBut.of_below hb g none) (.inl rfl)); have n3_ := Aside0.mk (below_step (by repeat (first | (with_reducible first | exact HB.out | apply below_alloc | apply pw_below_drewN | apply below_drew1 | refine below_set ?_ (IsS127.ge HI0.out)) | exact HB.out)) hb); clear HI0; clear HK; clear HB; have HO104 := n0_; have HI0 := n1_; have HK := n2_; have HB := n3_; clear n0_ n1_ n2_ n3_; clear hb ho7; obtain ⟨HGz8, hgz8⟩ := HI0.out; have hcz8_0 := cellS127_0 HGz8; have hcz8_1 := cellS127_1 HGz8; have hfz8_0 := blk_frozen HGz8 0; have hfz8_1 := blk_frozen HGz8 1; clear HGz8 hgz8; obtain ⟨Ao10, co10, eo10⟩ := Kd.R_slice HO104.out; subst eo10; have q9 : (s0_1 : Int) ≤ ((y102.length : Int) : Int) := of_decide_eq_true (by first | (with_reducible assumption) | assumption); obtain ⟨i09, hi09, _, hsz9, _⟩ := info_parts info21; have hroom9 : y102.length ≤ co10 := (Kd.R_reads' HO104.out).2.1; have hC9 : Kd.C (Kd.int .i32) _ Ao10 y102.length y102 := (Kd.R_reads' HO104.out).2.2; have hcut9 := cut_to (P := Try.prog) 85 21 .i64 Try.underlying85 hi09 Ao10 y102.length co10 s0_1 (of_decide_eq_true (by first | (with_reducible assumption) | assumption)) q9 hroom9; have hr9 := Kd.C_take (m := (s0_1 : Int).toNat) hC9 (by omega); have hy9 : y105.length = (s0_1 : Int).toNat := (by rw [Ny105.out, List.length_take]; omega); rw [← Ny105.out] at hr9; rw [← hy9] at hcut9; have HR108 := Aside0.mk hr9; have HC108 := Aside0.mk (show y105.length ≤ co10 from by omega); clear hr9 hC9 hroom9 hi09 hsz9; have KY9 := Aside0.mk hy9; clear hy9; have KL9 := Aside0.mk (show (s0_1 : Int).toNat ≤ y102.length from by omega); replace q9 := eq_true q9; have hcv11 := C_runes (P := Try.prog) (A := Ao10) (c := co10) Try.underlying85 Try.underlying21 Try.underlying9 (by repeat (first | (with_reducible exact HR108.out) | (with_reducible refine Kd.C_alloc ?_ _) | (with_reducible refine Kd.C_drewN ?_ _) | (with_reducible refine Kd.C_drew ?_) | exact HR108.out))))
        go_ret
        exact ⟨by first | rfl | (simp [errW_none, errW_some] <;> rfl) | (simp [*, errW_none, errW_some] <;> rfl), by repeat (first | (with_reducible first | exact HI0.out | apply IsS127.alloc | apply IsS127.drewN | apply IsS127.drew | apply IsS127.set_0 | apply IsS127.set_1) | exact HI0.out), by repeat (first | (with_reducible first | exact HB.out | apply below_alloc | apply pw_below_drewN | apply below_drew1 | refine below_set ?_ (IsS127.ge HI0.out)) | exact HB.out), by repeat (first | (with_reducible first | exact HK.out | apply KeepBut.set_ | apply keep_drewN | apply keep_drew | apply keep_alloc) | exact HK.out)⟩
      · rw [if_neg c4] at H
        exact absurd H (by simp)
    · rw [if_neg c3] at H
      exact absurd H (by simp)
  · rw [if_neg c2] at H
    exact absurd H (by simp)

/-! ### bytealg_LastIndexByteString: function 106 -/
def bytealg_LastIndexByteString.l0 : Nat → ByteArray → Int → Int → Option (Int)
  | 0, _, _, _ => none
  | k + 1, x0, x1, x5 => if x5 ≥ 0 then (if 0 ≤ x5 then (if x5 < (x0.size : Int) then (if (bt x0 x5) = x1 then (some x5) else (bytealg_LastIndexByteString.l0 k x0 x1 (wrap64 (x5 - 1)))) else (none)) else (none)) else (some (-1))
def bytealg_LastIndexByteString.f (k : Nat) (a0 : ByteArray) (a1 : Int) : Option (Int) := bytealg_LastIndexByteString.l0 k a0 a1 (wrap64 ((a0.size : Int) - 1))
theorem bytealg_LastIndexByteString.mono_l : ∀ k, (∀ y0 y1 y2, LeO (bytealg_LastIndexByteString.l0 k y0 y1 y2) (bytealg_LastIndexByteString.l0 (k + 1) y0 y1 y2))
  | 0 => fun _ _ _ r h => by simp [bytealg_LastIndexByteString.l0] at h
  | k + 1 => by
    have ih0 := bytealg_LastIndexByteString.mono_l k
    · intro y0 y1 y2
      unfold bytealg_LastIndexByteString.l0
      repeat' first
      | (with_reducible exact ih0 _ _ _)
      | (with_reducible exact LeO.refl _)
      | (with_reducible exact LeO.none _)
      | (with_reducible refine LeO.ite ?_ ?_)
      | (with_reducible refine LeO.bind ?_ (fun _ => ?_))
      | exact ih0 _ _ _
      | exact LeO.none _
      | refine LeO.ite ?_ ?_
      | refine LeO.bind ?_ (fun _ => ?_)
theorem bytealg_LastIndexByteString.mono : ∀ a0 a1 k, LeO (bytealg_LastIndexByteString.f k a0 a1) (bytealg_LastIndexByteString.f (k + 1) a0 a1) := by
  intro a0 a1 k
  have ih0 := bytealg_LastIndexByteString.mono_l k
  unfold bytealg_LastIndexByteString.f
  repeat' first
      | (with_reducible exact ih0 _ _ _)
      | (with_reducible exact LeO.refl _)
      | (with_reducible exact LeO.none _)
      | (with_reducible refine LeO.ite ?_ ?_)
      | (with_reducible refine LeO.bind ?_ (fun _ => ?_))
      | exact ih0 _ _ _
      | exact LeO.none _
      | refine LeO.ite ?_ ?_
      | refine LeO.bind ?_ (fun _ => ?_)
set_option maxHeartbeats 8000000 in
set_option maxRecDepth 100000 in
theorem bytealg_LastIndexByteString.calls (k : Nat) (a0 : ByteArray) (a1 : Int) (r : Int) (w : World) (h : bytealg_LastIndexByteString.f k a0 a1 = some r) :
    Calls Try.prog 106 #[.string a0, .int .u8 a1] w fun e w' => e = .returned (.int .i64 r) ∧ Drawn0 w w' := by
  have H : (bytealg_LastIndexByteString.l0 k a0 a1 (wrap64 ((a0.size : Int) - 1))) = some r := h
  clear h
  have H' := Aside0.mk H
  clear H
  go_enter Try.func106, Try.ntmps106
  go_wp2
  go_loopg [5] k (fun kq v5 w' => ∃ (x5_1 : Int), v5 = .int .i64 x5_1 ∧ Aside0 (bytealg_LastIndexByteString.l0 kq a0 a1 x5_1 = some r) ∧ Aside0 (kq ≤ k) ∧ Drawn0 w w')
  case atStart => exact ⟨(wrap64 ((a0.size : Int) - 1)), (by first | rfl | (simp; done) | (simp [*]; done)), H', ⟨Nat.le_refl _⟩, by repeat (first | exact Drawn0.refl _ | apply Drawn0.step)⟩
  case round =>
    clear H'
    try clear c1
    try clear p2
    obtain ⟨x5_1, rfl, HA, HK1, ⟨m1, rfl⟩⟩ := hrel
    cases gk with
    | zero => exact absurd HA.out (by simp [bytealg_LastIndexByteString.l0])
    | succ k1 =>
      have H := HA.out
      clear HA
      simp only [bytealg_LastIndexByteString.l0] at H
      by_cases c3 : x5_1 ≥ 0
      · rw [if_pos c3] at H
        have c3b0 : decide (0 ≤ x5_1) = true := decide_eq_true c3
        clear c3
        by_cases c4 : 0 ≤ x5_1
        · rw [if_pos c4] at H
          have c4b0 : decide (0 ≤ x5_1) = true := decide_eq_true c4
          clear c4
          by_cases c5 : x5_1 < (a0.size : Int)
          · rw [if_pos c5] at H
            have c5b0 : decide (x5_1 < (a0.size : Int)) = true := decide_eq_true c5
            clear c5
            by_cases c7 : (bt a0 x5_1) = a1
            · rw [if_pos c7] at H
              have c7b0 : ((bt a0 x5_1) == a1) = true := beq_iff_eq.mpr c7
              have c7b1 : ((bt a0 x5_1) != a1) = false := bne_eq_false_iff_eq.mpr c7
              clear c7
              obtain rfl := Option.some.inj H
              have p6 : 0 ≤ (x5_1 : Int) := of_decide_eq_true (by first | (with_reducible assumption) | assumption)
              have q6 : x5_1 < (a0.size : Int) := of_decide_eq_true (by first | (with_reducible assumption) | assumption)
              have hx6 := bt_at a0 x5_1
              replace p6 := eq_true p6
              replace q6 := eq_true q6
              go_wp2
              go_ret
              exact ⟨by first | rfl | (simp; done) | (simp [*]; done), by repeat (first | exact Drawn0.refl _ | apply Drawn0.step)⟩
            · rw [if_neg c7] at H
              have c7b0 : ((bt a0 x5_1) == a1) = false := beq_eq_false_iff_ne.mpr c7
              have c7b1 : ((bt a0 x5_1) != a1) = true := bne_iff_ne.mpr c7
              have H' := Aside0.mk H
              clear H
              have p6 : 0 ≤ (x5_1 : Int) := of_decide_eq_true (by first | (with_reducible assumption) | assumption)
              have q6 : x5_1 < (a0.size : Int) := of_decide_eq_true (by first | (with_reducible assumption) | assumption)
              have hx6 := bt_at a0 x5_1
              replace p6 := eq_true p6
              replace q6 := eq_true q6
              go_wp2
              go_roundg k1
              case measure => have := HK1.out; omega
              case rel => exact ⟨(wrap64 (x5_1 - 1)), (by first | rfl | (simp; done) | (simp [*]; done)), H', ⟨by have := HK1.out; omega⟩, by repeat (first | exact Drawn0.refl _ | apply Drawn0.step)⟩
          · rw [if_neg c5] at H
            exact absurd H (by simp)
        · rw [if_neg c4] at H
          exact absurd H (by simp)
      · rw [if_neg c3] at H
        have c3b0 : decide (0 ≤ x5_1) = false := decide_eq_false c3
        clear c3
        obtain rfl := Option.some.inj H
        go_wp2
        go_ret
        exact ⟨by first | rfl | (simp; done) | (simp [*]; done), by repeat (first | exact Drawn0.refl _ | apply Drawn0.step)⟩

/-! ### strings_LastIndexByte: function 91 -/
def strings_LastIndexByte.f (k : Nat) (a0 : ByteArray) (a1 : Int) : Option (Int) := (bytealg_LastIndexByteString.f k a0 a1).bind fun t109 => (some t109)
theorem strings_LastIndexByte.mono : ∀ a0 a1 k, LeO (strings_LastIndexByte.f k a0 a1) (strings_LastIndexByte.f (k + 1) a0 a1) := by
  intro a0 a1 k
  unfold strings_LastIndexByte.f
  repeat' first
      | (with_reducible exact bytealg_LastIndexByteString.mono _ _ _)
      | (with_reducible exact LeO.refl _)
      | (with_reducible exact LeO.none _)
      | (with_reducible refine LeO.ite ?_ ?_)
      | (with_reducible refine LeO.bind ?_ (fun _ => ?_))
      | exact bytealg_LastIndexByteString.mono _ _ _
      | exact LeO.none _
      | refine LeO.ite ?_ ?_
      | refine LeO.bind ?_ (fun _ => ?_)
set_option maxHeartbeats 8000000 in
set_option maxRecDepth 100000 in
theorem strings_LastIndexByte.calls (k : Nat) (a0 : ByteArray) (a1 : Int) (r : Int) (w : World) (h : strings_LastIndexByte.f k a0 a1 = some r) :
    Calls Try.prog 91 #[.string a0, .int .u8 a1] w fun e w' => e = .returned (.int .i64 r) ∧ Drawn0 w w' := by
  have H : ((bytealg_LastIndexByteString.f k a0 a1).bind fun t109 => (some t109)) = some r := h
  clear h
  replace H := Option.bind_eq_some_iff.mp H
  obtain ⟨t109, A30, H⟩ := H
  replace H : (some t109) = some r := H
  have A3 := Aside0.mk A30
  clear A30
  obtain rfl := Option.some.inj H
  go_enter Try.func91, Try.ntmps91
  go_wp2_with (first | ((with_reducible refine gate_callee (f := 106) rfl ?_); refine goesL_ (some 7) rfl rfl Try.func106 (by kernel_rfl) rfl #[.string a0, .int .u8 a1] rfl (by (try simp only [List.map_toArray, List.map_cons, List.map_nil]); first | done | rfl | (simp only [List.length_drop, List.length_take]; rfl)) ?_; (with_reducible refine (bytealg_LastIndexByteString.calls k a0 a1 t109 _ A3.out).mono ?_); rintro e w' ⟨rfl, ⟨nd, rfl⟩⟩; refine ⟨_, rfl, ?_⟩))
  go_ret
  exact ⟨by first | rfl | (simp; done) | (simp [*]; done), by repeat (first | exact Drawn0.refl _ | apply Drawn0.step)⟩

/-! ### goprompt_Document_FindStartOfPreviousWord: function 63 -/
def goprompt_Document_FindStartOfPreviousWord.f (k : Nat) (s0_0 : ByteArray) (s0_1 : Int) : Option (Int × ByteArray × Int) := (goprompt_Document_TextBeforeCursor.f s0_0 s0_1).bind fun bt110 => ((strings_LastIndexByte.f k bt110.1 32).bind fun t113 => (if t113 = (-1) then (some (0, bt110.2.1, bt110.2.2)) else (some (wrap64 (t113 + 1), bt110.2.1, bt110.2.2))))
theorem goprompt_Document_FindStartOfPreviousWord.mono : ∀ a0 a1 k, LeO (goprompt_Document_FindStartOfPreviousWord.f k a0 a1) (goprompt_Document_FindStartOfPreviousWord.f (k + 1) a0 a1) := by
  intro a0 a1 k
  unfold goprompt_Document_FindStartOfPreviousWord.f
  repeat' first
      | (with_reducible exact strings_LastIndexByte.mono _ _ _)
      | (with_reducible exact LeO.refl _)
      | (with_reducible exact LeO.none _)
      | (with_reducible refine LeO.ite ?_ ?_)
      | (with_reducible refine LeO.bind ?_ (fun _ => ?_))
      | exact strings_LastIndexByte.mono _ _ _
      | exact LeO.none _
      | refine LeO.ite ?_ ?_
      | refine LeO.bind ?_ (fun _ => ?_)
set_option maxHeartbeats 8000000 in
set_option maxRecDepth 100000 in
theorem goprompt_Document_FindStartOfPreviousWord.calls (k : Nat) (g : Nat) (s0_0 : ByteArray) (s0_1 : Int) (r1 : Int) (r2 : ByteArray) (r3 : Int) (w0 w : World) (hI : IsS127 w0 w g s0_0 s0_1) (hB : Below w0.heap.size w0 w) (h : goprompt_Document_FindStartOfPreviousWord.f k s0_0 s0_1 = some (r1, r2, r3)) :
    Calls Try.prog 63 #[.pointer (some ⟨g, 0, none⟩)] w fun e w' => e = .returned (.int .i64 r1) ∧ IsS127 w0 w' g r2 r3 ∧ Below w0.heap.size w0 w' ∧ KeepBut w w' g none := by
  have HI0 := Aside0.mk hI
  have HK := Aside0.mk (KeepBut.refl w g none)
  have HL := Aside0.mk hB.size
  clear hI
  have HW0 := Aside0.mk hB.size
  have HB := Aside0.mk hB
  clear hB
  have H : ((goprompt_Document_TextBeforeCursor.f s0_0 s0_1).bind fun bt110 => ((strings_LastIndexByte.f k bt110.1 32).bind fun t113 => (if t113 = (-1) then (some (0, bt110.2.1, bt110.2.2)) else (some (wrap64 (t113 + 1), bt110.2.1, bt110.2.2))))) = some (r1, r2, r3) := h
  clear h
  replace H := Option.bind_eq_some_iff.mp H
  obtain ⟨⟨t110, t111, t112⟩, A20, H⟩ := H
  replace H : ((strings_LastIndexByte.f k t110 32).bind fun t113 => (if t113 = (-1) then (some (0, t111, t112)) else (some (wrap64 (t113 + 1), t111, t112)))) = some (r1, r2, r3) := H
  have A2 := Aside0.mk A20
  clear A20
  replace H := Option.bind_eq_some_iff.mp H
  obtain ⟨t113, A30, H⟩ := H
  replace H : (if t113 = (-1) then (some (0, t111, t112)) else (some (wrap64 (t113 + 1), t111, t112))) = some (r1, r2, r3) := H
  have A3 := Aside0.mk A30
  clear A30
  by_cases c4 : t113 = (-1)
  · rw [if_pos c4] at H
    have c4b0 : (t113 == (-1)) = true := beq_iff_eq.mpr c4
    have c4b1 : (t113 != (-1)) = false := bne_eq_false_iff_eq.mpr c4
    clear c4
    simp only [Option.some.injEq, Prod.mk.injEq] at H
    obtain ⟨rfl, rfl, rfl⟩ := H
    go_enter Try.func63, Try.ntmps63
    go_wp2_with (first | ((with_reducible refine gate_callee (f := 90) rfl ?_); refine goesL_ (some 6) rfl rfl Try.func90 (by kernel_rfl) rfl #[.pointer (some ⟨g, 0, none⟩)] rfl (by (try simp only [List.map_toArray, List.map_cons, List.map_nil]); first | done | rfl | (simp only [List.length_drop, List.length_take]; rfl)) ?_; (with_reducible refine (goprompt_Document_TextBeforeCursor.calls g s0_0 s0_1 t110 t111 t112 w0 _ ?side1 ?side2 A2.out).mono ?_); (case side1 => repeat (first | (with_reducible first | exact HI0.out | apply IsS127.alloc | apply IsS127.drewN | apply IsS127.drew | apply IsS127.set_0 | apply IsS127.set_1) | exact HI0.out)); (case side2 => repeat (first | (with_reducible first | exact HB.out | apply below_alloc | apply pw_below_drewN | apply below_drew1 | refine below_set ?_ (IsS127.ge HI0.out)) | exact HB.out)); rintro e w5 ⟨rfl, hi, hb, hk⟩; refine ⟨_, rfl, ?_⟩; have n0_ := Aside0.mk (KeepBut.trans (by repeat (first | (with_reducible first | exact HK.out | apply KeepBut.set_ | apply keep_drewN | apply keep_drew | apply keep_alloc) | exact HK.out)) hk (.inl rfl)); have n1_ := Aside0.mk (hb); have n2_ := Aside0.mk (hi); clear HK; clear HB; clear HI0; have HK := n0_; have HB := n1_; have HI0 := n2_; clear n0_ n1_ n2_; (try clear hb); (try clear hb2); (try clear hk); (try clear hi)) | ((with_reducible refine gate_callee (f := 91) rfl ?_); refine goesL_ (some 8) rfl rfl Try.func91 (by kernel_rfl) rfl #[.string t110, .int .u8 32] rfl (by (try simp only [List.map_toArray, List.map_cons, List.map_nil]); first | done | rfl | (simp only [List.length_drop, List.length_take]; rfl)) ?_; (with_reducible refine (strings_LastIndexByte.calls k t110 32 t113 _ A3.out).mono ?_); rintro e w' ⟨rfl, ⟨nd, rfl⟩⟩; refine ⟨_, rfl, ?_⟩))
    go_ret
    exact ⟨by first | rfl | (simp [errW_none, errW_some] <;> rfl) | (simp [*, errW_none, errW_some] <;> rfl), by repeat (first | (with_reducible first | exact HI0.out | apply IsS127.alloc | apply IsS127.drewN | apply IsS127.drew | apply IsS127.set_0 | apply IsS127.set_1) | exact HI0.out), by repeat (first | (with_reducible first | exact HB.out | apply below_alloc | apply pw_below_drewN | apply below_drew1 | refine below_set ?_ (IsS127.ge HI0.out)) | exact HB.out), by repeat (first | (with_reducible first | exact HK.out | apply KeepBut.set_ | apply keep_drewN | apply keep_drew | apply keep_alloc) | exact HK.out)⟩
  · rw [if_neg c4] at H
    have c4b0 : (t113 == (-1)) = false := beq_eq_false_iff_ne.mpr c4
    have c4b1 : (t113 != (-1)) = true := bne_iff_ne.mpr c4
    simp only [Option.some.injEq, Prod.mk.injEq] at H
    obtain ⟨rfl, rfl, rfl⟩ := H
    go_enter Try.func63, Try.ntmps63
    go_wp2_with (first | ((with_reducible refine gate_callee (f := 90) rfl ?_); refine goesL_ (some 6) rfl rfl Try.func90 (by kernel_rfl) rfl #[.pointer (some ⟨g, 0, none⟩)] rfl (by (try simp only [List.map_toArray, List.map_cons, List.map_nil]); first | done | rfl | (simp only [List.length_drop, List.length_take]; rfl)) ?_; (with_reducible refine (goprompt_Document_TextBeforeCursor.calls g s0_0 s0_1 t110 t111 t112 w0 _ ?side1 ?side2 A2.out).mono ?_); (case side1 => repeat (first | (with_reducible first | exact HI0.out | apply IsS127.alloc | apply IsS127.drewN | apply IsS127.drew | apply IsS127.set_0 | apply IsS127.set_1) | exact HI0.out)); (case side2 => repeat (first | (with_reducible first | exact HB.out | apply below_alloc | apply pw_below_drewN | apply below_drew1 | refine below_set ?_ (IsS127.ge HI0.out)) | exact HB.out)); rintro e w6 ⟨rfl, hi, hb, hk⟩; refine ⟨_, rfl, ?_⟩; have n0_ := Aside0.mk (KeepBut.trans (by repeat (first | (with_reducible first | exact HK.out | apply KeepBut.set_ | apply keep_drewN | apply keep_drew | apply keep_alloc) | exact HK.out)) hk (.inl rfl)); have n1_ := Aside0.mk (hb); have n2_ := Aside0.mk (hi); clear HK; clear HB; clear HI0; have HK := n0_; have HB := n1_; have HI0 := n2_; clear n0_ n1_ n2_; (try clear hb); (try clear hb2); (try clear hk); (try clear hi)) | ((with_reducible refine gate_callee (f := 91) rfl ?_); refine goesL_ (some 8) rfl rfl Try.func91 (by kernel_rfl) rfl #[.string t110, .int .u8 32] rfl (by (try simp only [List.map_toArray, List.map_cons, List.map_nil]); first | done | rfl | (simp only [List.length_drop, List.length_take]; rfl)) ?_; (with_reducible refine (strings_LastIndexByte.calls k t110 32 t113 _ A3.out).mono ?_); rintro e w' ⟨rfl, ⟨nd, rfl⟩⟩; refine ⟨_, rfl, ?_⟩))
    go_ret
    exact ⟨by first | rfl | (simp [errW_none, errW_some] <;> rfl) | (simp [*, errW_none, errW_some] <;> rfl), by repeat (first | (with_reducible first | exact HI0.out | apply IsS127.alloc | apply IsS127.drewN | apply IsS127.drew | apply IsS127.set_0 | apply IsS127.set_1) | exact HI0.out), by repeat (first | (with_reducible first | exact HB.out | apply below_alloc | apply pw_below_drewN | apply below_drew1 | refine below_set ?_ (IsS127.ge HI0.out)) | exact HB.out), by repeat (first | (with_reducible first | exact HK.out | apply KeepBut.set_ | apply keep_drewN | apply keep_drew | apply keep_alloc) | exact HK.out)⟩

/-! ### strings_LastIndexNotByte: function 92 -/
def strings_LastIndexNotByte.l0 : Nat → ByteArray → Int → Int → Option (Int)
  | 0, _, _, _ => none
  | k + 1, x0, x1, x5 => if x5 ≥ 0 then (if 0 ≤ x5 then (if x5 < (x0.size : Int) then (if (bt x0 x5) = x1 then (strings_LastIndexNotByte.l0 k x0 x1 (wrap64 (x5 - 1))) else (some x5)) else (none)) else (none)) else (some (-1))
def strings_LastIndexNotByte.f (k : Nat) (a0 : ByteArray) (a1 : Int) : Option (Int) := strings_LastIndexNotByte.l0 k a0 a1 (wrap64 ((a0.size : Int) - 1))
theorem strings_LastIndexNotByte.mono_l : ∀ k, (∀ y0 y1 y2, LeO (strings_LastIndexNotByte.l0 k y0 y1 y2) (strings_LastIndexNotByte.l0 (k + 1) y0 y1 y2))
  | 0 => fun _ _ _ r h => by simp [strings_LastIndexNotByte.l0] at h
  | k + 1 => by
    have ih0 := strings_LastIndexNotByte.mono_l k
    · intro y0 y1 y2
      unfold strings_LastIndexNotByte.l0
      repeat' first
      | (with_reducible exact ih0 _ _ _)
      | (with_reducible exact LeO.refl _)
      | (with_reducible exact LeO.none _)
      | (with_reducible refine LeO.ite ?_ ?_)
      | (with_reducible refine LeO.bind ?_ (fun _ => ?_))
      | exact ih0 _ _ _
      | exact LeO.none _
      | refine LeO.ite ?_ ?_
      | refine LeO.bind ?_ (fun _ => ?_)
theorem strings_LastIndexNotByte.mono : ∀ a0 a1 k, LeO (strings_LastIndexNotByte.f k a0 a1) (strings_LastIndexNotByte.f (k + 1) a0 a1) := by
  intro a0 a1 k
  have ih0 := strings_LastIndexNotByte.mono_l k
  unfold strings_LastIndexNotByte.f
  repeat' first
      | (with_reducible exact ih0 _ _ _)
      | (with_reducible exact LeO.refl _)
      | (with_reducible exact LeO.none _)
      | (with_reducible refine LeO.ite ?_ ?_)
      | (with_reducible refine LeO.bind ?_ (fun _ => ?_))
      | exact ih0 _ _ _
      | exact LeO.none _
      | refine LeO.ite ?_ ?_
      | refine LeO.bind ?_ (fun _ => ?_)
set_option maxHeartbeats 8000000 in
set_option maxRecDepth 100000 in
theorem strings_LastIndexNotByte.calls (k : Nat) (a0 : ByteArray) (a1 : Int) (r : Int) (w : World) (h : strings_LastIndexNotByte.f k a0 a1 = some r) :
    Calls Try.prog 92 #[.string a0, .int .u8 a1] w fun e w' => e = .returned (.int .i64 r) ∧ Drawn0 w w' := by
  have H : (strings_LastIndexNotByte.l0 k a0 a1 (wrap64 ((a0.size : Int) - 1))) = some r := h
  clear h
  have H' := Aside0.mk H
  clear H
  go_enter Try.func92, Try.ntmps92
  go_wp2
  go_loopg [5] k (fun kq v5 w' => ∃ (x5_1 : Int), v5 = .int .i64 x5_1 ∧ Aside0 (strings_LastIndexNotByte.l0 kq a0 a1 x5_1 = some r) ∧ Aside0 (kq ≤ k) ∧ Drawn0 w w')
  case atStart => exact ⟨(wrap64 ((a0.size : Int) - 1)), (by first | rfl | (simp; done) | (simp [*]; done)), H', ⟨Nat.le_refl _⟩, by repeat (first | exact Drawn0.refl _ | apply Drawn0.step)⟩
  case round =>
    clear H'
    try clear p2
    obtain ⟨x5_1, rfl, HA, HK1, ⟨m1, rfl⟩⟩ := hrel
    cases gk with
    | zero => exact absurd HA.out (by simp [strings_LastIndexNotByte.l0])
    | succ k1 =>
      have H := HA.out
      clear HA
      simp only [strings_LastIndexNotByte.l0] at H
      by_cases c3 : x5_1 ≥ 0
      · rw [if_pos c3] at H
        have c3b0 : decide (0 ≤ x5_1) = true := decide_eq_true c3
        clear c3
        by_cases c4 : 0 ≤ x5_1
        · rw [if_pos c4] at H
          have c4b0 : decide (0 ≤ x5_1) = true := decide_eq_true c4
          clear c4
          by_cases c5 : x5_1 < (a0.size : Int)
          · rw [if_pos c5] at H
            have c5b0 : decide (x5_1 < (a0.size : Int)) = true := decide_eq_true c5
            clear c5
            by_cases c7 : (bt a0 x5_1) = a1
            · rw [if_pos c7] at H
              have c7b0 : ((bt a0 x5_1) == a1) = true := beq_iff_eq.mpr c7
              have c7b1 : ((bt a0 x5_1) != a1) = false := bne_eq_false_iff_eq.mpr c7
              clear c7
              have H' := Aside0.mk H
              clear H
              have p6 : 0 ≤ (x5_1 : Int) := of_decide_eq_true (by first | (with_reducible assumption) | assumption)
              have q6 : x5_1 < (a0.size : Int) := of_decide_eq_true (by first | (with_reducible assumption) | assumption)
              have hx6 := bt_at a0 x5_1
              replace p6 := eq_true p6
              replace q6 := eq_true q6
              go_wp2
              go_roundg k1
              case measure => have := HK1.out; omega
              case rel => exact ⟨(wrap64 (x5_1 - 1)), (by first | rfl | (simp; done) | (simp [*]; done)), H', ⟨by have := HK1.out; omega⟩, by repeat (first | exact Drawn0.refl _ | apply Drawn0.step)⟩
            · rw [if_neg c7] at H
              have c7b0 : ((bt a0 x5_1) == a1) = false := beq_eq_false_iff_ne.mpr c7
              have c7b1 : ((bt a0 x5_1) != a1) = true := bne_iff_ne.mpr c7
              obtain rfl := Option.some.inj H
              have p6 : 0 ≤ (x5_1 : Int) := of_decide_eq_true (by first | (with_reducible assumption) | assumption)
              have q6 : x5_1 < (a0.size : Int) := of_decide_eq_true (by first | (with_reducible assumption) | assumption)
              have hx6 := bt_at a0 x5_1
              replace p6 := eq_true p6
              replace q6 := eq_true q6
              go_wp2
              go_ret
              exact ⟨by first | rfl | (simp; done) | (simp [*]; done), by repeat (first | exact Drawn0.refl _ | apply Drawn0.step)⟩
          · rw [if_neg c5] at H
            exact absurd H (by simp)
        · rw [if_neg c4] at H
          exact absurd H (by simp)
      · rw [if_neg c3] at H
        have c3b0 : decide (0 ≤ x5_1) = false := decide_eq_false c3
        clear c3
        obtain rfl := Option.some.inj H
        go_wp2
        go_ret
        exact ⟨by first | rfl | (simp; done) | (simp [*]; done), by repeat (first | exact Drawn0.refl _ | apply Drawn0.step)⟩

/-! ### goprompt_Document_FindStartOfPreviousWordWithSpace: function 64 -/
def goprompt_Document_FindStartOfPreviousWordWithSpace.f (k : Nat) (s0_0 : ByteArray) (s0_1 : Int) : Option (Int × ByteArray × Int) := (goprompt_Document_TextBeforeCursor.f s0_0 s0_1).bind fun bt114 => ((strings_LastIndexNotByte.f k bt114.1 32).bind fun t117 => (if t117 = (-1) then (some (0, bt114.2.1, bt114.2.2)) else (if 0 ≤ t117 then (if t117 ≤ (bt114.1.size : Int) then ((strings_LastIndexByte.f k (bt114.1.extract 0 (t117 : Int).toNat) 32).bind fun t118 => (if t118 = (-1) then (some (0, bt114.2.1, bt114.2.2)) else (some (wrap64 (t118 + 1), bt114.2.1, bt114.2.2)))) else (none)) else (none))))
theorem goprompt_Document_FindStartOfPreviousWordWithSpace.mono : ∀ a0 a1 k, LeO (goprompt_Document_FindStartOfPreviousWordWithSpace.f k a0 a1) (goprompt_Document_FindStartOfPreviousWordWithSpace.f (k + 1) a0 a1) := by
  intro a0 a1 k
  unfold goprompt_Document_FindStartOfPreviousWordWithSpace.f
  repeat' first
      | (with_reducible exact strings_LastIndexByte.mono _ _ _)
      | (with_reducible exact strings_LastIndexNotByte.mono _ _ _)
      | (with_reducible exact LeO.refl _)
      | (with_reducible exact LeO.none _)
      | (with_reducible refine LeO.ite ?_ ?_)
      | (with_reducible refine LeO.bind ?_ (fun _ => ?_))
      | exact strings_LastIndexByte.mono _ _ _
      | exact strings_LastIndexNotByte.mono _ _ _
      | exact LeO.none _
      | refine LeO.ite ?_ ?_
      | refine LeO.bind ?_ (fun _ => ?_)
set_option maxHeartbeats 8000000 in
set_option maxRecDepth 100000 in
theorem goprompt_Document_FindStartOfPreviousWordWithSpace.calls (k : Nat) (g : Nat) (s0_0 : ByteArray) (s0_1 : Int) (r1 : Int) (r2 : ByteArray) (r3 : Int) (w0 w : World) (hI : IsS127 w0 w g s0_0 s0_1) (hB : Below w0.heap.size w0 w) (h : goprompt_Document_FindStartOfPreviousWordWithSpace.f k s0_0 s0_1 = some (r1, r2, r3)) :
    Calls Try.prog 64 #[.pointer (some ⟨g, 0, none⟩)] w fun e w' => e = .returned (.int .i64 r1) ∧ IsS127 w0 w' g r2 r3 ∧ Below w0.heap.size w0 w' ∧ KeepBut w w' g none := by
  have HI0 := Aside0.mk hI
  have HK := Aside0.mk (KeepBut.refl w g none)
  have HL := Aside0.mk hB.size
  clear hI
  have HW0 := Aside0.mk hB.size
  have HB := Aside0.mk hB
  clear hB
  have H : ((goprompt_Document_TextBeforeCursor.f s0_0 s0_1).bind fun bt114 => ((strings_LastIndexNotByte.f k bt114.1 32).bind fun t117 => (if t117 = (-1) then (some (0, bt114.2.1, bt114.2.2)) else (if 0 ≤ t117 then (if t117 ≤ (bt114.1.size : Int) then ((strings_LastIndexByte.f k (bt114.1.extract 0 (t117 : Int).toNat) 32).bind fun t118 => (if t118 = (-1) then (some (0, bt114.2.1, bt114.2.2)) else (some (wrap64 (t118 + 1), bt114.2.1, bt114.2.2)))) else (none)) else (none))))) = some (r1, r2, r3) := h
  clear h
  replace H := Option.bind_eq_some_iff.mp H
  obtain ⟨⟨t114, t115, t116⟩, A20, H⟩ := H
  replace H : ((strings_LastIndexNotByte.f k t114 32).bind fun t117 => (if t117 = (-1) then (some (0, t115, t116)) else (if 0 ≤ t117 then (if t117 ≤ (t114.size : Int) then ((strings_LastIndexByte.f k (t114.extract 0 (t117 : Int).toNat) 32).bind fun t118 => (if t118 = (-1) then (some (0, t115, t116)) else (some (wrap64 (t118 + 1), t115, t116)))) else (none)) else (none)))) = some (r1, r2, r3) := H
  have A2 := Aside0.mk A20
  clear A20
  replace H := Option.bind_eq_some_iff.mp H
  obtain ⟨t117, A30, H⟩ := H
  replace H : (if t117 = (-1) then (some (0, t115, t116)) else (if 0 ≤ t117 then (if t117 ≤ (t114.size : Int) then ((strings_LastIndexByte.f k (t114.extract 0 (t117 : Int).toNat) 32).bind fun t118 => (if t118 = (-1) then (some (0, t115, t116)) else (some (wrap64 (t118 + 1), t115, t116)))) else (none)) else (none))) = some (r1, r2, r3) := H
  have A3 := Aside0.mk A30
  clear A30
  by_cases c4 : t117 = (-1)
  · rw [if_pos c4] at H
    have c4b0 : (t117 == (-1)) = true := beq_iff_eq.mpr c4
    have c4b1 : (t117 != (-1)) = false := bne_eq_false_iff_eq.mpr c4
    clear c4
    simp only [Option.some.injEq, Prod.mk.injEq] at H
    obtain ⟨rfl, rfl, rfl⟩ := H
    go_enter Try.func64, Try.ntmps64
    go_wp2_with (first | ((with_reducible refine gate_callee (f := 90) rfl ?_); refine goesL_ (some 7) rfl rfl Try.func90 (by kernel_rfl) rfl #[.pointer (some ⟨g, 0, none⟩)] rfl (by (try simp only [List.map_toArray, List.map_cons, List.map_nil]); first | done | rfl | (simp only [List.length_drop, List.length_take]; rfl)) ?_; (with_reducible refine (goprompt_Document_TextBeforeCursor.calls g s0_0 s0_1 t114 t115 t116 w0 _ ?side1 ?side2 A2.out).mono ?_); (case side1 => repeat (first | (with_reducible first | exact HI0.out | apply IsS127.alloc | apply IsS127.drewN | apply IsS127.drew | apply IsS127.set_0 | apply IsS127.set_1) | exact HI0.out)); (case side2 => repeat (first | (with_reducible first | exact HB.out | apply below_alloc | apply pw_below_drewN | apply below_drew1 | refine below_set ?_ (IsS127.ge HI0.out)) | exact HB.out)); rintro e w5 ⟨rfl, hi, hb, hk⟩; refine ⟨_, rfl, ?_⟩; have n0_ := Aside0.mk (KeepBut.trans (by repeat (first | (with_reducible first | exact HK.out | apply KeepBut.set_ | apply keep_drewN | apply keep_drew | apply keep_alloc) | exact HK.out)) hk (.inl rfl)); have n1_ := Aside0.mk (hb); have n2_ := Aside0.mk (hi); clear HK; clear HB; clear HI0; have HK := n0_; have HB := n1_; have HI0 := n2_; clear n0_ n1_ n2_; (try clear hb); (try clear hb2); (try clear hk); (try clear hi)) | ((with_reducible refine gate_callee (f := 92) rfl ?_); refine goesL_ (some 9) rfl rfl Try.func92 (by kernel_rfl) rfl #[.string t114, .int .u8 32] rfl (by (try simp only [List.map_toArray, List.map_cons, List.map_nil]); first | done | rfl | (simp only [List.length_drop, List.length_take]; rfl)) ?_; (with_reducible refine (strings_LastIndexNotByte.calls k t114 32 t117 _ A3.out).mono ?_); rintro e w' ⟨rfl, ⟨nd, rfl⟩⟩; refine ⟨_, rfl, ?_⟩))
    go_ret
    exact ⟨by first | rfl | (simp [errW_none, errW_some] <;> rfl) | (simp [*, errW_none, errW_some] <;> rfl), by repeat (first | (with_reducible first | exact HI0.out | apply IsS127.alloc | apply IsS127.drewN | apply IsS127.drew | apply IsS127.set_0 | apply IsS127.set_1) | exact HI0.out), by repeat (first | (with_reducible first | exact HB.out | apply below_alloc | apply pw_below_drewN | apply below_drew1 | refine below_set ?_ (IsS127.ge HI0.out)) | exact HB.out), by repeat (first | (with_reducible first | exact HK.out | apply KeepBut.set_ | apply keep_drewN | apply keep_drew | apply keep_alloc) | exact HK.out)⟩
  · rw [if_neg c4] at H
    have c4b0 : (t117 == (-1)) = false := beq_eq_false_iff_ne.mpr c4
    have c4b1 : (t117 != (-1)) = true := bne_iff_ne.mpr c4
    by_cases c6 : 0 ≤ t117
    · rw [if_pos c6] at H
      have c6b0 := eq_true c6
      have c6b1 : decide (0 ≤ t117) = true := decide_eq_true c6
      clear c6
      by_cases c7 : t117 ≤ (t114.size : Int)
      · rw [if_pos c7] at H
        have c7b0 := eq_true c7
        have c7b1 : decide (t117 ≤ (t114.size : Int)) = true := decide_eq_true c7
        clear c7
        replace H := Option.bind_eq_some_iff.mp H
        obtain ⟨t118, A80, H⟩ := H
        replace H : (if t118 = (-1) then (some (0, t115, t116)) else (some (wrap64 (t118 + 1), t115, t116))) = some (r1, r2, r3) := H
        have A8 := Aside0.mk A80
        clear A80
        by_cases c9 : t118 = (-1)
        · rw [if_pos c9] at H
          have c9b0 : (t118 == (-1)) = true := beq_iff_eq.mpr c9
          have c9b1 : (t118 != (-1)) = false := bne_eq_false_iff_eq.mpr c9
          clear c9
          simp only [Option.some.injEq, Prod.mk.injEq] at H
          obtain ⟨rfl, rfl, rfl⟩ := H
          go_enter Try.func64, Try.ntmps64
          go_wp2_with (first | ((with_reducible refine gate_callee (f := 90) rfl ?_); refine goesL_ (some 7) rfl rfl Try.func90 (by kernel_rfl) rfl #[.pointer (some ⟨g, 0, none⟩)] rfl (by (try simp only [List.map_toArray, List.map_cons, List.map_nil]); first | done | rfl | (simp only [List.length_drop, List.length_take]; rfl)) ?_; (with_reducible refine (goprompt_Document_TextBeforeCursor.calls g s0_0 s0_1 t114 t115 t116 w0 _ ?side1 ?side2 A2.out).mono ?_); (case side1 => repeat (first | (with_reducible first | exact HI0.out | apply IsS127.alloc | apply IsS127.drewN | apply IsS127.drew | apply IsS127.set_0 | apply IsS127.set_1) | exact HI0.out)); (case side2 => repeat (first | (with_reducible first | exact HB.out | apply below_alloc | apply pw_below_drewN | apply below_drew1 | refine below_set ?_ (IsS127.ge HI0.out)) | exact HB.out)); rintro e w10 ⟨rfl, hi, hb, hk⟩; refine ⟨_, rfl, ?_⟩; have n0_ := Aside0.mk (KeepBut.trans (by repeat (first | (with_reducible first | exact HK.out | apply KeepBut.set_ | apply keep_drewN | apply keep_drew | apply keep_alloc) | exact HK.out)) hk (.inl rfl)); have n1_ := Aside0.mk (hb); have n2_ := Aside0.mk (hi); clear HK; clear HB; clear HI0; have HK := n0_; have HB := n1_; have HI0 := n2_; clear n0_ n1_ n2_; (try clear hb); (try clear hb2); (try clear hk); (try clear hi)) | ((with_reducible refine gate_callee (f := 92) rfl ?_); refine goesL_ (some 9) rfl rfl Try.func92 (by kernel_rfl) rfl #[.string t114, .int .u8 32] rfl (by (try simp only [List.map_toArray, List.map_cons, List.map_nil]); first | done | rfl | (simp only [List.length_drop, List.length_take]; rfl)) ?_; (with_reducible refine (strings_LastIndexNotByte.calls k t114 32 t117 _ A3.out).mono ?_); rintro e w' ⟨rfl, ⟨nd, rfl⟩⟩; refine ⟨_, rfl, ?_⟩) | ((with_reducible refine gate_callee (f := 91) rfl ?_); refine goesL_ (some 15) rfl rfl Try.func91 (by kernel_rfl) rfl #[.string (t114.extract 0 (t117 : Int).toNat), .int .u8 32] rfl (by (try simp only [List.map_toArray, List.map_cons, List.map_nil]); first | done | rfl | (simp only [List.length_drop, List.length_take]; rfl)) ?_; (with_reducible refine (strings_LastIndexByte.calls k (t114.extract 0 (t117 : Int).toNat) 32 t118 _ A8.out).mono ?_); rintro e w' ⟨rfl, ⟨nd, rfl⟩⟩; refine ⟨_, rfl, ?_⟩))
          go_ret
          exact ⟨by first | rfl | (simp [errW_none, errW_some] <;> rfl) | (simp [*, errW_none, errW_some] <;> rfl), by repeat (first | (with_reducible first | exact HI0.out | apply IsS127.alloc | apply IsS127.drewN | apply IsS127.drew | apply IsS127.set_0 | apply IsS127.set_1) | exact HI0.out), by repeat (first | (with_reducible first | exact HB.out | apply below_alloc | apply pw_below_drewN | apply below_drew1 | refine below_set ?_ (IsS127.ge HI0.out)) | exact HB.out), by repeat (first | (with_reducible first | exact HK.out | apply KeepBut.set_ | apply keep_drewN | apply keep_drew | apply keep_alloc) | exact HK.out)⟩
        · rw [if_neg c9] at H
          have c9b0 : (t118 == (-1)) = false := beq_eq_false_iff_ne.mpr c9
          have c9b1 : (t118 != (-1)) = true := bne_iff_ne.mpr c9
          simp only [Option.some.injEq, Prod.mk.injEq] at H
          obtain ⟨rfl, rfl, rfl⟩ := H
          go_enter Try.func64, Try.ntmps64
          go_wp2_with (first | ((with_reducible refine gate_callee (f := 90) rfl ?_); refine goesL_ (some 7) rfl rfl Try.func90 (by kernel_rfl) rfl #[.pointer (some ⟨g, 0, none⟩)] rfl (by (try simp only [List.map_toArray, List.map_cons, List.map_nil]); first | done | rfl | (simp only [List.length_drop, List.length_take]; rfl)) ?_; (with_reducible refine (goprompt_Document_TextBeforeCursor.calls g s0_0 s0_1 t114 t115 t116 w0 _ ?side1 ?side2 A2.out).mono ?_); (case side1 => repeat (first | (with_reducible first | exact HI0.out | apply IsS127.alloc | apply IsS127.drewN | apply IsS127.drew | apply IsS127.set_0 | apply IsS127.set_1) | exact HI0.out)); (case side2 => repeat (first | (with_reducible first | exact HB.out | apply below_alloc | apply pw_below_drewN | apply below_drew1 | refine below_set ?_ (IsS127.ge HI0.out)) | exact HB.out)); rintro e w11 ⟨rfl, hi, hb, hk⟩; refine ⟨_, rfl, ?_⟩; have n0_ := Aside0.mk (KeepBut.trans (by repeat (first | (with_reducible first | exact HK.out | apply KeepBut.set_ | apply keep_drewN | apply keep_drew | apply keep_alloc) | exact HK.out)) hk (.inl rfl)); have n1_ := Aside0.mk (hb); have n2_ := Aside0.mk (hi); clear HK; clear HB; clear HI0; have HK := n0_; have HB := n1_; have HI0 := n2_; clear n0_ n1_ n2_; (try clear hb); (try clear hb2); (try clear hk); (try clear hi)) | ((with_reducible refine gate_callee (f := 92) rfl ?_); refine goesL_ (some 9) rfl rfl Try.func92 (by kernel_rfl) rfl #[.string t114, .int .u8 32] rfl (by (try simp only [List.map_toArray, List.map_cons, List.map_nil]); first | done | rfl | (simp only [List.length_drop, List.length_take]; rfl)) ?_; (with_reducible refine (strings_LastIndexNotByte.calls k t114 32 t117 _ A3.out).mono ?_); rintro e w' ⟨rfl, ⟨nd, rfl⟩⟩; refine ⟨_, rfl, ?_⟩) | ((with_reducible refine gate_callee (f := 91) rfl ?_); refine goesL_ (some 15) rfl rfl Try.func91 (by kernel_rfl) rfl #[.string (t114.extract 0 (t117 : Int).toNat), .int .u8 32] rfl (by (try simp only [List.map_toArray, List.map_cons, List.map_nil]); first | done | rfl | (simp only [List.length_drop, List.length_take]; rfl)) ?_; (with_reducible refine (strings_LastIndexByte.calls k (t114.extract 0 (t117 : Int).toNat) 32 t118 _ A8.out).mono ?_); rintro e w' ⟨rfl, ⟨nd, rfl⟩⟩; refine ⟨_, rfl, ?_⟩))
          go_ret
          exact ⟨by first | rfl | (simp [errW_none, errW_some] <;> rfl) | (simp [*, errW_none, errW_some] <;> rfl), by repeat (first | (with_reducible first | exact HI0.out | apply IsS127.alloc | apply IsS127.drewN | apply IsS127.drew | apply IsS127.set_0 | apply IsS127.set_1) | exact HI0.out), by repeat (first | (with_reducible first | exact HB.out | apply below_alloc | apply pw_below_drewN | apply below_drew1 | refine below_set ?_ (IsS127.ge HI0.out)) | exact HB.out), by repeat (first | (with_reducible first | exact HK.out | apply KeepBut.set_ | apply keep_drewN | apply keep_drew | apply keep_alloc) | exact HK.out)⟩
      · rw [if_neg c7] at H
        exact absurd H (by simp)
    · rw [if_neg c6] at H
      exact absurd H (by simp)

/-! ### goprompt_Document_TextAfterCursor: function 93 -/
def goprompt_Document_TextAfterCursor.f (s0_0 : ByteArray) (s0_1 : Int) : Option (ByteArray × ByteArray × Int) := if (runesOf s0_0).length ≤ 70368744177664 then ((some (runesOf s0_0 : List Int)).bind fun y119 => (if 0 ≤ s0_1 then (if s0_1 ≤ (y119.length : Int) then (some (runesBytes (y119.drop (s0_1 : Int).toNat), s0_0, s0_1)) else (none)) else (none))) else (none)
set_option maxHeartbeats 8000000 in
set_option maxRecDepth 100000 in
theorem goprompt_Document_TextAfterCursor.calls (g : Nat) (s0_0 : ByteArray) (s0_1 : Int) (r1 : ByteArray) (r2 : ByteArray) (r3 : Int) (w0 w : World) (hI : IsS127 w0 w g s0_0 s0_1) (hB : Below w0.heap.size w0 w) (h : goprompt_Document_TextAfterCursor.f s0_0 s0_1 = some (r1, r2, r3)) :
    Calls Try.prog 93 #[.pointer (some ⟨g, 0, none⟩)] w fun e w' => e = .returned (.string r1) ∧ IsS127 w0 w' g r2 r3 ∧ Below w0.heap.size w0 w' ∧ KeepBut w w' g none := by
  have HI0 := Aside0.mk hI
  have HK := Aside0.mk (KeepBut.refl w g none)
  have HL := Aside0.mk hB.size
  clear hI
  have HW0 := Aside0.mk hB.size
  have HB := Aside0.mk hB
  clear hB
  have H : (if (runesOf s0_0).length ≤ 70368744177664 then ((some (runesOf s0_0 : List Int)).bind fun y119 => (if 0 ≤ s0_1 then (if s0_1 ≤ (y119.length : Int) then (some (runesBytes (y119.drop (s0_1 : Int).toNat), s0_0, s0_1)) else (none)) else (none))) else (none)) = some (r1, r2, r3) := h
  clear h
  by_cases c2 : (runesOf s0_0).length ≤ 70368744177664
  · rw [if_pos c2] at H
    have c2b0 := eq_true c2
    have c2b1 : decide ((runesOf s0_0).length ≤ 70368744177664) = true := decide_eq_true c2
    clear c2
    obtain ⟨y119, hy119⟩ : ∃ y_ : List Int, y_ = (runesOf s0_0) := ⟨_, rfl⟩
    replace H : (if 0 ≤ s0_1 then (if s0_1 ≤ (y119.length : Int) then (some (runesBytes (y119.drop (s0_1 : Int).toNat), s0_0, s0_1)) else (none)) else (none)) = some (r1, r2, r3) := by first | (rw [hy119]; with_reducible exact H) | (have H2_ := (Option.bind_some _ _).symm.trans H; rw [hy119]; with_reducible exact H2_) | (have H2_ := (Option.bind_some _ _).symm.trans H; with_reducible exact H2_) | with_reducible exact H | (rw [hy119]; exact H) | exact H
    have Ny119 := Aside0.mk hy119
    clear hy119
    by_cases c3 : 0 ≤ s0_1
    · rw [if_pos c3] at H
      have c3b0 := eq_true c3
      have c3b1 : decide (0 ≤ s0_1) = true := decide_eq_true c3
      clear c3
      by_cases c4 : s0_1 ≤ (y119.length : Int)
      · rw [if_pos c4] at H
        have c4b0 := eq_true c4
        have c4b1 : decide (s0_1 ≤ (y119.length : Int)) = true := decide_eq_true c4
        clear c4
        obtain ⟨y122, hy122⟩ : ∃ y_ : List Int, y_ = (y119.drop (s0_1 : Int).toNat) := ⟨_, rfl⟩
        replace H : (some (runesBytes y122, s0_0, s0_1)) = some (r1, r2, r3) := by first | (rw [hy122]; with_reducible exact H) | (have H2_ := (Option.bind_some _ _).symm.trans H; rw [hy122]; with_reducible exact H2_) | (have H2_ := (Option.bind_some _ _).symm.trans H; with_reducible exact H2_) | with_reducible exact H | (rw [hy122]; exact H) | exact H
        have Ny122 := Aside0.mk hy122
        clear hy122
        simp only [Option.some.injEq, Prod.mk.injEq] at H
        obtain ⟨rfl, rfl, rfl⟩ := H
        obtain ⟨HGz5, hgz5⟩ := HI0.out
        have hcz5_0 := cellS127_0 HGz5
        have hcz5_1 := cellS127_1 HGz5
        have hfz5_0 := blk_frozen HGz5 0
        have hfz5_1 := blk_frozen HGz5 1
        clear HGz5 hgz5
        go_enter Try.func93, Try.ntmps93
        go_wp2_with (first | ((with_reducible refine gate_dst (N := 8) rfl ?_); refine R_runes _ 21 rfl (N := 8) rfl 9 85 _ rfl s0_0 rfl Try.underlying9 Try.underlying85 Try.underlying21 (ok := fun _ => True) (okp := fun _ => True) (fun _ hk => hk) trivial (of_decide_eq_true (by first | (with_reducible assumption) | assumption)) (Below.refl _ _) (Nat.le_refl _) ?_; intro v120 w6 ho7 hb hg_ hnew_; clear hg_ hnew_; (first | rw [← Ny119.out] at ho7 | (simp only [Int.reduceToNat] at ho7; rw [← Ny119.out] at ho7)); have n0_ := Aside0.mk (Kd.R_lower ho7 (keep_size (w := w) (g := g) (row := none) (by repeat (first | (with_reducible first | exact HK.out | apply KeepBut.set_ | apply keep_drewN | apply keep_drew | apply keep_alloc) | exact HK.out)))); have n1_ := Aside0.mk (IsS127.below (by repeat (first | (with_reducible first | exact HI0.out | apply IsS127.alloc | apply IsS127.drewN | apply IsS127.drew | apply IsS127.set_0 | apply IsS127.set_1) | exact HI0.out)) hb); have n2_ := Aside0.mk (KeepBut.trans (by repeat (first | (with_reducible first | exact HK.out | apply KeepBut.set_ | apply keep_drewN | apply keep_drew | apply keep_alloc) | exact HK.out)) (KeepBut.of_below hb g none) (.inl rfl)); have n3_ := Aside0.mk (below_step (by repeat (first | (with_reducible first | exact HB.out | apply below_alloc | apply pw_below_drewN | apply below_drew1 | refine below_set ?_ (IsS127.ge HI0.out)) | exact HB.out)) hb); clear HI0; clear HK; clear HB; have HO121 := n0_; have HI0 := n1_; have HK := n2_; have HB := n3_; clear n0_ n1_ n2_ n3_; clear hb ho7; obtain ⟨HGz8, hgz8⟩ := HI0.out; have hcz8_0 := cellS127_0 HGz8; have hcz8_1 := cellS127_1 HGz8; have hfz8_0 := blk_frozen HGz8 0; have hfz8_1 := blk_frozen HGz8 1; clear HGz8 hgz8; obtain ⟨Ao10, co10, eo10⟩ := Kd.R_slice HO121.out; subst eo10; have q9 : (s0_1 : Int) ≤ ((y119.length : Int) : Int) := of_decide_eq_true (by first | (with_reducible assumption) | assumption); obtain ⟨i09, hi09, _, hsz9, _⟩ := info_parts info21; have hroom9 : y119.length ≤ co10 := (Kd.R_reads' HO121.out).2.1; have hC9 : Kd.C (Kd.int .i32) _ Ao10 y119.length y119 := (Kd.R_reads' HO121.out).2.2; have q09 : (0 : Int) ≤ (s0_1 : Int) := of_decide_eq_true (by first | (with_reducible assumption) | assumption); have hcut9 := cut_from (P := Try.prog) 85 21 .i64 Try.underlying85 hi09 1 hsz9 Ao10 y119.length co10 s0_1 q09 q9; have hr9 := Kd.C_drop (m := (s0_1 : Int).toNat) (c := co10) hC9 (by omega) hroom9; obtain ⟨A9, hA9⟩ : ∃ A1, A1 = (if co10 = (s0_1 : Int).toNat then Ao10 else (Ao10 : Option Addr).map (·.add ((s0_1 : Int).toNat * 1))) := ⟨_, rfl⟩; obtain ⟨c9, hc9⟩ : ∃ c1, c1 = co10 - (s0_1 : Int).toNat := ⟨_, rfl⟩; have hy9 : y122.length = y119.length - (s0_1 : Int).toNat := (by rw [Ny122.out, List.length_drop] <;> omega); rw [show (y119).drop (s0_1 : Int).toNat = y122 from Ny122.out.symm] at hr9; replace hr9 : Kd.C (Kd.int .i32) _ A9 y122.length y122 := (by rw [hA9]; exact hr9); rw [← hy9, ← hA9, ← hc9] at hcut9; have HR125 := Aside0.mk hr9; have HC125 := Aside0.mk (show y122.length ≤ c9 from by rw [hy9, hc9]; exact Nat.sub_le_sub_right hroom9 _); clear hr9 hC9 hroom9 hi09 hsz9 hc9; have KY9 := Aside0.mk hy9; have KA9 := Aside0.mk hA9; clear hy9 hA9; have KL9 := Aside0.mk (show (s0_1 : Int).toNat ≤ y119.length from by omega); replace q9 := eq_true q9; have hcv11 := C_runes (P := Try.prog) (A := A9) (c := c9) Try.underlying85 Try.underlying21 Try.underlying9 (by repeat (first | (with_reducible exact HR125.out) | (with_reducible refine Kd.C_alloc ?_ _) | (with_reducible refine Kd.C_drewN ?_ _) | (with_reducible refine Kd.C_drew ?_) | exact HR125.out))))
        go_ret
        exact ⟨by first | rfl | (simp [errW_none, errW_some] <;> rfl) | (simp [*, errW_none, errW_some] <;> rfl), by repeat (first | (with_reducible first | exact HI0.out | apply IsS127.alloc | apply IsS127.drewN | apply IsS127.drew | apply IsS127.set_0 | apply IsS127.set_1) | exact HI0.out), by repeat (first | (with_reducible first | exact HB.out | apply below_alloc | apply pw_below_drewN | apply below_drew1 | refine below_set ?_ (IsS127.ge HI0.out)) | exact HB.out), by repeat (first | (with_reducible first | exact HK.out | apply KeepBut.set_ | apply keep_drewN | apply keep_drew | apply keep_alloc) | exact HK.out)⟩
      · rw [if_neg c4] at H
        exact absurd H (by simp)
    · rw [if_neg c3] at H
      exact absurd H (by simp)
  · rw [if_neg c2] at H
    exact absurd H (by simp)

/-! ### goprompt_Document_FindEndOfCurrentWord: function 65 -/
def goprompt_Document_FindEndOfCurrentWord.f (s0_0 : ByteArray) (s0_1 : Int) : Option (Int × ByteArray × Int) := (goprompt_Document_TextAfterCursor.f s0_0 s0_1).bind fun bt126 => ((strings_IndexByte.f bt126.1 32).bind fun t129 => (if t129 = (-1) then (some ((bt126.1.size : Int), bt126.2.1, bt126.2.2)) else (some (t129, bt126.2.1, bt126.2.2))))
set_option maxHeartbeats 8000000 in
set_option maxRecDepth 100000 in
theorem goprompt_Document_FindEndOfCurrentWord.calls (g : Nat) (s0_0 : ByteArray) (s0_1 : Int) (r1 : Int) (r2 : ByteArray) (r3 : Int) (w0 w : World) (hI : IsS127 w0 w g s0_0 s0_1) (hB : Below w0.heap.size w0 w) (h : goprompt_Document_FindEndOfCurrentWord.f s0_0 s0_1 = some (r1, r2, r3)) :
    Calls Try.prog 65 #[.pointer (some ⟨g, 0, none⟩)] w fun e w' => e = .returned (.int .i64 r1) ∧ IsS127 w0 w' g r2 r3 ∧ Below w0.heap.size w0 w' ∧ KeepBut w w' g none := by
  have HI0 := Aside0.mk hI
  have HK := Aside0.mk (KeepBut.refl w g none)
  have HL := Aside0.mk hB.size
  clear hI
  have HW0 := Aside0.mk hB.size
  have HB := Aside0.mk hB
  clear hB
  have H : ((goprompt_Document_TextAfterCursor.f s0_0 s0_1).bind fun bt126 => ((strings_IndexByte.f bt126.1 32).bind fun t129 => (if t129 = (-1) then (some ((bt126.1.size : Int), bt126.2.1, bt126.2.2)) else (some (t129, bt126.2.1, bt126.2.2))))) = some (r1, r2, r3) := h
  clear h
  replace H := Option.bind_eq_some_iff.mp H
  obtain ⟨⟨t126, t127, t128⟩, A20, H⟩ := H
  replace H : ((strings_IndexByte.f t126 32).bind fun t129 => (if t129 = (-1) then (some ((t126.size : Int), t127, t128)) else (some (t129, t127, t128)))) = some (r1, r2, r3) := H
  have A2 := Aside0.mk A20
  clear A20
  replace H := Option.bind_eq_some_iff.mp H
  obtain ⟨t129, A30, H⟩ := H
  replace H : (if t129 = (-1) then (some ((t126.size : Int), t127, t128)) else (some (t129, t127, t128))) = some (r1, r2, r3) := H
  have A3 := Aside0.mk A30
  clear A30
  by_cases c4 : t129 = (-1)
  · rw [if_pos c4] at H
    have c4b0 : (t129 == (-1)) = true := beq_iff_eq.mpr c4
    have c4b1 : (t129 != (-1)) = false := bne_eq_false_iff_eq.mpr c4
    clear c4
    simp only [Option.some.injEq, Prod.mk.injEq] at H
    obtain ⟨rfl, rfl, rfl⟩ := H
    go_enter Try.func65, Try.ntmps65
    go_wp2_with (first | ((with_reducible refine gate_callee (f := 93) rfl ?_); refine goesL_ (some 6) rfl rfl Try.func93 (by kernel_rfl) rfl #[.pointer (some ⟨g, 0, none⟩)] rfl (by (try simp only [List.map_toArray, List.map_cons, List.map_nil]); first | done | rfl | (simp only [List.length_drop, List.length_take]; rfl)) ?_; (with_reducible refine (goprompt_Document_TextAfterCursor.calls g s0_0 s0_1 t126 t127 t128 w0 _ ?side1 ?side2 A2.out).mono ?_); (case side1 => repeat (first | (with_reducible first | exact HI0.out | apply IsS127.alloc | apply IsS127.drewN | apply IsS127.drew | apply IsS127.set_0 | apply IsS127.set_1) | exact HI0.out)); (case side2 => repeat (first | (with_reducible first | exact HB.out | apply below_alloc | apply pw_below_drewN | apply below_drew1 | refine below_set ?_ (IsS127.ge HI0.out)) | exact HB.out)); rintro e w5 ⟨rfl, hi, hb, hk⟩; refine ⟨_, rfl, ?_⟩; have n0_ := Aside0.mk (KeepBut.trans (by repeat (first | (with_reducible first | exact HK.out | apply KeepBut.set_ | apply keep_drewN | apply keep_drew | apply keep_alloc) | exact HK.out)) hk (.inl rfl)); have n1_ := Aside0.mk (hb); have n2_ := Aside0.mk (hi); clear HK; clear HB; clear HI0; have HK := n0_; have HB := n1_; have HI0 := n2_; clear n0_ n1_ n2_; (try clear hb); (try clear hb2); (try clear hk); (try clear hi)) | ((with_reducible refine gate_callee (f := 94) rfl ?_); refine goesL_ (some 8) rfl rfl Try.func94 (by kernel_rfl) rfl #[.string t126, .int .u8 32] rfl (by (try simp only [List.map_toArray, List.map_cons, List.map_nil]); first | done | rfl | (simp only [List.length_drop, List.length_take]; rfl)) ?_; (with_reducible refine (strings_IndexByte.calls t126 32 t129 _ A3.out).mono ?_); rintro e w6 ⟨rfl, hb⟩; refine ⟨_, rfl, ?_⟩; have n0_ := Aside0.mk (IsS127.below (by repeat (first | (with_reducible first | exact HI0.out | apply IsS127.alloc | apply IsS127.drewN | apply IsS127.drew | apply IsS127.set_0 | apply IsS127.set_1) | exact HI0.out)) hb); have n1_ := Aside0.mk (KeepBut.trans (by repeat (first | (with_reducible first | exact HK.out | apply KeepBut.set_ | apply keep_drewN | apply keep_drew | apply keep_alloc) | exact HK.out)) (KeepBut.of_below hb g none) (.inl rfl)); have n2_ := Aside0.mk (below_step (by repeat (first | (with_reducible first | exact HB.out | apply below_alloc | apply pw_below_drewN | apply below_drew1 | refine below_set ?_ (IsS127.ge HI0.out)) | exact HB.out)) hb); clear HI0; clear HK; clear HB; have HI0 := n0_; have HK := n1_; have HB := n2_; clear n0_ n1_ n2_; (try clear hb); (try clear hb2); (try clear hk); (try clear hi)))
    go_ret
    exact ⟨by first | rfl | (simp [errW_none, errW_some] <;> rfl) | (simp [*, errW_none, errW_some] <;> rfl), by repeat (first | (with_reducible first | exact HI0.out | apply IsS127.alloc | apply IsS127.drewN | apply IsS127.drew | apply IsS127.set_0 | apply IsS127.set_1) | exact HI0.out), by repeat (first | (with_reducible first | exact HB.out | apply below_alloc | apply pw_below_drewN | apply below_drew1 | refine below_set ?_ (IsS127.ge HI0.out)) | exact HB.out), by repeat (first | (with_reducible first | exact HK.out | apply KeepBut.set_ | apply keep_drewN | apply keep_drew | apply keep_alloc) | exact HK.out)⟩
  · rw [if_neg c4] at H
    have c4b0 : (t129 == (-1)) = false := beq_eq_false_iff_ne.mpr c4
    have c4b1 : (t129 != (-1)) = true := bne_iff_ne.mpr c4
    simp only [Option.some.injEq, Prod.mk.injEq] at H
    obtain ⟨rfl, rfl, rfl⟩ := H
    go_enter Try.func65, Try.ntmps65
    go_wp2_with (first | ((with_reducible refine gate_callee (f := 93) rfl ?_); refine goesL_ (some 6) rfl rfl Try.func93 (by kernel_rfl) rfl #[.pointer (some ⟨g, 0, none⟩)] rfl (by (try simp only [List.map_toArray, List.map_cons, List.map_nil]); first | done | rfl | (simp only [List.length_drop, List.length_take]; rfl)) ?_; (with_reducible refine (goprompt_Document_TextAfterCursor.calls g s0_0 s0_1 t126 t127 t128 w0 _ ?side1 ?side2 A2.out).mono ?_); (case side1 => repeat (first | (with_reducible first | exact HI0.out | apply IsS127.alloc | apply IsS127.drewN | apply IsS127.drew | apply IsS127.set_0 | apply IsS127.set_1) | exact HI0.out)); (case side2 => repeat (first | (with_reducible first | exact HB.out | apply below_alloc | apply pw_below_drewN | apply below_drew1 | refine below_set ?_ (IsS127.ge HI0.out)) | exact HB.out)); rintro e w7 ⟨rfl, hi, hb, hk⟩; refine ⟨_, rfl, ?_⟩; have n0_ := Aside0.mk (KeepBut.trans (by repeat (first | (with_reducible first | exact HK.out | apply KeepBut.set_ | apply keep_drewN | apply keep_drew | apply keep_alloc) | exact HK.out)) hk (.inl rfl)); have n1_ := Aside0.mk (hb); have n2_ := Aside0.mk (hi); clear HK; clear HB; clear HI0; have HK := n0_; have HB := n1_; have HI0 := n2_; clear n0_ n1_ n2_; (try clear hb); (try clear hb2); (try clear hk); (try clear hi)) | ((with_reducible refine gate_callee (f := 94) rfl ?_); refine goesL_ (some 8) rfl rfl Try.func94 (by kernel_rfl) rfl #[.string t126, .int .u8 32] rfl (by (try simp only [List.map_toArray, List.map_cons, List.map_nil]); first | done | rfl | (simp only [List.length_drop, List.length_take]; rfl)) ?_; (with_reducible refine (strings_IndexByte.calls t126 32 t129 _ A3.out).mono ?_); rintro e w8 ⟨rfl, hb⟩; refine ⟨_, rfl, ?_⟩; have n0_ := Aside0.mk (IsS127.below (by repeat (first | (with_reducible first | exact HI0.out | apply IsS127.alloc | apply IsS127.drewN | apply IsS127.drew | apply IsS127.set_0 | apply IsS127.set_1) | exact HI0.out)) hb); have n1_ := Aside0.mk (KeepBut.trans (by repeat (first | (with_reducible first | exact HK.out | apply KeepBut.set_ | apply keep_drewN | apply keep_drew | apply keep_alloc) | exact HK.out)) (KeepBut.of_below hb g none) (.inl rfl)); have n2_ := Aside0.mk (below_step (by repeat (first | (with_reducible first | exact HB.out | apply below_alloc | apply pw_below_drewN | apply below_drew1 | refine below_set ?_ (IsS127.ge HI0.out)) | exact HB.out)) hb); clear HI0; clear HK; clear HB; have HI0 := n0_; have HK := n1_; have HB := n2_; clear n0_ n1_ n2_; (try clear hb); (try clear hb2); (try clear hk); (try clear hi)))
    go_ret
    exact ⟨by first | rfl | (simp [errW_none, errW_some] <;> rfl) | (simp [*, errW_none, errW_some] <;> rfl), by repeat (first | (with_reducible first | exact HI0.out | apply IsS127.alloc | apply IsS127.drewN | apply IsS127.drew | apply IsS127.set_0 | apply IsS127.set_1) | exact HI0.out), by repeat (first | (with_reducible first | exact HB.out | apply below_alloc | apply pw_below_drewN | apply below_drew1 | refine below_set ?_ (IsS127.ge HI0.out)) | exact HB.out), by repeat (first | (with_reducible first | exact HK.out | apply KeepBut.set_ | apply keep_drewN | apply keep_drew | apply keep_alloc) | exact HK.out)⟩

/-! ### strings_IndexNotByte: function 95 -/
def strings_IndexNotByte.l0 : Nat → ByteArray → Int → Int → Int → Option (Int)
  | 0, _, _, _, _ => none
  | k + 1, x0, x1, x5, x6 => if x6 < x5 then (if 0 ≤ x6 then (if x6 < (x0.size : Int) then (if (bt x0 x6) = x1 then (strings_IndexNotByte.l0 k x0 x1 x5 (wrap64 (x6 + 1))) else (some x6)) else (none)) else (none)) else (some (-1))
def strings_IndexNotByte.f (k : Nat) (a0 : ByteArray) (a1 : Int) : Option (Int) := strings_IndexNotByte.l0 k a0 a1 (a0.size : Int) 0
theorem strings_IndexNotByte.mono_l : ∀ k, (∀ y0 y1 y2 y3, LeO (strings_IndexNotByte.l0 k y0 y1 y2 y3) (strings_IndexNotByte.l0 (k + 1) y0 y1 y2 y3))
  | 0 => fun _ _ _ _ r h => by simp [strings_IndexNotByte.l0] at h
  | k + 1 => by
    have ih0 := strings_IndexNotByte.mono_l k
    · intro y0 y1 y2 y3
      unfold strings_IndexNotByte.l0
      repeat' first
      | (with_reducible exact ih0 _ _ _ _)
      | (with_reducible exact LeO.refl _)
      | (with_reducible exact LeO.none _)
      | (with_reducible refine LeO.ite ?_ ?_)
      | (with_reducible refine LeO.bind ?_ (fun _ => ?_))
      | exact ih0 _ _ _ _
      | exact LeO.none _
      | refine LeO.ite ?_ ?_
      | refine LeO.bind ?_ (fun _ => ?_)
theorem strings_IndexNotByte.mono : ∀ a0 a1 k, LeO (strings_IndexNotByte.f k a0 a1) (strings_IndexNotByte.f (k + 1) a0 a1) := by
  intro a0 a1 k
  have ih0 := strings_IndexNotByte.mono_l k
  unfold strings_IndexNotByte.f
  repeat' first
      | (with_reducible exact ih0 _ _ _ _)
      | (with_reducible exact LeO.refl _)
      | (with_reducible exact LeO.none _)
      | (with_reducible refine LeO.ite ?_ ?_)
      | (with_reducible refine LeO.bind ?_ (fun _ => ?_))
      | exact ih0 _ _ _ _
      | exact LeO.none _
      | refine LeO.ite ?_ ?_
      | refine LeO.bind ?_ (fun _ => ?_)
set_option maxHeartbeats 8000000 in
set_option maxRecDepth 100000 in
theorem strings_IndexNotByte.calls (k : Nat) (a0 : ByteArray) (a1 : Int) (r : Int) (w : World) (h : strings_IndexNotByte.f k a0 a1 = some r) :
    Calls Try.prog 95 #[.string a0, .int .u8 a1] w fun e w' => e = .returned (.int .i64 r) ∧ Drawn0 w w' := by
  have H : (strings_IndexNotByte.l0 k a0 a1 (a0.size : Int) 0) = some r := h
  clear h
  have H' := Aside0.mk H
  clear H
  go_enter Try.func95, Try.ntmps95
  go_wp2
  go_loopg [6] k (fun kq v6 w' => ∃ (x6_1 : Int), v6 = .int .i64 x6_1 ∧ Aside0 (strings_IndexNotByte.l0 kq a0 a1 (a0.size : Int) x6_1 = some r) ∧ Aside0 (kq ≤ k) ∧ Drawn0 w w')
  case atStart => exact ⟨(0), (by first | rfl | (simp; done) | (simp [*]; done)), H', ⟨Nat.le_refl _⟩, by repeat (first | exact Drawn0.refl _ | apply Drawn0.step)⟩
  case round =>
    clear H'
    try clear p2
    obtain ⟨x6_1, rfl, HA, HK1, ⟨m1, rfl⟩⟩ := hrel
    cases gk with
    | zero => exact absurd HA.out (by simp [strings_IndexNotByte.l0])
    | succ k1 =>
      have H := HA.out
      clear HA
      simp only [strings_IndexNotByte.l0] at H
      by_cases c3 : x6_1 < (a0.size : Int)
      · rw [if_pos c3] at H
        have c3b0 : decide (x6_1 < (a0.size : Int)) = true := decide_eq_true c3
        clear c3
        by_cases c4 : 0 ≤ x6_1
        · rw [if_pos c4] at H
          have c4b0 : decide (0 ≤ x6_1) = true := decide_eq_true c4
          clear c4
          by_cases c5 : x6_1 < (a0.size : Int)
          · rw [if_pos c5] at H
            have c5b0 : decide (x6_1 < (a0.size : Int)) = true := decide_eq_true c5
            clear c5
            by_cases c7 : (bt a0 x6_1) = a1
            · rw [if_pos c7] at H
              have c7b0 : ((bt a0 x6_1) == a1) = true := beq_iff_eq.mpr c7
              have c7b1 : ((bt a0 x6_1) != a1) = false := bne_eq_false_iff_eq.mpr c7
              clear c7
              have H' := Aside0.mk H
              clear H
              have p6 : 0 ≤ (x6_1 : Int) := of_decide_eq_true (by first | (with_reducible assumption) | assumption)
              have q6 : x6_1 < (a0.size : Int) := of_decide_eq_true (by first | (with_reducible assumption) | assumption)
              have hx6 := bt_at a0 x6_1
              replace p6 := eq_true p6
              replace q6 := eq_true q6
              go_wp2
              go_roundg k1
              case measure => have := HK1.out; omega
              case rel => exact ⟨(wrap64 (x6_1 + 1)), (by first | rfl | (simp; done) | (simp [*]; done)), H', ⟨by have := HK1.out; omega⟩, by repeat (first | exact Drawn0.refl _ | apply Drawn0.step)⟩
            · rw [if_neg c7] at H
              have c7b0 : ((bt a0 x6_1) == a1) = false := beq_eq_false_iff_ne.mpr c7
              have c7b1 : ((bt a0 x6_1) != a1) = true := bne_iff_ne.mpr c7
              obtain rfl := Option.some.inj H
              have p6 : 0 ≤ (x6_1 : Int) := of_decide_eq_true (by first | (with_reducible assumption) | assumption)
              have q6 : x6_1 < (a0.size : Int) := of_decide_eq_true (by first | (with_reducible assumption) | assumption)
              have hx6 := bt_at a0 x6_1
              replace p6 := eq_true p6
              replace q6 := eq_true q6
              go_wp2
              go_ret
              exact ⟨by first | rfl | (simp; done) | (simp [*]; done), by repeat (first | exact Drawn0.refl _ | apply Drawn0.step)⟩
          · rw [if_neg c5] at H
            exact absurd H (by simp)
        · rw [if_neg c4] at H
          exact absurd H (by simp)
      · rw [if_neg c3] at H
        have c3b0 : decide (x6_1 < (a0.size : Int)) = false := decide_eq_false c3
        clear c3
        obtain rfl := Option.some.inj H
        go_wp2
        go_ret
        exact ⟨by first | rfl | (simp; done) | (simp [*]; done), by repeat (first | exact Drawn0.refl _ | apply Drawn0.step)⟩

/-! ### goprompt_Document_FindEndOfCurrentWordWithSpace: function 66 -/
def goprompt_Document_FindEndOfCurrentWordWithSpace.f (k : Nat) (s0_0 : ByteArray) (s0_1 : Int) : Option (Int × ByteArray × Int) := (goprompt_Document_TextAfterCursor.f s0_0 s0_1).bind fun bt130 => ((strings_IndexNotByte.f k bt130.1 32).bind fun t133 => (if t133 = (-1) then (some ((bt130.1.size : Int), bt130.2.1, bt130.2.2)) else (if 0 ≤ t133 then (if t133 ≤ (bt130.1.size : Int) then ((strings_IndexByte.f (bt130.1.extract (t133 : Int).toNat bt130.1.size) 32).bind fun t134 => (if t134 = (-1) then (some ((bt130.1.size : Int), bt130.2.1, bt130.2.2)) else (some (wrap64 (t133 + t134), bt130.2.1, bt130.2.2)))) else (none)) else (none))))
theorem goprompt_Document_FindEndOfCurrentWordWithSpace.mono : ∀ a0 a1 k, LeO (goprompt_Document_FindEndOfCurrentWordWithSpace.f k a0 a1) (goprompt_Document_FindEndOfCurrentWordWithSpace.f (k + 1) a0 a1) := by
  intro a0 a1 k
  unfold goprompt_Document_FindEndOfCurrentWordWithSpace.f
  repeat' first
      | (with_reducible exact strings_IndexNotByte.mono _ _ _)
      | (with_reducible exact LeO.refl _)
      | (with_reducible exact LeO.none _)
      | (with_reducible refine LeO.ite ?_ ?_)
      | (with_reducible refine LeO.bind ?_ (fun _ => ?_))
      | exact strings_IndexNotByte.mono _ _ _
      | exact LeO.none _
      | refine LeO.ite ?_ ?_
      | refine LeO.bind ?_ (fun _ => ?_)
set_option maxHeartbeats 8000000 in
set_option maxRecDepth 100000 in
theorem goprompt_Document_FindEndOfCurrentWordWithSpace.calls (k : Nat) (g : Nat) (s0_0 : ByteArray) (s0_1 : Int) (r1 : Int) (r2 : ByteArray) (r3 : Int) (w0 w : World) (hI : IsS127 w0 w g s0_0 s0_1) (hB : Below w0.heap.size w0 w) (h : goprompt_Document_FindEndOfCurrentWordWithSpace.f k s0_0 s0_1 = some (r1, r2, r3)) :
    Calls Try.prog 66 #[.pointer (some ⟨g, 0, none⟩)] w fun e w' => e = .returned (.int .i64 r1) ∧ IsS127 w0 w' g r2 r3 ∧ Below w0.heap.size w0 w' ∧ KeepBut w w' g none := by
  have HI0 := Aside0.mk hI
  have HK := Aside0.mk (KeepBut.refl w g none)
  have HL := Aside0.mk hB.size
  clear hI
  have HW0 := Aside0.mk hB.size
  have HB := Aside0.mk hB
  clear hB
  have H : ((goprompt_Document_TextAfterCursor.f s0_0 s0_1).bind fun bt130 => ((strings_IndexNotByte.f k bt130.1 32).bind fun t133 => (if t133 = (-1) then (some ((bt130.1.size : Int), bt130.2.1, bt130.2.2)) else (if 0 ≤ t133 then (if t133 ≤ (bt130.1.size : Int) then ((strings_IndexByte.f (bt130.1.extract (t133 : Int).toNat bt130.1.size) 32).bind fun t134 => (if t134 = (-1) then (some ((bt130.1.size : Int), bt130.2.1, bt130.2.2)) else (some (wrap64 (t133 + t134), bt130.2.1, bt130.2.2)))) else (none)) else (none))))) = some (r1, r2, r3) := h
  clear h
  replace H := Option.bind_eq_some_iff.mp H
  obtain ⟨⟨t130, t131, t132⟩, A20, H⟩ := H
  replace H : ((strings_IndexNotByte.f k t130 32).bind fun t133 => (if t133 = (-1) then (some ((t130.size : Int), t131, t132)) else (if 0 ≤ t133 then (if t133 ≤ (t130.size : Int) then ((strings_IndexByte.f (t130.extract (t133 : Int).toNat t130.size) 32).bind fun t134 => (if t134 = (-1) then (some ((t130.size : Int), t131, t132)) else (some (wrap64 (t133 + t134), t131, t132)))) else (none)) else (none)))) = some (r1, r2, r3) := H
  have A2 := Aside0.mk A20
  clear A20
  replace H := Option.bind_eq_some_iff.mp H
  obtain ⟨t133, A30, H⟩ := H
  replace H : (if t133 = (-1) then (some ((t130.size : Int), t131, t132)) else (if 0 ≤ t133 then (if t133 ≤ (t130.size : Int) then ((strings_IndexByte.f (t130.extract (t133 : Int).toNat t130.size) 32).bind fun t134 => (if t134 = (-1) then (some ((t130.size : Int), t131, t132)) else (some (wrap64 (t133 + t134), t131, t132)))) else (none)) else (none))) = some (r1, r2, r3) := H
  have A3 := Aside0.mk A30
  clear A30
  by_cases c4 : t133 = (-1)
  · rw [if_pos c4] at H
    have c4b0 : (t133 == (-1)) = true := beq_iff_eq.mpr c4
    have c4b1 : (t133 != (-1)) = false := bne_eq_false_iff_eq.mpr c4
    clear c4
    simp only [Option.some.injEq, Prod.mk.injEq] at H
    obtain ⟨rfl, rfl, rfl⟩ := H
    go_enter Try.func66, Try.ntmps66
    go_wp2_with (first | ((with_reducible refine gate_callee (f := 93) rfl ?_); refine goesL_ (some 7) rfl rfl Try.func93 (by kernel_rfl) rfl #[.pointer (some ⟨g, 0, none⟩)] rfl (by (try simp only [List.map_toArray, List.map_cons, List.map_nil]); first | done | rfl | (simp only [List.length_drop, List.length_take]; rfl)) ?_; (with_reducible refine (goprompt_Document_TextAfterCursor.calls g s0_0 s0_1 t130 t131 t132 w0 _ ?side1 ?side2 A2.out).mono ?_); (case side1 => repeat (first | (with_reducible first | exact HI0.out | apply IsS127.alloc | apply IsS127.drewN | apply IsS127.drew | apply IsS127.set_0 | apply IsS127.set_1) | exact HI0.out)); (case side2 => repeat (first | (with_reducible first | exact HB.out | apply below_alloc | apply pw_below_drewN | apply below_drew1 | refine below_set ?_ (IsS127.ge HI0.out)) | exact HB.out)); rintro e w5 ⟨rfl, hi, hb, hk⟩; refine ⟨_, rfl, ?_⟩; have n0_ := Aside0.mk (KeepBut.trans (by repeat (first | (with_reducible first | exact HK.out | apply KeepBut.set_ | apply keep_drewN | apply keep_drew | apply keep_alloc) | exact HK.out)) hk (.inl rfl)); have n1_ := Aside0.mk (hb); have n2_ := Aside0.mk (hi); clear HK; clear HB; clear HI0; have HK := n0_; have HB := n1_; have HI0 := n2_; clear n0_ n1_ n2_; (try clear hb); (try clear hb2); (try clear hk); (try clear hi)) | ((with_reducible refine gate_callee (f := 95) rfl ?_); refine goesL_ (some 9) rfl rfl Try.func95 (by kernel_rfl) rfl #[.string t130, .int .u8 32] rfl (by (try simp only [List.map_toArray, List.map_cons, List.map_nil]); first | done | rfl | (simp only [List.length_drop, List.length_take]; rfl)) ?_; (with_reducible refine (strings_IndexNotByte.calls k t130 32 t133 _ A3.out).mono ?_); rintro e w' ⟨rfl, ⟨nd, rfl⟩⟩; refine ⟨_, rfl, ?_⟩))
    go_ret
    exact ⟨by first | rfl | (simp [errW_none, errW_some] <;> rfl) | (simp [*, errW_none, errW_some] <;> rfl), by repeat (first | (with_reducible first | exact HI0.out | apply IsS127.alloc | apply IsS127.drewN | apply IsS127.drew | apply IsS127.set_0 | apply IsS127.set_1) | exact HI0.out), by repeat (first | (with_reducible first | exact HB.out | apply below_alloc | apply pw_below_drewN | apply below_drew1 | refine below_set ?_ (IsS127.ge HI0.out)) | exact HB.out), by repeat (first | (with_reducible first | exact HK.out | apply KeepBut.set_ | apply keep_drewN | apply keep_drew | apply keep_alloc) | exact HK.out)⟩
  · rw [if_neg c4] at H
    have c4b0 : (t133 == (-1)) = false := beq_eq_false_iff_ne.mpr c4
    have c4b1 : (t133 != (-1)) = true := bne_iff_ne.mpr c4
    by_cases c6 : 0 ≤ t133
    · rw [if_pos c6] at H
      have c6b0 := eq_true c6
      have c6b1 : decide (0 ≤ t133) = true := decide_eq_true c6
      clear c6
      by_cases c7 : t133 ≤ (t130.size : Int)
      · rw [if_pos c7] at H
        have c7b0 := eq_true c7
        have c7b1 : decide (t133 ≤ (t130.size : Int)) = true := decide_eq_true c7
        clear c7
        replace H := Option.bind_eq_some_iff.mp H
        obtain ⟨t134, A80, H⟩ := H
        replace H : (if t134 = (-1) then (some ((t130.size : Int), t131, t132)) else (some (wrap64 (t133 + t134), t131, t132))) = some (r1, r2, r3) := H
        have A8 := Aside0.mk A80
        clear A80
        by_cases c9 : t134 = (-1)
        · rw [if_pos c9] at H
          have c9b0 : (t134 == (-1)) = true := beq_iff_eq.mpr c9
          have c9b1 : (t134 != (-1)) = false := bne_eq_false_iff_eq.mpr c9
          clear c9
          simp only [Option.some.injEq, Prod.mk.injEq] at H
          obtain ⟨rfl, rfl, rfl⟩ := H
          go_enter Try.func66, Try.ntmps66
          go_wp2_with (first | ((with_reducible refine gate_callee (f := 93) rfl ?_); refine goesL_ (some 7) rfl rfl Try.func93 (by kernel_rfl) rfl #[.pointer (some ⟨g, 0, none⟩)] rfl (by (try simp only [List.map_toArray, List.map_cons, List.map_nil]); first | done | rfl | (simp only [List.length_drop, List.length_take]; rfl)) ?_; (with_reducible refine (goprompt_Document_TextAfterCursor.calls g s0_0 s0_1 t130 t131 t132 w0 _ ?side1 ?side2 A2.out).mono ?_); (case side1 => repeat (first | (with_reducible first | exact HI0.out | apply IsS127.alloc | apply IsS127.drewN | apply IsS127.drew | apply IsS127.set_0 | apply IsS127.set_1) | exact HI0.out)); (case side2 => repeat (first | (with_reducible first | exact HB.out | apply below_alloc | apply pw_below_drewN | apply below_drew1 | refine below_set ?_ (IsS127.ge HI0.out)) | exact HB.out)); rintro e w10 ⟨rfl, hi, hb, hk⟩; refine ⟨_, rfl, ?_⟩; have n0_ := Aside0.mk (KeepBut.trans (by repeat (first | (with_reducible first | exact HK.out | apply KeepBut.set_ | apply keep_drewN | apply keep_drew | apply keep_alloc) | exact HK.out)) hk (.inl rfl)); have n1_ := Aside0.mk (hb); have n2_ := Aside0.mk (hi); clear HK; clear HB; clear HI0; have HK := n0_; have HB := n1_; have HI0 := n2_; clear n0_ n1_ n2_; (try clear hb); (try clear hb2); (try clear hk); (try clear hi)) | ((with_reducible refine gate_callee (f := 95) rfl ?_); refine goesL_ (some 9) rfl rfl Try.func95 (by kernel_rfl) rfl #[.string t130, .int .u8 32] rfl (by (try simp only [List.map_toArray, List.map_cons, List.map_nil]); first | done | rfl | (simp only [List.length_drop, List.length_take]; rfl)) ?_; (with_reducible refine (strings_IndexNotByte.calls k t130 32 t133 _ A3.out).mono ?_); rintro e w' ⟨rfl, ⟨nd, rfl⟩⟩; refine ⟨_, rfl, ?_⟩) | ((with_reducible refine gate_callee (f := 94) rfl ?_); refine goesL_ (some 17) rfl rfl Try.func94 (by kernel_rfl) rfl #[.string (t130.extract (t133 : Int).toNat t130.size), .int .u8 32] rfl (by (try simp only [List.map_toArray, List.map_cons, List.map_nil]); first | done | rfl | (simp only [List.length_drop, List.length_take]; rfl)) ?_; (with_reducible refine (strings_IndexByte.calls (t130.extract (t133 : Int).toNat t130.size) 32 t134 _ A8.out).mono ?_); rintro e w11 ⟨rfl, hb⟩; refine ⟨_, rfl, ?_⟩; have n0_ := Aside0.mk (IsS127.below (by repeat (first | (with_reducible first | exact HI0.out | apply IsS127.alloc | apply IsS127.drewN | apply IsS127.drew | apply IsS127.set_0 | apply IsS127.set_1) | exact HI0.out)) hb); have n1_ := Aside0.mk (KeepBut.trans (by repeat (first | (with_reducible first | exact HK.out | apply KeepBut.set_ | apply keep_drewN | apply keep_drew | apply keep_alloc) | exact HK.out)) (KeepBut.of_below hb g none) (.inl rfl)); have n2_ := Aside0.mk (below_step (by repeat (first | (with_reducible first | exact HB.out | apply below_alloc | apply pw_below_drewN | apply below_drew1 | refine below_set ?_ (IsS127.ge HI0.out)) | exact HB.out)) hb); clear HI0; clear HK; clear HB; have HI0 := n0_; have HK := n1_; have HB := n2_; clear n0_ n1_ n2_; (try clear hb); (try clear hb2); (try clear hk); (try clear hi)))
          go_ret
          exact ⟨by first | rfl | (simp [errW_none, errW_some] <;> rfl) | (simp [*, errW_none, errW_some] <;> rfl), by repeat (first | (with_reducible first | exact HI0.out | apply IsS127.alloc | apply IsS127.drewN | apply IsS127.drew | apply IsS127.set_0 | apply IsS127.set_1) | exact HI0.out), by repeat (first | (with_reducible first | exact HB.out | apply below_alloc | apply pw_below_drewN | apply below_drew1 | refine below_set ?_ (IsS127.ge HI0.out)) | exact HB.out), by repeat (first | (with_reducible first | exact HK.out | apply KeepBut.set_ | apply keep_drewN | apply keep_drew | apply keep_alloc) | exact HK.out)⟩
        · rw [if_neg c9] at H
          have c9b0 : (t134 == (-1)) = false := beq_eq_false_iff_ne.mpr c9
          have c9b1 : (t134 != (-1)) = true := bne_iff_ne.mpr c9
          simp only [Option.some.injEq, Prod.mk.injEq] at H
          obtain ⟨rfl, rfl, rfl⟩ := H
          go_enter Try.func66, Try.ntmps66
          go_wp2_with (first | ((with_reducible refine gate_callee (f := 93) rfl ?_); refine goesL_ (some 7) rfl rfl Try.func93 (by kernel_rfl) rfl #[.pointer (some ⟨g, 0, none⟩)] rfl (by (try simp only [List.map_toArray, List.map_cons, List.map_nil]); first | done | rfl | (simp only [List.length_drop, List.length_take]; rfl)) ?_; (with_reducible refine (goprompt_Document_TextAfterCursor.calls g s0_0 s0_1 t130 t131 t132 w0 _ ?side1 ?side2 A2.out).mono ?_); (case side1 => repeat (first | (with_reducible first | exact HI0.out | apply IsS127.alloc | apply IsS127.drewN | apply IsS127.drew | apply IsS127.set_0 | apply IsS127.set_1) | exact HI0.out)); (case side2 => repeat (first | (with_reducible first | exact HB.out | apply below_alloc | apply pw_below_drewN | apply below_drew1 | refine below_set ?_ (IsS127.ge HI0.out)) | exact HB.out)); rintro e w12 ⟨rfl, hi, hb, hk⟩; refine ⟨_, rfl, ?_⟩; have n0_ := Aside0.mk (KeepBut.trans (by repeat (first | (with_reducible first | exact HK.out | apply KeepBut.set_ | apply keep_drewN | apply keep_drew | apply keep_alloc) | exact HK.out)) hk (.inl rfl)); have n1_ := Aside0.mk (hb); have n2_ := Aside0.mk (hi); clear HK; clear HB; clear HI0; have HK := n0_; have HB := n1_; have HI0 := n2_; clear n0_ n1_ n2_; (try clear hb); (try clear hb2); (try clear hk); (try clear hi)) | ((with_reducible refine gate_callee (f := 95) rfl ?_); refine goesL_ (some 9) rfl rfl Try.func95 (by kernel_rfl) rfl #[.string t130, .int .u8 32] rfl (by (try simp only [List.map_toArray, List.map_cons, List.map_nil]); first | done | rfl | (simp only [List.length_drop, List.length_take]; rfl)) ?_; (with_reducible refine (strings_IndexNotByte.calls k t130 32 t133 _ A3.out).mono ?_); rintro e w' ⟨rfl, ⟨nd, rfl⟩⟩; refine ⟨_, rfl, ?_⟩) | ((with_reducible refine gate_callee (f := 94) rfl ?_); refine goesL_ (some 17) rfl rfl Try.func94 (by kernel_rfl) rfl #[.string (t130.extract (t133 : Int).toNat t130.size), .int .u8 32] rfl (by (try simp only [List.map_toArray, List.map_cons, List.map_nil]); first | done | rfl | (simp only [List.length_drop, List.length_take]; rfl)) ?_; (with_reducible refine (strings_IndexByte.calls (t130.extract (t133 : Int).toNat t130.size) 32 t134 _ A8.out).mono ?_); rintro e w13 ⟨rfl, hb⟩; refine ⟨_, rfl, ?_⟩; have n0_ := Aside0.mk (IsS127.below (by repeat (first | (with_reducible first | exact HI0.out | apply IsS127.alloc | apply IsS127.drewN | apply IsS127.drew | apply IsS127.set_0 | apply IsS127.set_1) | exact HI0.out)) hb); have n1_ := Aside0.mk (KeepBut.trans (by repeat (first | (with_reducible first | exact HK.out | apply KeepBut.set_ | apply keep_drewN | apply keep_drew | apply keep_alloc) | exact HK.out)) (KeepBut.of_below hb g none) (.inl rfl)); have n2_ := Aside0.mk (below_step (by repeat (first | (with_reducible first | exact HB.out | apply below_alloc | apply pw_below_drewN | apply below_drew1 | refine below_set ?_ (IsS127.ge HI0.out)) | exact HB.out)) hb); clear HI0; clear HK; clear HB; have HI0 := n0_; have HK := n1_; have HB := n2_; clear n0_ n1_ n2_; (try clear hb); (try clear hb2); (try clear hk); (try clear hi)))
          go_ret
          exact ⟨by first | rfl | (simp [errW_none, errW_some] <;> rfl) | (simp [*, errW_none, errW_some] <;> rfl), by repeat (first | (with_reducible first | exact HI0.out | apply IsS127.alloc | apply IsS127.drewN | apply IsS127.drew | apply IsS127.set_0 | apply IsS127.set_1) | exact HI0.out), by repeat (first | (with_reducible first | exact HB.out | apply below_alloc | apply pw_below_drewN | apply below_drew1 | refine below_set ?_ (IsS127.ge HI0.out)) | exact HB.out), by repeat (first | (with_reducible first | exact HK.out | apply KeepBut.set_ | apply keep_drewN | apply keep_drew | apply keep_alloc) | exact HK.out)⟩
      · rw [if_neg c7] at H
        exact absurd H (by simp)
    · rw [if_neg c6] at H
      exact absurd H (by simp)

-- NOT PRINTED: function 36 (impl_WordPlaces)

end Go.Proofs.Ythkblefeifdhaaa.PWordPlaces
