/- A buffer of a text (goprompt.Buffer): its state in memory, how it is made, the stores into it, and text that is put in (not over other text); for text of ASCII and a cursor in it. -/
import Derived.Test.YthbdaoapjnofkaaQHRec
import Derived.Deep.RegionLaw
import Derived.BigRegion
import Derived.Test.YthbdaoapjnofkaaQXPure
import Derived.StillTailTactics
import Derived.IntWalk
namespace Go.Proofs.Ythbdaoapjnofkaa.H
open Go.RowKit Go.Proofs.YthbdaoapjnofkaaW.PrintWords Go.Proofs.YthbdaoapjnofkaaW.PrintLast Go.Proofs.Ythbdaoapjnofkaa.R
set_option linter.unusedVariables false
set_option linter.unusedSimpArgs false
abbrev Pt (b : Nat) : Value := .pointer (some ⟨b, 0, none⟩)
/-- A document at block d. -/
def Doc (w : World) (d : Nat) (t : ByteArray) (p : Int) : Prop := Rec w d [.string t, .int .i64 p] 83
/-- What a buffer holds for its document: none, or one of the call's own. -/
def Cache (w : World) (B : Nat) (cv : Value) : Prop := cv = .pointer none ∨ ∃ d t p, cv = Pt d ∧ Doc w d t p ∧ B ≤ d
def bcells (g : Nat) (p : Int) (cv : Value) (q : Int) : List Value := [.slice (some ⟨g, 0, none⟩) 1 1, .int .i64 0, .int .i64 p, cv, .int .i64 q]
/-- A buffer at block m, its text in block g. -/
def BS (w : World) (B m g : Nat) (t : ByteArray) (p q : Int) : Prop := ∃ cv, Rec w m (bcells g p cv q) 81 ∧ One w g (.string t) 9 ∧ Cache w B cv ∧ B ≤ m ∧ B ≤ g
/-- All stays but the blocks m and g. -/
def Only (B m g : Nat) (w w' : World) : Prop := Below B w w' ∧ ∀ k, k < w.heap.size → k ≠ m → k ≠ g → w'.heap[k]? = w.heap[k]?
section
variable {B m g b d : Nat} {w w1 w2 : World} {v u cv : Value} {t : TypeId} {l : List Value} {s : ByteArray} {p q : Int}
theorem Only.refl (B m g : Nat) (w : World) : Only B m g w w := ⟨Below.refl _ _, fun _ _ _ _ => rfl⟩
theorem Only.trans (h : Only B m g w w1) (k : Only B m g w1 w2) : Only B m g w w2 := ⟨h.1.trans k.1, fun i hi a c => (k.2 i (Nat.lt_of_lt_of_le hi h.1.size) a c).trans (h.2 i hi a c)⟩
theorem Only.alloc (h : Only B m g w w1) (hB : B ≤ w1.heap.size) (o : Obj) : Only B m g w (w1.alloc o) := ⟨h.1.alloc hB o, fun i hi a c => (Below.heap_alloc w1 o i (Nat.lt_of_lt_of_le hi h.1.size)).trans (h.2 i hi a c)⟩
theorem Only.drew (h : Only B m g w w1) : Only B m g w w1.drew := ⟨h.1.drew, h.2⟩
theorem Only.drewN (h : Only B m g w w1) (n : Nat) : Only B m g w (w1.drewN n) := ⟨pw_below_drewN h.1 n, h.2⟩
theorem Only.set (h : Only B m g w w1) (hb : b = m ∨ b = g ∨ w.heap.size ≤ b) (hB : B ≤ b) (i : Nat) (u : Value) : Only B m g w (w1.setCell ⟨b, i, none⟩ u) :=
  ⟨h.1.setCell hB u, fun k hk a c => (Below.heap_setCell w1 ⟨b, i, none⟩ u k (by show k ≠ b; rintro rfl; rcases hb with e | e | e <;> first | exact a e | exact c e | omega)).trans (h.2 k hk a c)⟩
theorem Only.of_below (h : Below w.heap.size w w1) (hB : B ≤ w.heap.size) : Only B m g w w1 := ⟨h.mono hB, fun k hk _ _ => h.block k hk⟩
theorem Only.behind (h : Only B m g w w1) (k : Below w1.heap.size w1 w2) (hB : B ≤ w1.heap.size) : Only B m g w w2 := h.trans (Only.of_below k hB)
theorem Only.rec (h : Only B m g w w1) (ho : Rec w b l t) (hm : b ≠ m) (hg : b ≠ g) : Rec w1 b l t := (h.2 b ho.lt hm hg).trans ho
theorem Cache.move (h : Cache w B cv) (hk : ∀ d t p, cv = Pt d → Doc w d t p → w1.heap[d]? = w.heap[d]?) : Cache w1 B cv := by
  rcases h with h | ⟨d, t, p, rfl, hd, hB⟩
  · exact .inl h
  · exact .inr ⟨d, t, p, rfl, (hk d t p rfl hd).trans hd, hB⟩
theorem Cache.below (h : Cache w B cv) (hb : Below w.heap.size w w1) : Cache w1 B cv := h.move fun d t p _ hd => hb.block d hd.lt
theorem Cache.new (w : World) (hd : Doc w d s p) (hB : B ≤ d) : Cache w B (Pt d) := .inr ⟨d, s, p, rfl, hd, hB⟩
theorem rec_ne {t' : TypeId} {l' : List Value} {b' : Nat} (h : Rec w b l t) (k : Rec w b' l' t') (ht : t ≠ t') : b ≠ b' := by
  rintro rfl
  have e := (show w.heap[b]? = _ from h).symm.trans (show w.heap[b]? = _ from k)
  injection e with e; injection e with _ e
  exact ht e
theorem BS.below (h : BS w B m g s p q) (hb : Below w.heap.size w w1) : BS w1 B m g s p q := by
  obtain ⟨cv, h1, h2, h3, h4, h5⟩ := h
  exact ⟨cv, h1.stays hb, h2.stays hb, h3.below hb, h4, h5⟩
theorem BS.alloc (h : BS w B m g s p q) (o : Obj) : BS (w.alloc o) B m g s p q := h.below ((Below.refl _ _).alloc (Nat.le_refl _) o)
theorem BS.drewN (h : BS w B m g s p q) (n : Nat) : BS (w.drewN n) B m g s p q := h.below (pw_below_drewN (Below.refl _ _) n)
theorem BS.lt (h : BS w B m g s p q) : B ≤ w.heap.size ∧ m < w.heap.size ∧ g < w.heap.size := by
  obtain ⟨cv, h1, h2, h3, h4, h5⟩ := h
  have := h1.lt
  have := h2.lt
  omega
theorem BS.ne (h : BS w B m g s p q) : m ≠ g := by
  obtain ⟨cv, h1, h2, h3, h4, h5⟩ := h
  exact rec_ne h1 h2.rec (by decide)
/-- The text is another one. -/
theorem BS.text (h : BS w B m g s p q) (s' : ByteArray) : BS (w.setCell ⟨g, 0, none⟩ (.string s')) B m g s' p q := by
  have hne := h.ne
  obtain ⟨cv, h1, h2, h3, h4, h5⟩ := h
  exact ⟨cv, h1.other (by exact hne) _, h2.set _, h3.move fun d t p _ hd => Below.heap_setCell w _ _ d (rec_ne hd h2.rec (by decide)), h4, h5⟩
/-- The place is another one. -/
theorem BS.place (h : BS w B m g s p q) (p' : Int) : BS (w.setCell ⟨m, 2, none⟩ (.int .i64 p')) B m g s p' q := by
  have hne := h.ne
  obtain ⟨cv, h1, h2, h3, h4, h5⟩ := h
  exact ⟨cv, h1.set 2 _, h2.other (by exact hne.symm) _, h3.move fun d t p _ hd => Below.heap_setCell w _ _ d (rec_ne hd h1 (by decide)), h4, h5⟩
/-- The document is another one. -/
theorem BS.doc (h : BS w B m g s p q) {s' : ByteArray} {p' : Int} (hd : Doc w d s' p') (hB : B ≤ d) : BS (w.setCell ⟨m, 3, none⟩ (Pt d)) B m g s p q := by
  have hne := h.ne
  obtain ⟨cv, h1, h2, h3, h4, h5⟩ := h
  have hdm := rec_ne hd h1 (by decide)
  exact ⟨Pt d, h1.set 3 _, h2.other (by exact hne.symm) _, .inr ⟨d, s', p', rfl, hd.other (by exact hdm) _, hB⟩, h4, h5⟩
end
end Go.Proofs.Ythbdaoapjnofkaa.H
namespace Go.Proofs.Ythbdaoapjnofkaa.H
open Go.RowKit Go.Proofs.YthbdaoapjnofkaaW.PrintWords Go.Proofs.YthbdaoapjnofkaaW.PrintLast Go.Proofs.Ythbdaoapjnofkaa.R
set_option linter.unusedVariables false
set_option linter.unusedSimpArgs false
section
variable {B m g : Nat} {w : World} {s : ByteArray} {p q : Int}
set_option maxHeartbeats 1000000 in
theorem NewBuffer_calls (w : World) : Calls Try.prog 41 #[] w fun e w' => e = .returned (Pt (w.heap.size + 1)) ∧ BS w' w.heap.size (w.heap.size + 1) w.heap.size ⟨#[]⟩ 0 (-1) ∧ Below w.heap.size w w' := by
  have h0 := One.new w (.string ⟨#[]⟩) 9
  have h1 := Rec.at_ (b := w.heap.size + 1) (w.alloc (.cells #[.string ⟨#[]⟩] 9)) (bcells w.heap.size 0 (.pointer none) (-1)) 81 (by simp)
  have h2 := h0.alloc (.cells (bcells w.heap.size 0 (.pointer none) (-1)).toArray 81)
  have hb := ((Below.refl w.heap.size w).alloc (Nat.le_refl _) (.cells #[.string ⟨#[]⟩] 9)).alloc (by simp) (.cells (bcells w.heap.size 0 (.pointer none) (-1)).toArray 81)
  have HB : BS ((w.alloc (.cells #[.string ⟨#[]⟩] 9)).alloc (.cells (bcells w.heap.size 0 (.pointer none) (-1)).toArray 81)) w.heap.size (w.heap.size + 1) w.heap.size ⟨#[]⟩ 0 (-1) := ⟨_, h1, h2, .inl rfl, by omega, Nat.le_refl _⟩
  have HH := Lib.hid (And.intro HB hb)
  clear h0 h1 h2 hb HB
  go_enter Try.func41, Try.ntmps41
  go_wp2
  go_ret
  exact ⟨rfl, HH.out.1, HH.out.2⟩
theorem DocumentAt_calls (s : ByteArray) (p : Int) (w : World) : Calls Try.prog 29 #[.string s, .int .i64 p] w fun e w' => e = .returned (Pt w.heap.size) ∧ w' = w.alloc (.cells #[.string s, .int .i64 p] 83) := by
  go_enter Try.func29, Try.ntmps29
  go_wp2
  go_ret
  exact ⟨rfl, rfl⟩
theorem setCursor_calls (h : BS w B m g s p q) (p' : Int) (hp : 0 ≤ p') : Calls Try.prog 54 #[Pt m, .int .i64 p'] w fun e w' => e = .returned (.tuple #[]) ∧ w' = w.setCell ⟨m, 2, none⟩ (.int .i64 p') := by
  obtain ⟨cv, h1, h2, h3, h4, h5⟩ := h
  have k2 := h1.cell 2 rfl
  have z2 := h1.free 2
  by_cases h0 : 0 < p'
  · go_enter Try.func54, Try.ntmps54
    go_wp2
    go_end0
    exact ⟨rfl, rfl⟩
  · obtain rfl : p' = 0 := by omega
    go_enter Try.func54, Try.ntmps54
    go_wp2
    go_end0
    exact ⟨rfl, rfl⟩
set_option maxHeartbeats 1000000 in
theorem setText_calls (h : BS w B m g s p q) (v : ByteArray) : Calls Try.prog 55 #[Pt m, .string v] w fun e w' => e = .returned (.tuple #[]) ∧ ∃ n, w' = (w.setCell ⟨g, 0, none⟩ (.string v)).drewN n := by
  obtain ⟨cv, h1, h2, h3, h4, h5⟩ := h
  have k0 := h1.cell 0 rfl
  have k1 := h1.cell 1 rfl
  have k2 := h2.cell
  have z2 := h2.free
  go_enter Try.func55, Try.ntmps55
  go_wp2
  go_region
  go_end0
  exact ⟨rfl, 1, rfl⟩
theorem Text_calls (h : BS w B m g s p q) : Calls Try.prog 25 #[Pt m] w fun e w' => e = .returned (.string s) ∧ ∃ n, w' = w.drewN n := by
  obtain ⟨cv, h1, h2, h3, h4, h5⟩ := h
  have k0 := h1.cell 0 rfl
  have k1 := h1.cell 1 rfl
  have k2 := h2.cell
  go_enter Try.func25, Try.ntmps25
  go_wp2
  go_quiet (fail)
  go_wp2
  go_ret
  exact ⟨rfl, _, rfl⟩
theorem setCursor_bs (h : BS w B m g s p q) (p' : Int) (hp : 0 ≤ p') : Calls Try.prog 54 #[Pt m, .int .i64 p'] w fun e w' => e = .returned (.tuple #[]) ∧ BS w' B m g s p' q ∧ Only B m g w w' := by
  have hm : B ≤ m := by obtain ⟨_, _, _, _, a, _⟩ := h; exact a
  refine (setCursor_calls h p' hp).mono ?_
  rintro e w' ⟨rfl, rfl⟩
  exact ⟨rfl, h.place p', (Only.refl B m g w).set (.inl rfl) hm _ _⟩
theorem setText_bs (h : BS w B m g s p q) (v : ByteArray) : Calls Try.prog 55 #[Pt m, .string v] w fun e w' => e = .returned (.tuple #[]) ∧ BS w' B m g v p q ∧ Only B m g w w' := by
  have hg : B ≤ g := by obtain ⟨_, _, _, _, _, a⟩ := h; exact a
  refine (setText_calls h v).mono ?_
  rintro e w' ⟨rfl, n, rfl⟩
  exact ⟨rfl, (h.text v).drewN n, ((Only.refl B m g w).set (.inr (.inl rfl)) hg _ _).drewN n⟩
/-- What a walk reads and stores of a buffer. -/
theorem BS.reads (h : BS w B m g s p q) : w.cell? ⟨m, 2, none⟩ = some (.int .i64 p) ∧ w.frozen? ⟨m, 2, none⟩ = false ∧ w.cell? ⟨m, 4, none⟩ = some (.int .i64 q) ∧ w.frozen? ⟨m, 4, none⟩ = false := by
  obtain ⟨cv, h1, h2, h3, h4, h5⟩ := h
  exact ⟨h1.cell 2 rfl, h1.free 2, h1.cell 4 rfl, h1.free 4⟩
theorem BS.ge (h : BS w B m g s p q) : B ≤ m ∧ B ≤ g := by
  obtain ⟨cv, h1, h2, h3, h4, h5⟩ := h
  exact ⟨h4, h5⟩
set_option maxHeartbeats 1000000 in
theorem setDocument_calls {d : Nat} {s' : ByteArray} {p' : Int} (h : BS w B m g s p q) (hd : Doc w d s' p') (hB : B ≤ d) (hp : 0 ≤ p') : Calls Try.prog 42 #[Pt m, Pt d] w fun e w' => e = .returned (.tuple #[]) ∧ BS w' B m g s' p' q ∧ Only B m g w w' := by
  have h1 := h.doc hd hB
  have hne := h.ne
  have hge := h.ge
  have hO1 := (Only.refl B m g w).set (.inl rfl) hge.1 3 (Pt d)
  have hdm : d ≠ m ∧ d ≠ g := by
    obtain ⟨cv, a1, a2, a3, a4, a5⟩ := h
    exact ⟨rec_ne hd a1 (by decide), rec_ne hd a2.rec (by decide)⟩
  obtain ⟨cv, a1, a2, a3, a4, a5⟩ := h
  have k3 := a1.cell 3 rfl
  have z3 := a1.free 3
  have hd1 : Doc (w.setCell ⟨m, 3, none⟩ (Pt d)) d s' p' := hO1.rec hd hdm.1 hdm.2
  have d1 := hd1.cell 1 rfl
  have HC := Lib.hid (setCursor_bs h1 p' hp)
  have HX := Lib.hid (And.intro hd1 (And.intro hO1 hdm))
  clear h1 hO1 hd1 a1 a2 a3
  go_enter Try.func42, Try.ntmps42
  go_wp2_with (first
    | (go_at_call 54; refine HC.out.mono ?_; rintro e w2 ⟨rfl, hB2, hO2⟩; have hd2 := hO2.rec HX.out.1 HX.out.2.2.1 HX.out.2.2.2; have d2 := hd2.cell 0 rfl; have HB2 := Lib.hid hB2; have HO2 := Lib.hid hO2; clear hB2 hO2 hd2)
    | (go_at_call 55; refine (setText_bs HB2.out s').mono ?_; rintro e w3 ⟨rfl, hB3, hO3⟩; have HB3 := Lib.hid hB3; have HO3 := Lib.hid hO3; clear hB3 hO3))
  go_end0
  exact ⟨rfl, HB3.out, (HX.out.2.1.trans HO2.out).trans HO3.out⟩
set_option maxHeartbeats 1000000 in
theorem BufferAt_calls (s : ByteArray) (p : Int) (hp : 0 ≤ p) (w : World) : Calls Try.prog 21 #[.string s, .int .i64 p] w fun e w' => e = .returned (Pt (w.heap.size + 1)) ∧ BS w' w.heap.size (w.heap.size + 1) w.heap.size s p (-1) ∧ Below w.heap.size w w' := by
  have HN := Lib.hid (NewBuffer_calls w)
  have HP := Lib.hid hp
  clear hp
  go_enter Try.func21, Try.ntmps21
  go_wp2_with (first
    | (go_at_call 41; refine HN.out.mono ?_; rintro e w1 ⟨rfl, hB1, hb1⟩; have HB1 := Lib.hid hB1; have Hb1 := Lib.hid hb1; clear hB1 hb1)
    | (go_at_call 29; refine (DocumentAt_calls s p w1).mono ?_; rintro e w2 ⟨rfl, rfl⟩)
    | (go_at_call 42; refine (setDocument_calls (HB1.out.alloc _) (Rec.new w1 [.string s, .int .i64 p] 83) HB1.out.lt.1 HP.out).mono ?_; rintro e w3 ⟨rfl, hB3, hO3⟩; have HB3 := Lib.hid hB3; have HO3 := Lib.hid hO3; clear hB3 hO3))
  go_ret
  exact ⟨rfl, HB3.out, (Hb1.out.alloc Hb1.out.size _).trans HO3.out.1⟩
end
end Go.Proofs.Ythbdaoapjnofkaa.H
namespace Go.Proofs.Ythbdaoapjnofkaa.H
open Go.RowKit Go.Proofs.YthbdaoapjnofkaaW.PrintWords Go.Proofs.YthbdaoapjnofkaaW.PrintLast Go.Proofs.Ythbdaoapjnofkaa.R Go.Proofs.Ythbdaoapjnofkaa.X
set_option linter.unusedVariables false
set_option linter.unusedSimpArgs false
section
variable {B m g p : Nat} {w : World} {s : ByteArray} {q : Int}
theorem take_text (hasc : Asc s) (a b : Nat) : runesBytes (((ints s).drop a).take (b - a)) = s.extract a b := ints_inj (by
  rw [ints_runesBytes _ (fun x hx => asc_ints hasc x (List.mem_of_mem_drop (List.mem_of_mem_take hx))), ints_extract])
/-- 'string(rs[a:b])' of the code points of a text of ASCII. -/
theorem piece_str (w : World) (r cap a b c : Nat) (hasc : Asc s) (hab : a ≤ b) (hb : b ≤ s.size) (hr : Rec w r (runeCells (ints s) cap) 21) :
    (convert 87 9 (.slice (some ⟨r, a, none⟩) (b - a) c)).run Try.prog w = .ok (.string (s.extract a b)) w := by
  have := runes_str (P := Try.prog) w 87 9 21 r a c (((ints s).drop a).take (b - a)) (b - a) (by rw [List.length_take, List.length_drop, ints_length]; omega) (by kernel_rfl) (by kernel_rfl) (by kernel_rfl) (fun j hj => by
    rw [List.length_take, List.length_drop, ints_length] at hj
    have h1 := runeCells_at (ints s) cap (a + j) (by rw [ints_length]; omega)
    rw [hr.cell (a + j) h1]
    congr 2
    rw [List.getD_eq_getElem?_getD, List.getD_eq_getElem?_getD, List.getElem?_take_of_lt (by omega), List.getElem?_drop])
  rw [this, take_text hasc]
set_option maxHeartbeats 4000000 in
set_option maxRecDepth 100000 in
theorem Insert_calls (h : BS w B m g s p q) (hasc : Asc s) (hs : s.size ≤ 1000000) (hp : p ≤ s.size) (v : ByteArray) (hv : v.size ≤ 1000000) (hva : Asc v) : Calls Try.prog 43 #[Pt m, .string v, .bool false, .bool true] w fun e w' => e = .returned (.tuple #[]) ∧ BS w' B m g (s.extract 0 p ++ v ++ s.extract p s.size) ((p + v.size : Nat) : Int) q ∧ Only B m g w w' := by
  have hcv := fun W => runes_run (P := Try.prog) W 9 87 21 s (by kernel_rfl) (by kernel_rfl) (by kernel_rfl) (by omega)
  rw [runesOf_asc hasc, ints_length] at hcv
  have HT := Lib.hid (Text_calls h)
  have HH := Lib.hid h
  clear h
  go_enter Try.func43, Try.ntmps43
  go_wp2_with (go_at_call 25; refine HT.out.mono ?_; rintro e w1 ⟨rfl, n1, rfl⟩; have hB2 := (HH.out.drewN (n1 + 1)).alloc (.cells (runeCells (ints s) (grownCap (w.drewN n1) s.size 0 21)).toArray 21); have hz := hB2.lt; obtain ⟨cv, h1, h2, h3, h4, h5⟩ := hB2; have k2 := h1.cell 2 rfl; have hr := Rec.new (w.drewN (n1 + 1)) (runeCells (ints s) (grownCap (w.drewN n1) s.size 0 21)) 21)
  have hcap : s.size ≤ grownCap (w.drewN n1) s.size 0 21 := grownCap_ge _ _ _ _
  have HW := Lib.hid (And.intro hz hr)
  generalize grownCap (w.drewN n1) s.size 0 21 = cap at *
  generalize hW : (w.drewN (n1 + 1)).alloc (.cells (runeCells (ints s) cap).toArray 21) = W at *
  have f1 : p ≤ cap := Nat.le_trans hp hcap
  have f2 : (p : Int) ≤ (cap : Int) := by omega
  have f3 : (p : Int) ≤ (s.size : Int) := by omega
  have f4 : (9223372036854775807 < p + v.size) = False := eq_false (by omega)
  have f5 : (9223372036854775807 < p + v.size + (s.size - p)) = False := eq_false (by omega)
  have hA : (convert 87 9 (.slice (some ⟨w.heap.size, 0, none⟩) p cap)).run Try.prog W.drew = .ok (.string (s.extract 0 p)) W.drew := piece_str W.drew _ cap 0 p cap hasc (by omega) hp hr
  have hC : (convert 87 9 (.slice (if cap = p then some ⟨w.heap.size, 0, none⟩ else some ⟨w.heap.size, p, none⟩) (s.size - p) (cap - p))).run Try.prog W.drew = .ok (.string (s.extract p s.size)) W.drew := by
    by_cases e : cap = p
    · rw [if_pos e]
      obtain rfl : p = s.size := by omega
      have := piece_str W.drew _ cap 0 0 (cap - s.size) hasc (by omega) (by omega) hr
      rw [show s.extract s.size s.size = s.extract 0 0 from ints_inj (by rw [ints_extract, ints_extract]; simp)]
      simpa using this
    · rw [if_neg e]
      exact piece_str W.drew _ cap p s.size (cap - p) hasc hp (Nat.le_refl _) hr
  go_still_tail 12, (by kernel_rfl)
  change wpList _ _ _ _ _ W.drew
  have hBW : BS W.drew B m g s p q := (show BS W B m g s p q from ⟨cv, h1, h2, h3, h4, h5⟩).drewN 1
  have hOW : Only B m g w W.drew := hW ▸ (((Only.refl B m g w).drewN (n1 + 1)).alloc (by have := HH.out.lt.1; exact this) _).drew
  have HT2 := Lib.hid (setText_bs hBW (s.extract 0 p ++ v ++ s.extract p s.size))
  have HO := Lib.hid hOW
  have hcv2 := fun W => runes_run (P := Try.prog) W 9 87 21 v (by kernel_rfl) (by kernel_rfl) (by kernel_rfl) (by omega)
  rw [runesOf_asc hva, ints_length] at hcv2
  have e1 : IntKind.i64.wrap ((p : Int) + (v.size : Int)) = ((p + v.size : Nat) : Int) := by rw [IntWalk.i64_in _ (by omega)]; omega
  clear hA hC hcv f1 f2 f3 f4 f5 h1 h2 h3 h4 h5 k2 hr HW hBW hOW hW hz hcap
  generalize W.drew = W2 at *
  go_wp2_with (go_at_call 55; refine HT2.out.mono ?_; rintro e w3 ⟨rfl, hB3, hO3⟩; have hB4 := (hB3.drewN 1).alloc (.cells (runeCells (ints v) (grownCap w3 v.size 0 21)).toArray 21); have HB4 := Lib.hid hB4; have HO4 := Lib.hid (((HO.out.trans hO3).drewN 1).alloc (by have := hB3.lt.1; exact this) (.cells (runeCells (ints v) (grownCap w3 v.size 0 21)).toArray 21)); have k2 := hB3.reads.1; obtain ⟨k4, z4, _, _⟩ := hB4.reads; obtain ⟨k5, z5, _, _⟩ := (hB3.alloc (.cells (runeCells (ints v) (grownCap w3 v.size 0 21)).toArray 21)).reads; clear hB3 hO3 hB4)
  all_goals
    go_end0
    refine ⟨rfl, HB4.out.place _, HO4.out.set (.inl rfl) HB4.out.ge.1 _ _⟩
end
end Go.Proofs.Ythbdaoapjnofkaa.H
