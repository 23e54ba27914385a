/- A completer of words is made (readline.PcItem, impl.items): its nodes lie in blocks of the call's own; for ASCII words. -/
import Derived.Test.YthbdaoapjnofkaaDoorQHCmC
import Derived.Test.YthbdaoapjnofkaaDoorQPFnCompletedCursorx0
namespace Go.Proofs.YthbdaoapjnofkaaDoor.H
open Go.RowKit Go.Proofs.YthbdaoapjnofkaaDoorW.PrintWords Go.Proofs.YthbdaoapjnofkaaDoorW.PrintLast Go.Proofs.YthbdaoapjnofkaaDoor.R Go.Proofs.YthbdaoapjnofkaaDoor.X Go.Proofs.YthbdaoapjnofkaaDoor.PFnCompletedCursor
set_option linter.unusedVariables false
set_option linter.unusedSimpArgs false
attribute [local go_sem ↓] Go.wp_at_zero Go.wp_at_succ
/-- A completer in memory, all of whose blocks are of a set. -/
def TrIn (S : Nat → Prop) : Nat → World → Nat → Tr → Prop
  | 0, _, _, _ => False
  | d + 1, w, m, t => S m ∧ ∃ b nc cb kA kc nm, S b ∧ Rec w m [.slice (some ⟨b, 0, none⟩) nm.length nc, .bool t.dyn, cb, .slice kA t.kids.length kc] 109 ∧ nm.length ≤ nc ∧ t.kids.length ≤ kc ∧ t.kids.length ≤ 1000000 ∧ t.dyn = false ∧ t.names = [nm] ∧ ((∃ cs fz, w.heap[b]? = some (.cells cs 21 fz)) ∧ ∀ j, j < nm.length → w.cell? ⟨b, j, none⟩ = some (.int .i32 (nm.getD j 0))) ∧ nm.length ≤ 1000000 ∧ (∀ x ∈ nm, 0 ≤ x ∧ x < 128) ∧ 0 < nm.length ∧
      ∀ j k, t.kids[j]? = some k → ∃ g p, kA = some ⟨g, 0, none⟩ ∧ S g ∧ w.cell? ⟨g, j, none⟩ = some (.iface 80 (PtS p)) ∧ TrIn S d w p k
theorem TrIn.move {S S' : Nat → Prop} : ∀ {d : Nat} {w w1 : World} {m : Nat} {t : Tr}, TrIn S d w m t → (∀ k, k < w.heap.size → S k → w1.heap[k]? = w.heap[k]? ∧ S' k) → TrIn S' d w1 m t
  | 0, _, _, _, _, h, _ => h.elim
  | d + 1, w, w1, m, t, h, hm => by
    obtain ⟨hS, b, nc, cb, kA, kc, nm, hb, h0, h1, h2, h3, h4, h5, h6, h7, h8, hpos, h9⟩ := h
    have hbl : b < w.heap.size := cell_lt (h6.2 0 hpos)
    obtain ⟨⟨cs, fz, h6t⟩, h6⟩ := h6
    refine ⟨(hm m h0.lt hS).2, b, nc, cb, kA, kc, nm, (hm b hbl hb).2, (hm m h0.lt hS).1.trans h0, h1, h2, h3, h4, h5, ⟨⟨cs, fz, (hm b hbl hb).1.trans h6t⟩, fun j hj => (cell_block (a := ⟨b, j, none⟩) (hm b hbl hb).1).trans (h6 j hj)⟩, h7, h8, hpos, fun j k hj => ?_⟩
    obtain ⟨g, p, e, hg, hc, ht⟩ := h9 j k hj
    have hgl : g < w.heap.size := cell_lt hc
    exact ⟨g, p, e, (hm g hgl hg).2, (cell_block (a := ⟨g, j, none⟩) (hm g hgl hg).1).trans hc, ht.move hm⟩
theorem TrIn.below {S : Nat → Prop} {d : Nat} {w w1 : World} {m : Nat} {t : Tr} (h : TrIn S d w m t) (hb : Below w.heap.size w w1) : TrIn S d w1 m t := h.move fun k hk hS => ⟨hb.block k hk, hS⟩
theorem TrIn.up {S : Nat → Prop} : ∀ {d : Nat} {w : World} {m : Nat} {t : Tr}, TrIn S d w m t → TrIn S (d + 1) w m t
  | 0, _, _, _, h => h.elim
  | d + 1, w, m, t, h => by
    obtain ⟨hS, b, nc, cb, kA, kc, nm, hb, h0, h1, h2, h3, h4, h5, h6, h7, h8, hpos, h9⟩ := h
    refine ⟨hS, b, nc, cb, kA, kc, nm, hb, h0, h1, h2, h3, h4, h5, h6, h7, h8, hpos, fun j k hj => ?_⟩
    obtain ⟨g, p, e, hg, hc, ht⟩ := h9 j k hj
    exact ⟨g, p, e, hg, hc, ht.up⟩
theorem TrIn.upto {S : Nat → Prop} {d D : Nat} {w : World} {m : Nat} {t : Tr} (h : TrIn S d w m t) (hd : d ≤ D) : TrIn S D w m t := by
  obtain ⟨n, rfl⟩ := Nat.exists_eq_add_of_le hd
  induction n with
  | zero => exact h
  | succ n ih => exact (ih (by omega)).up
theorem TrIn.at_ {S : Nat → Prop} : ∀ {d : Nat} {w : World} {m : Nat} {t : Tr}, TrIn S d w m t → TrAt d w m t
  | 0, _, _, _, h => h.elim
  | d + 1, w, m, t, h => by
    obtain ⟨hS, b, nc, cb, kA, kc, nm, hb, h0, h1, h2, h3, h4, h5, h6, h7, h8, hpos, h9⟩ := h
    refine ⟨_, cb, kA, kc, h0, h2, h3, .inl ⟨h4, some ⟨b, 0, none⟩, nc, nm, rfl, h1, h5, ?_, h7, h8⟩, fun j k hj => ?_⟩
    · obtain ⟨⟨cs, fz, h6t⟩, h6⟩ := h6
      refine ⟨_, _, rfl, h1, ?_, fun _ => ⟨_, cs, fz, rfl, h6t⟩⟩
      refine Kd.C_of_reads (enc := Value.int .i32) (d := (0 : Int)) ⟨rfl, by omega, fun _ => ⟨_, rfl, fun j hj => ?_⟩⟩
      have e : (⟨b, 0, none⟩ : Addr).add j = ⟨b, j, none⟩ := by
        cases j with
        | zero => rfl
        | succ j => simp [Addr.add]
      rw [e]; exact h6 j hj
    · obtain ⟨g, p, e, hg, hc, ht⟩ := h9 j k hj
      exact ⟨g, p, e, hc, ht.at_⟩
set_option maxRecDepth 100000 in
set_option maxHeartbeats 2000000 in
theorem PcItem_calls (s : ByteArray) (kA : Option Addr) (kn kc : Nat) (w : World) (ha : Asc s) (hs : s.size ≤ 100000) :
    Calls Tryd.prog 51 #[.string s, .slice kA kn kc] w fun e w' => ∃ m b nc cb, e = .returned (PtS m) ∧ Rec w' m [.slice (some ⟨b, 0, none⟩) (nmOf s).length nc, .bool false, cb, .slice kA kn kc] 109 ∧ ((∃ cs fz, w'.heap[b]? = some (.cells cs 21 fz)) ∧ ∀ j, j < (nmOf s).length → w'.cell? ⟨b, j, none⟩ = some (.int .i32 ((nmOf s).getD j 0))) ∧ (nmOf s).length ≤ nc ∧ w.heap.size ≤ m ∧ w.heap.size ≤ b ∧ Below w.heap.size w w' := by
  obtain ⟨S, hS⟩ : ∃ S : ByteArray, S = s ++ ⟨#[32]⟩ := ⟨_, rfl⟩
  have hSz : S.size = s.size + 1 := by rw [hS, ByteArray.size_append]; rfl
  have hcv := fun W : World => runes_run (P := Tryd.prog) W 9 27 21 S (by kernel_rfl) (by kernel_rfl) (by kernel_rfl) (by omega)
  have hro : runesOf S = nmOf s := by rw [hS, runesOf_asc (asc_blank ha), ints_blank]
  rw [hro] at hcv
  subst hS
  clear hSz
  go_enter Tryd.func51, Tryd.ntmps51
  go_wp2_with fail
  go_ret
  obtain ⟨C, hC⟩ : ∃ C, C = grownCap w (nmOf s).length 0 21 := ⟨_, rfl⟩
  rw [← hC]
  have hge : (nmOf s).length ≤ C := hC ▸ grownCap_ge w (nmOf s).length 0 21
  have h1 : w.heap.size + 1 = (w.alloc (.cells (runeCells (nmOf s) C).toArray 21)).heap.size := by simp
  refine ⟨w.heap.size + 1, w.heap.size, C, .nilFunc, rfl, (Rec.at_ (b := w.heap.size + 1) (w.alloc (.cells (runeCells (nmOf s) C).toArray 21)) [.slice (some ⟨w.heap.size, 0, none⟩) (nmOf s).length C, .bool false, .nilFunc, .slice kA kn kc] 109 h1).drew, ⟨⟨_, _, ((Rec.new w (runeCells (nmOf s) C) 21).alloc _).drew⟩, fun j hj => ?_⟩, hge, by omega, Nat.le_refl _, (((Below.refl _ _).alloc (Nat.le_refl _) _).alloc (by simp) _).drew⟩
  exact (((Rec.new w (runeCells (nmOf s) C) 21).alloc _).drew).cell j (runeCells_at _ _ j hj)
/-- The completers beneath one. -/
def KidsIn (S : Nat → Prop) (D : Nat) (w : World) (kA : Option Addr) (kids : List Tr) : Prop := ∀ (j : Nat) (k : Tr), kids[j]? = some k → ∃ g p, kA = some ⟨g, 0, none⟩ ∧ S g ∧ w.cell? ⟨g, j, none⟩ = some (.iface 80 (PtS p)) ∧ TrIn S D w p k
theorem KidsIn.move {S S' : Nat → Prop} {D : Nat} {w w1 : World} {kA : Option Addr} {kids : List Tr} (h : KidsIn S D w kA kids) (hm : ∀ k, k < w.heap.size → S k → w1.heap[k]? = w.heap[k]? ∧ S' k) : KidsIn S' D w1 kA kids := fun j k hj => by
  obtain ⟨g, p, e, hg, hc, ht⟩ := h j k hj
  have hgl : g < w.heap.size := cell_lt hc
  exact ⟨g, p, e, (hm g hgl hg).2, (cell_block (a := ⟨g, j, none⟩) (hm g hgl hg).1).trans hc, ht.move hm⟩
theorem PcItem_tree (S : Nat → Prop) (D : Nat) (s : ByteArray) (kA : Option Addr) (kc : Nat) (kids : List Tr) (w : World) (ha : Asc s) (hs : s.size ≤ 100000) (hk : KidsIn S D w kA kids) (hkc : kids.length ≤ kc) (hkl : kids.length ≤ 1000000) (hS : ∀ k, w.heap.size ≤ k → S k) :
    Calls Tryd.prog 51 #[.string s, .slice kA kids.length kc] w fun e w' => ∃ m, e = .returned (PtS m) ∧ TrIn S (D + 1) w' m (.node false [nmOf s] kids) ∧ Below w.heap.size w w' := by
  refine (PcItem_calls s kA kids.length kc w ha hs).mono ?_
  rintro e w' ⟨m, b, nc, cb, rfl, hr, hc, hl, hm, hb, hbw⟩
  refine ⟨m, rfl, ⟨hS m hm, b, nc, cb, kA, kc, nmOf s, hS b hb, hr, hl, hkc, hkl, rfl, rfl, hc, by rw [nmOf_length]; omega, fun x hx => ?_, by rw [nmOf_length]; omega, ?_⟩, hbw⟩
  · rcases List.mem_append.1 hx with h1 | h1
    · exact asc_ints ha x h1
    · simp at h1; omega
  · exact hk.move fun k hk' hS' => ⟨hbw.block k hk', hS'⟩
/-- The completers that a row of words makes. -/
def parseF : Nat → List S88 → Option (List Tr)
  | 0, _ => none
  | k + 1, [] => some []
  | k + 1, x :: r => if 1 ≤ x.f1 ∧ x.f1 ≤ (r.length : Int) + 1 then (parseF k (r.take (x.f1.toNat - 1))).bind fun ks => (parseF k (r.drop (x.f1.toNat - 1))).bind fun more => some (.node false [nmOf x.f0] ks :: more) else none
theorem parseF_len : ∀ (k : Nat) (l : List S88) (F : List Tr), parseF k l = some F → F.length ≤ l.length
  | 0, _, _, h => by simp [parseF] at h
  | k + 1, [], F, h => by simp [parseF] at h; subst h; simp
  | k + 1, x :: r, F, h => by
    unfold parseF at h
    by_cases hc : 1 ≤ x.f1 ∧ x.f1 ≤ (r.length : Int) + 1
    · rw [if_pos hc] at h
      obtain ⟨ks, h1, h⟩ := Option.bind_eq_some_iff.mp h
      obtain ⟨more, h2, h⟩ := Option.bind_eq_some_iff.mp h
      obtain rfl := Option.some.inj h
      have := parseF_len k _ _ h2
      rw [List.length_drop] at this
      simp only [List.length_cons]
      omega
    · rw [if_neg hc] at h; cases h
theorem mid_run (A : Option Addr) (n c a b : Nat) (h1 : a ≤ b) (h2 : b ≤ n) (hc : n ≤ c) : ∀ W : World, (Instr.slice 44 (.slice A n c) (some (.int .i64 (a : Int))) (some (.int .i64 (b : Int))) none).run Tryd.prog W = .ok (.slice (if c = a then A else A.map (·.add (a * 2))) (b - a) (c - a)) W := by
  intro W
  have hel : Tryd.prog.elem 44 = 88 := by kernel_rfl
  have hu : Tryd.prog.underlying 44 = some (.slice (Tryd.prog.elem 44)) := by rw [hel]; exact Tryd.underlying44
  obtain ⟨i0, hi, _, hsz, _⟩ := info_parts info88
  rw [run_slice_lh W 44 A n c hu .i64 .i64 (a : Int) (b : Int) (Int.natCast_nonneg _) (by omega) (by omega), hel]
  simp [sizeOf, typeInfo, hi, hsz, sliced, Result.andThen]
end Go.Proofs.YthbdaoapjnofkaaDoor.H
