/- What a writer has behind steps that all do what they should (impl.Wrote), where the table of powers of ten is as it was laid; for at most 800000 bytes. -/
import Derived.Test.YtanadaamipfmkaaDoorQHVtN
namespace Go.Proofs.YtanadaamipfmkaaDoor.H
open Go.RowKit Go.Proofs.YtanadaamipfmkaaDoorW.PrintWords Go.Proofs.YtanadaamipfmkaaDoorW.PrintLast Go.Proofs.YtanadaamipfmkaaDoor.R Go.Proofs.YtanadaamipfmkaaDoor.X
set_option linter.unusedVariables false
set_option linter.unusedSimpArgs false
attribute [local go_sem ↓] Go.wp_at_zero Go.wp_at_succ
/-- A new writer. -/
theorem VS.new (w : World) : VS (w.alloc (.cells #[.slice none 0 0] 72)) w.heap.size w.heap.size none 0 [] := ⟨Rec.new w [.slice none 0 0] 72, World.ownsRow_nil _ _ 5 1, Nat.le_refl _⟩
/-- A step of a writer. -/
structure Ow where
  op : Int
  n : Int
  m : Int
  text : ByteArray
/-- A step does its bytes. -/
def Does (x : Ow) (o : List Int) : Prop := ∀ (N m c : Nat) (T : Option Addr) (w : World) (bs : List Int), VS w N m T c bs → bs.length ≤ 800000 → TabH w →
  Calls Tryd.prog 43 #[Wp m, .agg #[.int .i64 x.op, .int .i64 x.n, .int .i64 x.m, .string x.text]] w fun e w' => e = .returned (.bool true) ∧ ∃ T' c', VT N m T bs.length c w T' c' (bs ++ o) w'
def ORd (w : World) (B : Nat) (A : Option Addr) (l : List Ow) : Prop := ∀ (j : Nat) (k : Ow), l[j]? = some k → ∃ ad, A = some ad ∧ (ad.add (j * 4)).block < B ∧ w.cell? (ad.add (j * 4)) = some (.int .i64 k.op) ∧ w.cell? ⟨(ad.add (j * 4)).block, (ad.add (j * 4)).off + 1, none⟩ = some (.int .i64 k.n) ∧ w.cell? ⟨(ad.add (j * 4)).block, (ad.add (j * 4)).off + 2, none⟩ = some (.int .i64 k.m) ∧ w.cell? ⟨(ad.add (j * 4)).block, (ad.add (j * 4)).off + 3, none⟩ = some (.string k.text)
theorem ORd.below {w w1 : World} {B : Nat} {A : Option Addr} {l : List Ow} (h : ORd w B A l) (hb : Below B w w1) : ORd w1 B A l := fun j k hj => by
  obtain ⟨ad, e, hlt, h0, h1, h2, h3⟩ := h j k hj
  exact ⟨ad, e, hlt, (hb.cell (p := ad.add (j * 4)) hlt).trans h0, (hb.cell (p := ⟨(ad.add (j * 4)).block, _, none⟩) hlt).trans h1, (hb.cell (p := ⟨(ad.add (j * 4)).block, _, none⟩) hlt).trans h2, (hb.cell (p := ⟨(ad.add (j * 4)).block, _, none⟩) hlt).trans h3⟩
set_option maxRecDepth 100000 in
set_option maxHeartbeats 8000000 in
theorem Wrote_calls (A : Option Addr) (c : Nat) (l : List Ow) (f : Ow → List Int) (w : World) (hl : l.length ≤ 100000) (hlc : l.length ≤ c) (hA : ORd w w.heap.size A l) (hn : ∀ x ∈ l, -9223372036854775807 ≤ x.n ∧ x.n ≤ 9223372036854775807) (hd : ∀ x ∈ l, Does x (f x)) (hs : ∀ i, ((l.take i).flatMap f).length ≤ 800000) (hT : TabH w) :
    Calls Tryd.prog 20 #[.slice A l.length c] w fun e w' => e = .returned (.tuple #[.string (strOfNums (l.flatMap f)), .bool true]) ∧ Below w.heap.size w w' := by
  have HV := Lib.hid (VS.new w)
  have HB := Lib.hid (Below.alloc (Below.refl w.heap.size w) (Nat.le_refl _) (.cells #[.slice none 0 0] 72))
  have HA := Lib.hid hA
  have HD := Lib.hid (And.intro hn (And.intro hd hs))
  have HTT := Lib.hid hT
  clear hA hn hd hs hT
  go_enter Tryd.func20, Tryd.ntmps20
  go_wp2_with fail
  go_loopw [11] (fun vi wr => ∃ (i : Nat) (Ti : Option Addr) (ci : Nat), i ≤ l.length ∧ vi = .int .i64 i ∧ VS wr w.heap.size w.heap.size Ti ci ((l.take i).flatMap f) ∧ Below w.heap.size w wr) (fun vi _ => l.length - (intOf vi).toNat)
  case atStart => exact ⟨0, none, 0, Nat.zero_le _, rfl, HV.out, HB.out⟩
  case round =>
    obtain ⟨i, Ti, ci, hil, rfl, hV, hb⟩ := hrel
    have HL := Lib.hid (And.intro hV hb)
    by_cases hlt : i < l.length
    · obtain ⟨ad, rfl, h0, e0, e1, e2, e3⟩ := (HA.out.below hb) i l[i] (List.getElem?_eq_getElem hlt)
      have hm := List.getElem_mem hlt
      have HN := Lib.hid (HD.out.1 _ hm)
      have hnx : (l.take (i + 1)).flatMap f = (l.take i).flatMap f ++ f l[i] := by
        rw [List.take_succ_eq_append_getElem hlt, List.flatMap_append]; simp
      have b1 := Below.alloc (Below.refl wr.heap.size wr) (Nat.le_refl _) (.cells #[.int .i64 l[i].op, .int .i64 l[i].n, .int .i64 l[i].m, .string l[i].text] 38)
      have nb := Rec.new wr [.int .i64 l[i].op, .int .i64 l[i].n, .int .i64 l[i].m, .string l[i].text] 38
      have hst := HD.out.2.1 _ hm _ _ _ _ _ _ (hV.stays b1) (HD.out.2.2 i) ((HTT.out.below hb).below b1)
      have HX := Lib.hid (And.intro hnx (And.intro hst (hb.trans (b1.mono hb.size))))
      clear hV hb h0 hm hnx b1 hst
      generalize l[i] = x at *
      obtain ⟨op, n, m, text⟩ := x
      dsimp only at e0 e1 e2 e3 nb HN
      have k0 := nb.cell 0 rfl
      have k1 := nb.cell 1 rfl
      have k2 := nb.cell 2 rfl
      have k3 := nb.cell 3 rfl
      clear nb
      by_cases hz : n = 0
      · subst hz
        go_wp2_with fail
        refine HX.out.2.1.mono ?_
        rintro e w2 ⟨rfl, T', c', hT⟩
        have HT := Lib.hid (And.intro hT.state (HX.out.2.2.trans hT.below))
        clear hT
        go_wp2_with fail
        go_roundw
        case rel => exact ⟨i + 1, T', c', by omega, by go_num, by rw [HX.out.1]; exact HT.out.1, HT.out.2⟩
        case measure => simp only [intOf]; omega
      · have hwn : IntKind.i64.wrap (-n) = -n := IntWalk.i64_in _ (by have := HN.out; omega)
        have hne : (n == -n) = false := beq_eq_false_iff_ne.2 (by omega)
        clear hz
        go_wp2_with fail
        refine HX.out.2.1.mono ?_
        rintro e w2 ⟨rfl, T', c', hT⟩
        have HT := Lib.hid (And.intro hT.state (HX.out.2.2.trans hT.below))
        clear hT
        go_wp2_with fail
        go_roundw
        case rel => exact ⟨i + 1, T', c', by omega, by go_num, by rw [HX.out.1]; exact HT.out.1, HT.out.2⟩
        case measure => simp only [intOf]; omega
    · obtain rfl : i = l.length := by omega
      rw [List.take_length] at hV
      obtain ⟨X, hX⟩ : ∃ X, X = l.flatMap f := ⟨_, rfl⟩
      rw [← hX] at hV
      have HXX := Lib.hid hX
      clear hX
      have HV2 := Lib.hid hV
      have hs := own_string (P := Tryd.prog) Tryd.underlying47 Tryd.underlying5 Tryd.underlying9 hV.row
      clear hV
      go_wp2_with fail
      refine (Bytes_calls HV2.out).mono ?_
      rintro e w2 ⟨rfl, rfl⟩
      go_wp2_with fail
      go_ret2
      exact ⟨by rw [← HXX.out]; rfl, hb⟩
end Go.Proofs.YtanadaamipfmkaaDoor.H
