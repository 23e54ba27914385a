/- impl.MessageRead: the contract; no condition but bounds that its callers meet. -/
import Derived.Test.YthkblefeifdhaaaHMsgClosure
namespace Go.Proofs.Ythkblefeifdhaaa.H
open Go.RowKit Go.Proofs.YthkblefeifdhaaaW.PrintWords Go.Proofs.YthkblefeifdhaaaW.PrintLast Go.Proofs.Ythkblefeifdhaaa.R Go.Proofs.Ythkblefeifdhaaa.X
set_option linter.unusedVariables false
set_option linter.unusedSimpArgs false
attribute [local go_sem ↓] Go.wp_at_zero Go.wp_at_succ

/-- What was read: a message at block m, what is left at block g. -/
def Got (B : Nat) (w : World) (m g o kd : Nat) (dv : Value) (d rest : List Int) : Prop :=
  Rec w m [.int .i16 kd, dv] 73 ∧ BOwn w m dv d ∧ (∀ j, j < rest.length → w.cell? ⟨g, o + j, none⟩ = some (.int .u8 (rest.getD j 0))) ∧ B ≤ m ∧ B ≤ g
theorem Got.set {B : Nat} {w : World} {m g o kd : Nat} {dv : Value} {d rest : List Int} (h : Got B w m g o kd dv d rest) (b : Nat) (hb : b < B) (u : Value) : Got B (w.setCell ⟨b, 0, none⟩ u) m g o kd dv d rest := by
  obtain ⟨h1, h2, h3, h4, h5⟩ := h
  refine ⟨h1.other (by show m ≠ b; omega) u, ?_, fun j hj => (cell_far (by show g ≠ b; omega) u).trans (h3 j hj), h4, h5⟩
  exact own_move h2 (fun k hk => Below.heap_setCell w ⟨b, 0, none⟩ u k (by have := (World.ownsRow.lt h2 k hk).1; show k ≠ b; omega))
theorem msg_closure2 (qs qm qr qe n kd B0 : Nat) (s : ByteArray) (d rest : List Int) (w : World) (hs : One w qs (.string s) 9) (hm : One w qm (.pointer none) 69) (hr : One w qr (.slice none 0 0) 26) (he : One w qe .nilIface 77)
    (h1 : qm ≠ qr) (h2 : qm ≠ qe) (h3 : qr ≠ qe) (hz : s.size ≤ 100000) (hx : ints s = head6 n kd ++ (d ++ rest)) (hn : d.length = n) (hl : n ≤ 500) (hk : kd < 32768) (hB1 : B0 ≤ qm) (hB2 : B0 ≤ qr) (hB3 : B0 ≤ qe) :
    Calls Try.prog 48 #[.pointer (some ⟨qs, 0, none⟩), .pointer (some ⟨qm, 0, none⟩), .pointer (some ⟨qr, 0, none⟩), .pointer (some ⟨qe, 0, none⟩)] w fun e w' => e = .returned (.tuple #[]) ∧
      (∀ b v t, One w b v t → b ≠ qm → b ≠ qr → b ≠ qe → One w' b v t) ∧
      ∃ m o c' dv, Got w.heap.size w' m w.heap.size o kd dv d rest ∧ One w' qm (.pointer (some ⟨m, 0, none⟩)) 69 ∧ One w' qr (.slice (some ⟨w.heap.size, o, none⟩) rest.length c') 26 ∧ One w' qe .nilIface 77 ∧ Below B0 w w' := by
  refine (msg_closure qs qm qr qe n kd s d rest w hs hm hr he h1 h2 h3 hz hx hn hl hk).mono ?_
  rintro e w' ⟨rfl, w1, m, o, c', dv, hb, hmb, hrec, hown, hcell, rfl⟩
  have lm := hm.lt
  have lr := hr.lt
  have le := he.lt
  have hG : Got w.heap.size w1 m w.heap.size o kd dv d rest := ⟨hrec, hown, hcell, by omega, Nat.le_refl _⟩
  refine ⟨rfl, fun b v t ho q1 q2 q3 => ?_, m, o, c', dv, ((hG.set qm lm _).set qr lr _).set qe le _, ?_, ?_, ?_, ?_⟩
  · exact (((ho.stays hb).other q1 _).other q2 _).other q3 _
  · exact (((hm.stays hb).set _).other h1 _).other h2 _
  · exact (((hr.stays hb).other (Ne.symm h1) _).set _).other h3 _
  · exact (((he.stays hb).other (Ne.symm h2) _).other (Ne.symm h3) _).set _
  · exact (((hb.mono (by omega)).setCell (p := ⟨qm, 0, none⟩) hB1 _).setCell (p := ⟨qr, 0, none⟩) hB2 _).setCell (p := ⟨qe, 0, none⟩) hB3 _
theorem enter48 (args : Array Value) (w : World) : (callFunc 48 args).run Try.prog w = .ok (.enter 48 args) w := enters (P := Try.prog) Try.func48 (by kernel_rfl) rfl args w
end Go.Proofs.Ythkblefeifdhaaa.H
