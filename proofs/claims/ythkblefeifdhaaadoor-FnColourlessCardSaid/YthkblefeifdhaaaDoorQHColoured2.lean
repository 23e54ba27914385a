/- A text without colours, or that there is none (impl.Colourless, its closure, and impl.caught over a function that panics); for texts of at most 1000000 bytes. -/
import Derived.Test.YthkblefeifdhaaaDoorQHColour
namespace Go.Proofs.YthkblefeifdhaaaDoor.H
open Go.RowKit Go.Proofs.YthkblefeifdhaaaDoorW.PrintWords Go.Proofs.YthkblefeifdhaaaDoorW.PrintLast Go.Proofs.YthkblefeifdhaaaDoor.R Go.Proofs.YthkblefeifdhaaaDoor.X
set_option linter.unusedVariables false
set_option linter.unusedSimpArgs false
theorem str_runes (w : World) (s : ByteArray) (hs : s.size ≤ 70368744177664) : ∃ c W1, (convert 9 26 (.string s)).run Tryd.prog w = .ok (.slice (some ⟨w.heap.size, 0, none⟩) (runesOf s).length c) W1 ∧ Kd.C (Kd.int .i32) W1 (some ⟨w.heap.size, 0, none⟩) (runesOf s).length (runesOf s) ∧ (runesOf s).length ≤ c ∧ Below w.heap.size w W1 ∧ W1.heap.size = w.heap.size + 1 := by
  have hl := runesOf_length s
  refine ⟨_, _, runes_run (P := Tryd.prog) w 9 26 21 s Tryd.underlying9 Tryd.underlying26 Tryd.underlying21 hs, ?_, grownCap_ge w _ 0 21, ((Below.refl w.heap.size w).drew).alloc (Nat.le_refl _) _, ?_⟩
  · refine Kd.C_of_reads (d := 0) ⟨rfl, by omega, fun _ => ⟨_, rfl, fun j hj => ?_⟩⟩
    have h1 := (Rec.new w.drew (runeCells (runesOf s) (grownCap w (runesOf s).length 0 21)) 21).cell j (runeCells_at _ _ j hj)
    have e : (⟨w.heap.size, 0, none⟩ : Addr).add j = ⟨w.heap.size, j, none⟩ := by
      cases j with
      | zero => rfl
      | succ j => simp [Addr.add]
    rw [e]
    exact h1
  · show (w.heap.push _).size = _
    rw [Array.size_push]
theorem caught_takes (p : Addr) (u : TypeId) (pv : Value) (x : Bool) (w : World) (hc : w.cell? p = some (.bool x)) (hz : w.frozen? p = false) :
    CallsD Tryd.prog 21 #[.pointer (some p)] (.panicking [{ v := .iface u pv, recovered := false }]) w fun e u' w' => e = .returned (.tuple #[]) ∧ u' = .panicking [{ v := .iface u pv, recovered := true }] ∧ w' = w.setCell p (.bool false) := by
  refine callsD_of_wpS Tryd.func21 rfl fun c₀ cs hu => ?_
  apply wpS_seq
  apply wpS_region
  simp [wpOpsS, go_sem, recoverD, hu, Tryd.ntmps21, Exit.thenS]
  refine wpS_cond (t := true) (by simp [Act.eval, Array.replicate]) ?_
  simp only [if_true]
  apply wpS_region
  simp [wpOpsS, go_sem, hc, hz, bodyPostS, results, Tryd.results21]
set_option maxHeartbeats 1000000 in
theorem caught_panics (g : Nat) (caps : Array Value) (w : World) (R : World → Prop)
    (hcf : ∀ args w, (callFunc g args).run Tryd.prog w = .ok (.enter g args) w)
    (hg : Calls Tryd.prog g caps (w.alloc (.cells #[.bool false] 4)) fun e w' => (∃ u v, e = .panicked [{ v := .iface u v, recovered := false }]) ∧ One w' w.heap.size (.bool false) 4 ∧ R w') :
    Calls Tryd.prog 13 #[.func (.func g) #[] caps] w fun e w' => e = .returned (.bool false) ∧ ∃ w1, R w1 ∧ One w1 w.heap.size (.bool false) 4 ∧ w' = w1.setCell ⟨w.heap.size, 0, none⟩ (.bool false) := by
  have hmf : ∀ (fn : Fn) (first cap : Array Value) (w : World), (Instr.makeFunc fn first cap).run Tryd.prog w = .ok (.func fn first cap) w := fun _ _ _ _ => rfl
  have HG := Lib.hid hg
  clear hg
  go_enter_defers Tryd.func13, Tryd.ntmps13
  go_wp2_with (refine HG.out.mono ?_; rintro e w1 ⟨⟨u, v, rfl⟩, hc1, hR1⟩; have hc := hc1.cell; have hz := hc1.free)
  have hc2 : (w1.setCell ⟨w.heap.size, 0, none⟩ (.bool false)).heap[w.heap.size]? = some (.cells #[.bool false] 4 (0, 0)) := one_setCell hc1
  have hc3 := cell_of_one hc2
  have HX : R w1 ∧ True := ⟨hR1, trivial⟩
  refine leaves_cons (f := 21) (args := #[.pointer (some ⟨w.heap.size, 0, none⟩)]) (by simp) (by simp [go_sem]) ?_
  refine (caught_takes ⟨w.heap.size, 0, none⟩ u v false _ hc hz).mono ?_
  rintro e u' w'' ⟨rfl, rfl, rfl⟩
  simp [Leaves, settle, results, Tryd.results13, go_sem, hc3]
  exact ⟨w1, hR1, hc1, rfl⟩
abbrev Pa (b : Nat) : Value := .pointer (some ⟨b, 0, none⟩)
/-- What a call leaves that turns block r at most. -/
def Keeps (r : Nat) (w w' : World) : Prop := w'.os = w.os ∧ w'.tape = w.tape ∧ w'.output = w.output ∧ w.heap.size ≤ w'.heap.size ∧ ∀ k, k < w.heap.size → k ≠ r → w'.heap[k]? = w.heap[k]?
theorem closure_some (q r : Nat) (s x : ByteArray) (o : List Int) (w : World) (hq : One w q (.string s) 9) (hr : One w r (.string x) 9) (hs : s.size ≤ 1000000) (ho : colL (runesOf s) = some o) :
    Calls Tryd.prog 14 #[Pa q, Pa r] w fun e w' => e = .returned (.tuple #[]) ∧ One w' r (.string (runesBytes o)) 9 ∧ Keeps r w w' := by
  obtain ⟨c, W1, hcv, hC, hc, hb, hz⟩ := str_runes w s (by omega)
  have hl := runesOf_length s
  have k0 := hq.cell
  have HC := Lib.hid (ColorFilter_calls (runesOf s) (some ⟨w.heap.size, 0, none⟩) c W1 (by omega) hC hc)
  have HX := Lib.hid (And.intro hr (And.intro hb (And.intro hz ho)))
  clear hq hr hC hc hb hz ho hl
  go_enter Tryd.func14, Tryd.ntmps14
  go_wp2_with fail
  refine HC.out.mono ?_
  rintro e w2 ⟨hb2, hE⟩
  rw [HX.out.2.2.2] at hE
  obtain ⟨v, rfl, hv⟩ := hE
  have hst := own_runesBytes (P := Tryd.prog) Tryd.underlying26 Tryd.underlying21 Tryd.underlying9 hv
  have hr2 := HX.out.1.stays (HX.out.2.1.trans (hb2.mono HX.out.2.1.size))
  have r0 := hr2.cell
  have r1 := hr2.free
  have HR2 := Lib.hid (And.intro hr2 (HX.out.2.1.trans (hb2.mono HX.out.2.1.size)))
  clear hb2 hv hr2
  go_wp2_with fail
  go_end0
  exact ⟨rfl, HR2.out.1.set _, HR2.out.2.os, HR2.out.2.tape, HR2.out.2.output, by have := HR2.out.2.size; simpa using this, fun k hk hkr => (Below.heap_setCell w2 _ _ k hkr).trans (HR2.out.2.block k hk)⟩
theorem closure_none (q r : Nat) (s x : ByteArray) (w : World) (hq : One w q (.string s) 9) (hr : One w r (.string x) 9) (hs : s.size ≤ 1000000) (ho : colL (runesOf s) = none) :
    Calls Tryd.prog 14 #[Pa q, Pa r] w fun e w' => (∃ u v, e = .panicked [{ v := .iface u v, recovered := false }]) ∧ Below w.heap.size w w' := by
  obtain ⟨c, W1, hcv, hC, hc, hb, hz⟩ := str_runes w s (by omega)
  have hl := runesOf_length s
  have k0 := hq.cell
  have HC := Lib.hid (ColorFilter_calls (runesOf s) (some ⟨w.heap.size, 0, none⟩) c W1 (by omega) hC hc)
  have HX := Lib.hid (And.intro hr (And.intro hb (And.intro hz ho)))
  clear hq hr hC hc hb hz ho hl
  go_enter Tryd.func14, Tryd.ntmps14
  go_wp2_with fail
  refine HC.out.mono ?_
  rintro e w2 ⟨hb2, hE⟩
  rw [HX.out.2.2.2] at hE
  obtain ⟨u, v, rfl⟩ := hE
  have HR2 := Lib.hid (HX.out.2.1.trans (hb2.mono HX.out.2.1.size))
  clear hb2
  go_wp2
  exact ⟨rfl, ⟨u, v, rfl⟩, HR2.out⟩
theorem enter_closure (args : Array Value) (w : World) : (callFunc 14 args).run Tryd.prog w = .ok (.enter 14 args) w := enters (P := Tryd.prog) Tryd.func14 (by kernel_rfl) rfl args w
/-- For texts of at most 1000000 bytes. -/
def impl_Colourless.f (s : ByteArray) : Option (ByteArray × Bool) := if s.size ≤ 1000000 then some (match colL (runesOf s) with | some o => (runesBytes o, true) | none => (⟨#[]⟩, false)) else none
theorem Colourless_some (s : ByteArray) (o : List Int) (w : World) (hs : s.size ≤ 1000000) (ho : colL (runesOf s) = some o) :
    Calls Tryd.prog 7 #[.string s] w fun e w' => e = .returned (.tuple #[.string (runesBytes o), .bool true]) ∧ Below w.heap.size w w' := by
  have hmf : ∀ (fn : Fn) (first cap : Array Value) (w : World), (Instr.makeFunc fn first cap).run Tryd.prog w = .ok (.func fn first cap) w := fun _ _ _ _ => rfl
  have q0 := ((One.new w (.string s) 9).alloc (.cells #[.string ⟨#[]⟩] 9)).alloc (.cells #[.bool false] 4)
  have r0 := (One.at_ (w.alloc (.cells #[.string s] 9)) (.string ⟨#[]⟩) 9 (b := w.heap.size + 1) (by simp)).alloc (.cells #[.bool false] 4)
  have b0 := One.at_ ((w.alloc (.cells #[.string s] 9)).alloc (.cells #[.string ⟨#[]⟩] 9)) (.bool false) 4 (b := w.heap.size + 1 + 1) (by simp)
  have bl := (((Below.refl w.heap.size w).alloc (Nat.le_refl _) (.cells #[.string s] 9)).alloc (by simp) (.cells #[.string ⟨#[]⟩] 9)).alloc (by simp; omega) (.cells #[.bool false] 4)
  have HG := Lib.hid (caught_calls 14 #[Pa w.heap.size, Pa (w.heap.size + 1)] ((w.alloc (.cells #[.string s] 9)).alloc (.cells #[.string ⟨#[]⟩] 9)) (fun w' => One w' (w.heap.size + 1) (.string (runesBytes o)) 9 ∧ Below w.heap.size w w') enter_closure
    ((closure_some w.heap.size (w.heap.size + 1) s ⟨#[]⟩ o _ q0 r0 hs ho).mono fun e w' ⟨he, h1, h2⟩ => ⟨he, by
        have hsz : ((w.alloc (.cells #[.string s] 9)).alloc (.cells #[.string ⟨#[]⟩] 9)).heap.size = w.heap.size + 1 + 1 := by simp
        rw [hsz]; exact (h2.2.2.2.2 _ (by simp) (by omega)).trans b0, h1,
      ⟨h2.1.trans bl.os, h2.2.1.trans bl.tape, h2.2.2.1.trans bl.output, Nat.le_trans bl.size h2.2.2.2.1, fun k hk => (h2.2.2.2.2 k (by simp; omega) (by omega)).trans (bl.block k hk)⟩⟩))
  clear q0 r0 b0 bl
  go_enter Tryd.func7, Tryd.ntmps7
  go_wp2_with fail
  refine HG.out.mono ?_
  rintro e w2 ⟨rfl, w1, ⟨hr, hb⟩, hc, rfl⟩
  have hsz : ((w.alloc (.cells #[.string s] 9)).alloc (.cells #[.string ⟨#[]⟩] 9)).heap.size = w.heap.size + 1 + 1 := by simp
  rw [hsz] at *
  have r2 := hr.other (a := ⟨w.heap.size + 1 + 1, 0, none⟩) (by simp) (.bool true)
  have k0 := r2.cell
  have k1 := r2.free
  have HB := Lib.hid (hb.setCell (p := ⟨w.heap.size + 1 + 1, 0, none⟩) (by show _ ≤ w.heap.size + 1 + 1; omega) (.bool true))
  have HR := Lib.hid r2
  clear hr hb hc r2
  go_wp2_with fail
  have k2 := (HR.out.set (.string (runesBytes o))).cell
  refine bodyPost_ret (v := .tuple #[.string (runesBytes o), .bool true]) (by simp [results, Tryd.results7, go_sem, k2]) rfl ⟨rfl, HB.out.setCell (p := ⟨w.heap.size + 1, 0, none⟩) (by show _ ≤ w.heap.size + 1; omega) _⟩
theorem Colourless_none (s : ByteArray) (w : World) (hs : s.size ≤ 1000000) (ho : colL (runesOf s) = none) :
    Calls Tryd.prog 7 #[.string s] w fun e w' => e = .returned (.tuple #[.string ⟨#[]⟩, .bool false]) ∧ Below w.heap.size w w' := by
  have hmf : ∀ (fn : Fn) (first cap : Array Value) (w : World), (Instr.makeFunc fn first cap).run Tryd.prog w = .ok (.func fn first cap) w := fun _ _ _ _ => rfl
  have q0 := ((One.new w (.string s) 9).alloc (.cells #[.string ⟨#[]⟩] 9)).alloc (.cells #[.bool false] 4)
  have r0 := (One.at_ (w.alloc (.cells #[.string s] 9)) (.string ⟨#[]⟩) 9 (b := w.heap.size + 1) (by simp)).alloc (.cells #[.bool false] 4)
  have b0 := One.at_ ((w.alloc (.cells #[.string s] 9)).alloc (.cells #[.string ⟨#[]⟩] 9)) (.bool false) 4 (b := w.heap.size + 1 + 1) (by simp)
  have bl := (((Below.refl w.heap.size w).alloc (Nat.le_refl _) (.cells #[.string s] 9)).alloc (by simp) (.cells #[.string ⟨#[]⟩] 9)).alloc (by simp; omega) (.cells #[.bool false] 4)
  have HG := Lib.hid (caught_panics 14 #[Pa w.heap.size, Pa (w.heap.size + 1)] ((w.alloc (.cells #[.string s] 9)).alloc (.cells #[.string ⟨#[]⟩] 9)) (fun w' => One w' (w.heap.size + 1) (.string ⟨#[]⟩) 9 ∧ Below w.heap.size w w') enter_closure
    ((closure_none w.heap.size (w.heap.size + 1) s ⟨#[]⟩ _ q0 r0 hs ho).mono fun e w' ⟨he, h1⟩ => ⟨he, by
        have hsz : ((w.alloc (.cells #[.string s] 9)).alloc (.cells #[.string ⟨#[]⟩] 9)).heap.size = w.heap.size + 1 + 1 := by simp
        rw [hsz]; exact b0.stays h1, r0.stays h1, bl.trans (h1.mono (by simp; omega))⟩))
  clear q0 r0 b0 bl
  go_enter Tryd.func7, Tryd.ntmps7
  go_wp2_with fail
  refine HG.out.mono ?_
  rintro e w2 ⟨rfl, w1, ⟨hr, hb⟩, hc, rfl⟩
  have hsz : ((w.alloc (.cells #[.string s] 9)).alloc (.cells #[.string ⟨#[]⟩] 9)).heap.size = w.heap.size + 1 + 1 := by simp
  rw [hsz] at *
  have r2 := hr.other (a := ⟨w.heap.size + 1 + 1, 0, none⟩) (by simp) (.bool false)
  have k0 := r2.cell
  have k1 := r2.free
  have HB := Lib.hid (hb.setCell (p := ⟨w.heap.size + 1 + 1, 0, none⟩) (by show _ ≤ w.heap.size + 1 + 1; omega) (.bool false))
  have HR := Lib.hid r2
  clear hr hb hc r2
  go_wp2_with fail
  have k2 := (HR.out.set (.string ⟨#[]⟩)).cell
  refine bodyPost_ret (v := .tuple #[.string ⟨#[]⟩, .bool false]) (by simp [results, Tryd.results7, go_sem, k2]) rfl ⟨rfl, HB.out.setCell (p := ⟨w.heap.size + 1, 0, none⟩) (by show _ ≤ w.heap.size + 1; omega) _⟩
theorem impl_Colourless.calls (s r1 : ByteArray) (r2 : Bool) (w : World) (h : impl_Colourless.f s = some (r1, r2)) : Calls Tryd.prog 7 #[.string s] w fun e w' => e = .returned (.tuple #[.string r1, .bool r2]) ∧ Below w.heap.size w w' := by
  unfold impl_Colourless.f at h
  by_cases hs : s.size ≤ 1000000
  · rw [if_pos hs] at h
    have h := Option.some.inj h
    cases ho : colL (runesOf s) with
    | none =>
      rw [ho] at h
      simp only [Prod.mk.injEq] at h
      obtain ⟨rfl, rfl⟩ := h
      exact Colourless_none s w hs ho
    | some o =>
      rw [ho] at h
      simp only [Prod.mk.injEq] at h
      obtain ⟨rfl, rfl⟩ := h
      exact Colourless_some s o w hs ho
  · rw [if_neg hs] at h; cases h
end Go.Proofs.YthkblefeifdhaaaDoor.H
