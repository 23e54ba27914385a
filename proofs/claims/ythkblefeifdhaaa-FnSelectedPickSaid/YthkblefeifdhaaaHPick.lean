/- The suggestion that is selected behind steps (impl.SelectedPick): the contract by which the law FnSelectedPick takes it, for at most 1000 suggestions; of more nothing is said. -/
import Derived.Test.YthkblefeifdhaaaHShown
import Derived.Test.YthkblefeifdhaaaPsuggestionsx1
import Derived.Test.YthkblefeifdhaaaPFnSelectedPickx0
import Derived.Test.YthkblefeifdhaaaXPure
namespace Go.Proofs.Ythkblefeifdhaaa.H
open Go.RowKit Go.Proofs.YthkblefeifdhaaaW.PrintWords Go.Proofs.YthkblefeifdhaaaW.PrintLast Go.Proofs.Ythkblefeifdhaaa.Psuggestions Go.Proofs.Ythkblefeifdhaaa.X
set_option linter.unusedVariables false
set_option linter.unusedSimpArgs false
attribute [local go_sem ↓] Go.wp_at_zero Go.wp_at_succ

abbrev Pk := PFnSelectedPick.S65
def pk_in (x : Pk) : S65 := ⟨x.f0, x.f1⟩
def pk_out (x : S65) : S102 := ⟨x.f0, x.f1⟩
def sugs (l : List Pk) : List S102 := (l.map pk_in).map pk_out
theorem sugs_len (l : List Pk) : (sugs l).length = l.length := by simp [sugs]
theorem C_in {w : World} {A : Option Addr} {n : Nat} {l : List Pk} (h : Kd.C PFnSelectedPick.k65 w A n l) : Kd.C k65 w A n (l.map pk_in) := by
  refine ⟨by rw [List.length_map]; exact h.1, h.2.1, fun hn => ?_⟩
  obtain ⟨ad, e, hc⟩ := h.2.2 hn
  refine ⟨ad, e, fun j p hj => ?_⟩
  rw [List.getElem?_map] at hj
  obtain ⟨x, hx, rfl⟩ := Option.map_eq_some_iff.1 hj
  obtain ⟨c, hcl, hK, hcell⟩ := hc j x hx
  obtain rfl := PFnSelectedPick.k65_open hK
  exact ⟨_, hcl, k65_mk w (pk_in x), hcell⟩
theorem sug_loop (l : List S65) (hl : l.length ≤ 1000) (d : Nat) : ∀ (i : Nat) (acc : List S102), i + d = l.length → acc.length = i → Ev (fun k => impl_suggestions.l0 k acc l (l.length : Int) (i : Int)) (acc ++ (l.drop i).map pk_out) := by
  induction d with
  | zero =>
    intro i acc hi ha
    rw [List.drop_of_length_le (by omega), List.map_nil, List.append_nil]
    exact Ev.step (fun k => by rw [impl_suggestions.l0]) (ev_ifn (by omega) (Ev.now _))
  | succ d ih =>
    intro i acc hi ha
    have hlt : i < l.length := by omega
    have hx : rd_T65 l (i : Int) = l[i] := by
      unfold rd_T65
      rw [Int.toNat_natCast, List.getD_eq_getElem?_getD, List.getElem?_eq_getElem hlt]; rfl
    have h := ih (i + 1) (acc ++ [pk_out l[i]]) (by omega) (by simp [ha])
    rw [show ((i + 1 : Nat) : Int) = (i : Int) + 1 from by omega] at h
    rw [List.drop_eq_getElem_cons hlt, List.map_cons, ← List.singleton_append, ← List.append_assoc]
    refine Ev.step (fun k => by rw [impl_suggestions.l0, hx, w64 (x := (i : Int) + 1) (by omega) (by omega)]) ?_
    exact ev_ifp (by omega) (ev_ifp (by omega) (ev_ifp (by omega) (ev_ifp (by omega) h)))
theorem sug_tells (l : List Pk) (hl : l.length ≤ 1000) : ∃ k, impl_suggestions.f k (l.map pk_in) = some (sugs l) := by
  have := sug_loop (l.map pk_in) (by simpa using hl) (l.map pk_in).length 0 [] (by omega) rfl
  refine Ev.rounds (r := sugs l) ?_
  unfold impl_suggestions.f
  simpa [sugs] using this

set_option maxHeartbeats 1000000 in
theorem hands_completer (q n c : Nat) (A : Option Addr) : Hands 98 q (.slice A n c) := by
  intro d0 d1 w h
  have c0 := (h.alloc (.cells #[d0, d1] 127)).cell
  go_enter Try.func98, Try.ntmps98
  go_wp2
  go_ret
  exact ⟨rfl, (Below.refl _ _).alloc (Nat.le_refl _) _⟩
theorem enter_completer (args : Array Value) (w : World) : (callFunc 98 args).run Try.prog w = .ok (.enter 98 args) w :=
  enters (P := Try.prog) Try.func98 (by kernel_rfl) rfl args w

def Made (w0 w : World) (m q : Nat) (A : Option Addr) (n c : Nat) (most : Int) (p : Int × Int) (l : List S102) : Prop :=
  Rec w m (mgr p.1 (.slice A n c) most 98 q p.2) 131 ∧ One w q (.slice A n c) 124 ∧ Kd.C k102 w A n l ∧ q < m ∧ (∃ B, w0.heap.size ≤ B ∧ B ≤ q ∧ Kd.C k102 w A n l) ∧ Below w0.heap.size w0 w

set_option maxHeartbeats 4000000 in
theorem completer_calls (A0 : Option Addr) (c0 : Nat) (l0 : List Pk) (a1 : Int) (A2 : Option Addr) (c2 : Nat) (l2 : List Int) (w : World) (hr0 : Kd.C PFnSelectedPick.k65 w A0 l0.length l0) (hc0 : l0.length ≤ c0) (hr2 : Kd.C (Kd.int .u8) w A2 l2.length l2) (hc2 : l2.length ≤ c2)
    (hn : l0.length ≤ 1000) (h2 : 0 ≤ a1) (h3 : a1 ≤ 65535) (h4 : l2.length ≤ 1000000) :
    Calls Try.prog 70 #[.slice A0 l0.length c0, .int .i64 a1, .slice A2 l2.length c2] w fun e w' => ∃ m q A c, e = .returned (.pointer (some ⟨m, 0, none⟩)) ∧
      Rec w' m (mgr (l2.foldl (pick1 l0.length a1) (-1, 0)).1 (.slice A l0.length c) a1 98 q (l2.foldl (pick1 l0.length a1) (-1, 0)).2) 131 ∧ Kd.C k102 w' A l0.length (sugs l0) ∧ l0.length ≤ c ∧ Below w.heap.size w w' := by
  obtain ⟨k, hk⟩ := sug_tells l0 hn
  have hS := impl_suggestions.calls k A0 c0 (l0.map pk_in) (sugs l0) w (by rw [List.length_map]; exact C_in hr0) (by simpa using hc0) hk
  rw [List.length_map] at hS
  have HS := Lib.hid hS
  have HC := Lib.hid (Kd.reads_of_C (d := (0 : Int)) (h1 := fun _ => rfl) hr2)
  have hln := sugs_len l0
  generalize sugs l0 = sl at *
  generalize hnn : l0.length = n at *
  clear hS hr0 hr2 hk
  have hmf := @made_func Try.prog
  have hnb : (n : Int) ≤ 1000 := by omega
  go_enter Try.func70, Try.ntmps70
  go_wp2_with (go_at_call 97; refine HS.out.mono ?_; rintro e w1 ⟨v, rfl, hR, hb1⟩; obtain ⟨A, c, rfl, hAc, hCr⟩ := Kd.R_reads hR)
  rw [hln] at hAc hCr
  have HR := Lib.hid (fun (W : World) hm hq => Reset_calls (w1.heap.size + 1) 98 w1.heap.size n c A a1 (hands_completer _ _ _ _) enter_completer (by omega) (-1) 0 (.slice none 0 0) W hm hq)
  have o1 := (One.new w1 (.slice A n c) 124).alloc (.cells (mgr (-1) (.slice none 0 0) a1 98 w1.heap.size 0).toArray 131)
  have o2 := Rec.at_ (b := w1.heap.size + 1) (w1.alloc (.cells #[.slice A n c] 124)) (mgr (-1) (.slice none 0 0) a1 98 w1.heap.size 0) 131 (by simp)
  have hB : Below w1.heap.size w1 ((w1.alloc (.cells #[.slice A n c] 124)).alloc (.cells (mgr (-1) (.slice none 0 0) a1 98 w1.heap.size 0).toArray 131)) := ((Below.refl _ _).alloc (Nat.le_refl _) _).alloc (by simp) _
  go_wp2_with (first | (go_at_call 84; go_in) | (go_at_call 86; refine (HR.out _ o2 o1).mono ?_; rintro e w2 ⟨rfl, hm2, b2⟩))
  all_goals try go_wp2_with (first | (go_at_call 86; refine (HR.out _ o2 o1).mono ?_; rintro e w2 ⟨rfl, hm2, b2⟩))
  have hq2 : One w2 w1.heap.size (.slice A n c) 124 := o1.below b2 (by omega)
  have hb2 : Below w1.heap.size w1 w2 := hB.trans (b2.mono (by omega))
  clear o1 o2 hB b2 HR
  have hqm : w1.heap.size < w1.heap.size + 1 := by omega
  generalize w1.heap.size + 1 = m at *
  go_loopw [32] (fun vi wr => ∃ i : Nat, i ≤ l2.length ∧ vi = .int .i64 i ∧ Rec wr m (mgr ((l2.take i).foldl (pick1 n a1) (-1, 0)).1 (.slice A n c) a1 98 w1.heap.size ((l2.take i).foldl (pick1 n a1) (-1, 0)).2) 131 ∧ One wr w1.heap.size (.slice A n c) 124 ∧ Below w1.heap.size w1 wr) (fun vi _ => l2.length - (intOf vi).toNat)
  case atStart => exact ⟨0, Nat.zero_le _, rfl, hm2, hq2, hb2⟩
  case round =>
    obtain ⟨i, hi, rfl, hmi, hqi, hbi⟩ := hrel
    have hki := foldl_kept n a1 h2 (l2.take i) _ (kept_start n)
    have hbw : Below w.heap.size w wr := hb1.trans (hbi.mono hb1.size)
    by_cases hlt : i < l2.length
    · obtain ⟨_, _, hA⟩ := HC.out
      obtain ⟨ad, rfl, hcell⟩ := hA (by omega)
      have cx := pw_cell_below hbw (hcell i hlt)
      have ht : l2.take (i + 1) = l2.take i ++ [l2.getD i 0] := by rw [List.take_succ_eq_append_getElem hlt]; simp [List.getD, List.getElem?_eq_getElem hlt]
      have HT := Lib.hid (show (l2.take (i + 1)).foldl (pick1 n a1) (-1, 0) = pick1 n a1 ((l2.take i).foldl (pick1 n a1) (-1, 0)) (l2.getD i 0) by rw [ht, List.foldl_append]; rfl)
      clear ht hcell hA
      generalize (l2.take i).foldl (pick1 n a1) (-1, 0) = p at *
      generalize l2.getD i 0 = x at *
      obtain ⟨sel, sc⟩ := p
      obtain ⟨k1, k2, k3, k4⟩ := hki
      have HX := Lib.hid (choose_calls m 98 w1.heap.size n c A a1 (hands_completer _ _ _ _) enter_completer hqm sel sc x wr (by omega) ⟨h2, h3⟩ ⟨k1, by omega⟩ ⟨k3, by omega⟩ hmi hqi)
      go_wp2_with (go_at_call 59; refine HX.out.mono ?_; rintro e w3 ⟨rfl, hm3, b3⟩)
      go_roundw
      case rel => exact ⟨i + 1, by omega, by go_num, by rw [HT.out]; exact hm3, hqi.below b3 hqm, hbi.trans (b3.mono (by omega))⟩
      case measure => simp only [intOf]; omega
    · have hE : l2.take i = l2 := List.take_of_length_le (by omega)
      rw [hE] at hmi
      have HM := Lib.hid (And.intro hmi (And.intro (Kd.C_below hCr hbi) (And.intro hAc hbw)))
      clear hmi hE hCr hR
      go_wp2
      go_ret
      exact ⟨_, _, _, _, rfl, HM.out.1, HM.out.2.1, HM.out.2.2.1, HM.out.2.2.2⟩

set_option maxHeartbeats 2000000 in
theorem selected_none (m g q n c : Nat) (A : Option Addr) (most sc : Int) (w : World) (hm : Rec w m (mgr (-1) (.slice A n c) most g q sc) 131) :
    Calls Try.prog 71 #[.pointer (some ⟨m, 0, none⟩)] w fun e w' => e = .returned (.tuple #[.agg #[.string ⟨#[]⟩, .string ⟨#[]⟩], .bool false]) ∧ Rec w' m (mgr (-1) (.slice A n c) most g q sc) 131 ∧ Below w.heap.size w w' := by
  have hm1 := hm.alloc (.cells #[.string ⟨#[]⟩, .string ⟨#[]⟩] 102)
  have c0 := hm1.cell 0 rfl
  have b0 := (Rec.new w [.string ⟨#[]⟩, .string ⟨#[]⟩] 102)
  have f0 := b0.cell 0 rfl
  have f1 := b0.cell 1 rfl
  go_enter Try.func71, Try.ntmps71
  go_wp2
  exact bodyPost_ret (v := .tuple #[.agg #[.string ⟨#[]⟩, .string ⟨#[]⟩], .bool false]) (by simp [results, Try.results71, go_sem, f0, f1]) rfl ⟨rfl, hm1, (Below.refl _ _).alloc (Nat.le_refl _) _⟩
set_option maxHeartbeats 2000000 in
theorem selected_some (m g q n c j : Nat) (ad : Addr) (t d : ByteArray) (most sc : Int) (w : World) (hm : Rec w m (mgr j (.slice (some ad) n c) most g q sc) 131) (hj : j < n) (hn : n ≤ 1000)
    (h0 : w.cell? (ad.add (j * 2)) = some (.string t)) (h1 : w.cell? ⟨(ad.add (j * 2)).block, (ad.add (j * 2)).off + 1, none⟩ = some (.string d)) :
    Calls Try.prog 71 #[.pointer (some ⟨m, 0, none⟩)] w fun e w' => e = .returned (.tuple #[.agg #[.string t, .string d], .bool true]) ∧ Rec w' m (mgr j (.slice (some ad) n c) most g q sc) 131 ∧ Below w.heap.size w w' := by
  have hm1 := hm.alloc (.cells #[.string ⟨#[]⟩, .string ⟨#[]⟩] 102)
  have c0 := hm1.cell 0 rfl
  have c1 := hm1.cell 1 rfl
  have hb := (Below.refl w.heap.size w).alloc (Nat.le_refl _) (.cells #[.string ⟨#[]⟩, .string ⟨#[]⟩] 102)
  have e0 := pw_cell_below hb h0
  have e1 := pw_cell_below hb h1
  have b0 := (Rec.new w [.string ⟨#[]⟩, .string ⟨#[]⟩] 102)
  have f0 := b0.cell 0 rfl
  have f1 := b0.cell 1 rfl
  have z0 := b0.free 0
  have z1 := b0.free 1
  go_enter Try.func71, Try.ntmps71
  go_wp2
  go_region
  have y0 : (w.alloc (.cells #[.string t, .string d] 102)).drew.cell? ⟨w.heap.size, 0, none⟩ = some (.string t) := (Rec.new w [.string t, .string d] 102).drew.cell 0 rfl
  have y1 : (w.alloc (.cells #[.string t, .string d] 102)).drew.cell? ⟨w.heap.size, 1, none⟩ = some (.string d) := (Rec.new w [.string t, .string d] 102).drew.cell 1 rfl
  have hm2 : Rec (w.alloc (.cells #[.string t, .string d] 102)).drew m _ _ := (hm.alloc (.cells #[.string t, .string d] 102)).drew
  go_wp2
  exact bodyPost_ret (v := .tuple #[.agg #[.string t, .string d], .bool true]) (by simp [results, Try.results71, go_sem, y0, y1]) rfl ⟨rfl, hm2, ((Below.refl _ _).alloc (Nat.le_refl _) _).drew⟩

set_option maxHeartbeats 2000000 in
theorem completing_calls (m g q : Nat) (tmp : Value) (sel most sc : Int) (w : World) (hm : Rec w m (mgr sel tmp most g q sc) 131) :
    Calls Try.prog 72 #[.pointer (some ⟨m, 0, none⟩)] w fun e w' => e = .returned (.bool (sel != -1)) ∧ w' = w := by
  have c0 := hm.cell 0 rfl
  go_enter Try.func72, Try.ntmps72
  go_wp2
  go_ret
  exact ⟨rfl, rfl⟩

def impl_SelectedPick.f (l0 : List Pk) (a1 : Int) (l2 : List Int) : Option (ByteArray × ByteArray × Bool × Bool) :=
  if l0.length ≤ 1000 ∧ 0 ≤ a1 ∧ a1 ≤ 65535 ∧ l2.length ≤ 1000000 then
    (if (l2.foldl (pick1 l0.length a1) (-1, 0)).1 = -1 then some (⟨#[]⟩, ⟨#[]⟩, false, false)
     else if 0 ≤ (l2.foldl (pick1 l0.length a1) (-1, 0)).1 ∧ (l2.foldl (pick1 l0.length a1) (-1, 0)).1 < l0.length then
       some ((l0.getD (l2.foldl (pick1 l0.length a1) (-1, 0)).1.toNat ⟨⟨#[]⟩, ⟨#[]⟩⟩).f0, (l0.getD (l2.foldl (pick1 l0.length a1) (-1, 0)).1.toNat ⟨⟨#[]⟩, ⟨#[]⟩⟩).f1, true, true)
     else none) else none

set_option maxRecDepth 100000 in
set_option maxHeartbeats 4000000 in
theorem pick_tail (A0 : Option Addr) (c0 : Nat) (n : Nat) (a1 : Int) (A2 : Option Addr) (c2 k : Nat) (w : World) (t d : ByteArray) (sel sc : Int) (is : Bool) (his : (sel != -1) = is)
    (H70 : Calls Try.prog 70 #[.slice A0 n c0, .int .i64 a1, .slice A2 k c2] (w.alloc (.cells #[.string ⟨#[]⟩, .string ⟨#[]⟩] 65)) fun e w' => ∃ m q A c, e = .returned (.pointer (some ⟨m, 0, none⟩)) ∧ Rec w' m (mgr sel (.slice A n c) a1 98 q sc) 131 ∧ Below (w.heap.size + 1) (w.alloc (.cells #[.string ⟨#[]⟩, .string ⟨#[]⟩] 65)) w' ∧
      Calls Try.prog 71 #[.pointer (some ⟨m, 0, none⟩)] w' fun e w2 => e = .returned (.tuple #[.agg #[.string t, .string d], .bool is]) ∧ Rec w2 m (mgr sel (.slice A n c) a1 98 q sc) 131 ∧ Below w'.heap.size w' w2) :
    Calls Try.prog 40 #[.slice A0 n c0, .int .i64 a1, .slice A2 k c2] w fun e w' => e = .returned (.tuple #[.agg #[.string t, .string d], .bool is, .bool is]) ∧ Below w.heap.size w w' := by
  have HH := Lib.hid H70
  clear H70
  have r0 := Rec.new w [.string ⟨#[]⟩, .string ⟨#[]⟩] 65
  go_enter Try.func40, Try.ntmps40
  go_wp2_with (first | (go_at_call 70; refine HH.out.mono ?_; rintro e w1 ⟨m, q, A, c, rfl, hm, hb1, h71⟩; have H71 := Lib.hid h71; clear h71) | (go_at_call 71; refine H71.out.mono ?_; rintro e w2 ⟨rfl, hm2, hb2⟩))
  have r1 : Rec w1 w.heap.size _ _ := r0.below hb1 (by omega)
  have r2 : Rec w2 w.heap.size _ _ := r1.stays hb2
  have hm3 : Rec (w2.alloc (.cells #[.string t, .string d] 102)) m _ _ := hm2.alloc _
  have r3 : Rec (w2.alloc (.cells #[.string t, .string d] 102)) w.heap.size _ _ := r2.alloc _
  have bx := Rec.new w2 [.string t, .string d] 102
  have hlw : w.heap.size < w2.heap.size := r2.lt
  have hB : Below w.heap.size w (w2.alloc (.cells #[.string t, .string d] 102)) := ((((Below.refl _ _).alloc (Nat.le_refl _) _).trans (hb1.mono (by omega))).trans (hb2.mono (by have := r1.lt; omega))).alloc (by omega) _
  generalize w2.heap.size = b at *
  generalize w2.alloc (.cells #[.string t, .string d] 102) = W at *
  have k0 := bx.cell 0 rfl
  have k1 := bx.cell 1 rfl
  have s0 := r3.cell 0 rfl
  have s1 := r3.cell 1 rfl
  have y0 := r3.free 0
  have y1 := r3.free 1
  have kx : ∀ u v, ((W.setCell ⟨w.heap.size, 0, none⟩ u).setCell ⟨w.heap.size, 1, none⟩ v).drew.cell? ⟨b, 0, none⟩ = some (.string t) := fun u v => ((bx.other (a := ⟨w.heap.size, 0, none⟩) (by show b ≠ w.heap.size; omega) u).other (a := ⟨w.heap.size, 1, none⟩) (by show b ≠ w.heap.size; omega) v).drew.cell 0 rfl
  have ky : ∀ u v, ((W.setCell ⟨w.heap.size, 0, none⟩ u).setCell ⟨w.heap.size, 1, none⟩ v).drew.cell? ⟨b, 1, none⟩ = some (.string d) := fun u v => ((bx.other (a := ⟨w.heap.size, 0, none⟩) (by show b ≠ w.heap.size; omega) u).other (a := ⟨w.heap.size, 1, none⟩) (by show b ≠ w.heap.size; omega) v).drew.cell 1 rfl
  clear r0 r1 r2 hm hm2 hb1 hb2 HH H71
  go_region_held3 (fun w' => w'.cell? ⟨b, 0, none⟩ = some (.string t) ∧ w'.cell? ⟨b, 1, none⟩ = some (.string d)) (first | go_keep | (exact ⟨k0, k1⟩) | (exact ⟨kx _ _, ky _ _⟩))
    (first
      | (go_at_call 72; (with_reducible refine (completing_calls m 98 q _ _ _ _ _ (by first | exact hm3 | exact hm3.drew | exact hm3.drewN _)).mono ?_); rintro e w4 ⟨rfl, rfl⟩))
  have r4 := ((r3.set 0 (.string t)).set 1 (.string d)).drew
  have g0 := r4.cell 0 rfl
  have g1 := r4.cell 1 rfl
  have hB2 : Below w.heap.size w ((W.setCell ⟨w.heap.size, 0, none⟩ (.string t)).setCell ⟨w.heap.size, 1, none⟩ (.string d)).drew := (below_put (below_put hB (Nat.le_refl _) _ _) (Nat.le_refl _) _ _).drew
  go_wp2
  exact bodyPost_ret (v := .tuple #[.agg #[.string t, .string d], .bool is, .bool is]) (by simp [results, Try.results40, go_sem, g0, g1, his]) rfl ⟨rfl, hB2⟩

theorem sug_at (l : List Pk) (j : Nat) (h : j < l.length) : (sugs l).getD j z102 = pk_out (pk_in (l.getD j ⟨⟨#[]⟩, ⟨#[]⟩⟩)) := by
  simp [sugs, List.getD, List.getElem?_eq_getElem h]
theorem C_alloc' {w : World} {α : Type} {kd : Kd α} {A : Option Addr} {n : Nat} {l : List α} (h : kd.C w A n l) (o : Obj) : kd.C (w.alloc o) A n l := Kd.C_alloc h o
set_option maxHeartbeats 2000000 in
theorem impl_SelectedPick.calls (A0 : Option Addr) (c0 : Nat) (l0 : List Pk) (a1 : Int) (A2 : Option Addr) (c2 : Nat) (l2 : List Int) (r1 r2 : ByteArray) (r3 r4 : Bool) (w : World) (hr0 : Kd.C PFnSelectedPick.k65 w A0 l0.length l0) (hc0 : l0.length ≤ c0) (hr2 : Kd.C (Kd.int .u8) w A2 l2.length l2) (hc2 : l2.length ≤ c2)
    (h : impl_SelectedPick.f l0 a1 l2 = some (r1, r2, r3, r4)) :
    Calls Try.prog 40 #[.slice A0 l0.length c0, .int .i64 a1, .slice A2 l2.length c2] w fun e w' => e = .returned (.tuple #[.agg #[.string r1, .string r2], .bool r3, .bool r4]) ∧ Below w.heap.size w w' := by
  unfold impl_SelectedPick.f at h
  by_cases hc : l0.length ≤ 1000 ∧ 0 ≤ a1 ∧ a1 ≤ 65535 ∧ l2.length ≤ 1000000
  · rw [if_pos hc] at h
    obtain ⟨hn, h2, h3, h4⟩ := hc
    have H := completer_calls A0 c0 l0 a1 A2 c2 l2 (w.alloc (.cells #[.string ⟨#[]⟩, .string ⟨#[]⟩] 65)) (C_alloc' hr0 _) hc0 (C_alloc' hr2 _) hc2 hn h2 h3 h4
    have hsz : (w.alloc (.cells #[.string ⟨#[]⟩, .string ⟨#[]⟩] 65)).heap.size = w.heap.size + 1 := by simp
    rw [hsz] at H
    generalize hp : l2.foldl (pick1 l0.length a1) (-1, 0) = p at *
    obtain ⟨sel, sc⟩ := p
    dsimp only at h H
    have hln := sugs_len l0
    by_cases k1 : sel = -1
    · subst k1
      rw [if_pos rfl] at h
      have hq := Option.some.inj h
      simp only [Prod.mk.injEq] at hq
      obtain ⟨rfl, rfl, rfl, rfl⟩ := hq
      exact pick_tail A0 c0 _ a1 A2 c2 _ w ⟨#[]⟩ ⟨#[]⟩ (-1) sc false rfl (H.mono (by
        rintro e w' ⟨m, q, A, c, rfl, hm, hC, hnc, hb⟩
        exact ⟨m, q, A, c, rfl, hm, hb, selected_none m 98 q _ c A a1 sc w' hm⟩))
    · rw [if_neg k1] at h
      by_cases k2 : 0 ≤ sel ∧ sel < l0.length
      · rw [if_pos k2] at h
        have hq := Option.some.inj h
        simp only [Prod.mk.injEq] at hq
        obtain ⟨rfl, rfl, rfl, rfl⟩ := hq
        obtain ⟨j, rfl⟩ := Int.eq_ofNat_of_zero_le k2.1
        have hj : j < l0.length := by omega
        have ht := sug_at l0 j hj
        rw [Int.toNat_natCast]
        refine pick_tail A0 c0 _ a1 A2 c2 _ w _ _ (j : Int) sc true (by rw [bne_iff_ne]; omega) (H.mono (by
          rintro e w' ⟨m, q, A, c, rfl, hm, hC, hnc, hb⟩
          obtain ⟨ad, cc, rfl, _, hK, hcell⟩ := Kd.C_get hC z102 (j : Int) (by omega) (by omega)
          rw [Int.toNat_natCast] at hK hcell
          rw [ht] at hK
          obtain rfl := k102_open hK
          have e0 := hcell 0 _ rfl
          have e1 := hcell 1 _ rfl
          refine ⟨m, q, some ad, c, rfl, hm, hb, selected_some m 98 q _ c j ad _ _ a1 sc w' hm hj hn e0 ?_⟩
          have e2 := add_field ad (j * 2) 1 (by omega)
          rw [← e2]
          exact e1))
      · rw [if_neg k2] at h
        cases h
  · rw [if_neg hc] at h
    cases h
end Go.Proofs.Ythkblefeifdhaaa.H
