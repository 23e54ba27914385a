/- impl.MessageWritten, impl.MessageRead: the contracts; no condition but bounds that their callers meet. -/
import Derived.Test.YthkblefeifdhaaaHMsgGot
namespace Go.Proofs.Ythkblefeifdhaaa.H
open Go.RowKit Go.Proofs.YthkblefeifdhaaaW.PrintWords Go.Proofs.YthkblefeifdhaaaW.PrintLast Go.Proofs.Ythkblefeifdhaaa.R Go.Proofs.Ythkblefeifdhaaa.X
set_option linter.unusedVariables false
set_option linter.unusedSimpArgs false
attribute [local go_sem ↓] Go.wp_at_zero Go.wp_at_succ

/-- The text's parts, where a message stands ahead. -/
def msgN (s : ByteArray) : Nat := ((ints s).getD 2 0 * 256 + (ints s).getD 3 0 - 2).toNat
def msgK (s : ByteArray) : Nat := ((ints s).getD 4 0 * 256 + (ints s).getD 5 0).toNat
def msgD (s : ByteArray) : List Int := ((ints s).drop 6).take (msgN s)
def msgR (s : ByteArray) : List Int := (ints s).drop (6 + msgN s)
def msgOk (s : ByteArray) : Prop := msgN s ≤ 500 ∧ msgK s < 32768 ∧ s.size ≤ 100000 ∧ (msgD s).length = msgN s ∧ ints s = head6 (msgN s) (msgK s) ++ (msgD s ++ msgR s)
instance (s : ByteArray) : Decidable (msgOk s) := by unfold msgOk; infer_instance
def impl_MessageRead.f (s : ByteArray) : Option (Int × ByteArray × ByteArray × Bool) := if msgOk s then some ((msgK s : Int), strOfNums (msgD s), strOfNums (msgR s), true) else none
theorem or_len3 : ∀ a : Fin 3, ∀ b : Fin 256, bits BinOp.or IntKind.i64 ((a.val : Int) * 256) (b.val : Int) = (a.val : Int) * 256 + (b.val : Int) := by decide +kernel
theorem or_len4 (a b : Int) (h0 : 0 ≤ a) (h1 : a ≤ 2) (h2 : 0 ≤ b) (h3 : b ≤ 255) : bits BinOp.or IntKind.i64 (a * 256) b = a * 256 + b := by
  obtain ⟨x, rfl⟩ := Int.eq_ofNat_of_zero_le h0
  obtain ⟨y, rfl⟩ := Int.eq_ofNat_of_zero_le h2
  exact or_len3 ⟨x, by omega⟩ ⟨y, by omega⟩
set_option maxRecDepth 100000 in
set_option maxHeartbeats 4000000 in
theorem read_walk (n kd : Nat) (s : ByteArray) (d rest : List Int) (w : World) (hz : s.size ≤ 100000) (hx : ints s = head6 n kd ++ (d ++ rest)) (hn : d.length = n) (hl : n ≤ 500) (hk : kd < 32768) :
    Calls Try.prog 22 #[.string s] w fun e w' => e = .returned (.tuple #[.int .i64 kd, .string (strOfNums d), .string (strOfNums rest), .bool true]) ∧ Below w.heap.size w w' := by
  have hsz : s.size = 6 + n + rest.length := by rw [← ints_length, hx]; simp [head6, hn]; omega
  have hi : ∀ j : Nat, j < 4 → bt s (j : Int) = (head6 n kd).getD j 0 := fun j hj => by
    rw [bt_ints s j (by omega)]
    have := congrArg (fun l => l[j]?) hx
    rw [List.getElem?_append_left (by simp [head6]; omega), List.getElem?_eq_getElem (by rw [ints_length]; omega)] at this
    rw [List.getD_eq_getElem?_getD, ← this]
    rfl
  obtain ⟨b2, hb2⟩ : ∃ b, ((n : Int) + 2) / 256 = b := ⟨_, rfl⟩
  obtain ⟨b3, hb3⟩ : ∃ b, ((n : Int) + 2) % 256 = b := ⟨_, rfl⟩
  have x0 : ∀ h : 0 < s.size, ((s[0]'h).toNat : Int) = 0 := fun h => (bt_at s 0 h).trans (by show bt s ((0 : Nat) : Int) = _; rw [hi 0 (by omega)]; rfl)
  have x1 : ∀ h : 1 < s.size, ((s[1]'h).toNat : Int) = 0 := fun h => (bt_at s 1 h).trans (by show bt s ((1 : Nat) : Int) = _; rw [hi 1 (by omega)]; rfl)
  have x2 : ∀ h : 2 < s.size, ((s[2]'h).toNat : Int) = b2 := fun h => (bt_at s 2 h).trans (by show bt s ((2 : Nat) : Int) = _; rw [hi 2 (by omega), ← hb2]; rfl)
  have x3 : ∀ h : 3 < s.size, ((s[3]'h).toNat : Int) = b3 := fun h => (bt_at s 3 h).trans (by show bt s ((3 : Nat) : Int) = _; rw [hi 3 (by omega), ← hb3]; rfl)
  have v20 : 0 ≤ b2 := by omega
  have v21 : b2 ≤ 2 := by omega
  have v30 : 0 ≤ b3 := by omega
  have v31 : b3 ≤ 255 := by omega
  have hor := or_len4 b2 b3 v20 v21 v30 v31
  have hle : b2 * 256 + b3 ≤ (s.size : Int) := by omega
  have i4 : (4 : Int) ≤ (s.size : Int) := by omega
  have i0 : (0 : Int) < (s.size : Int) := by omega
  have i1 : (1 : Int) < (s.size : Int) := by omega
  have i2 : (2 : Int) < (s.size : Int) := by omega
  have i3 : (3 : Int) < (s.size : Int) := by omega
  have j0 : 0 < s.size := by omega
  have j1 : 1 < s.size := by omega
  have j2 : 2 < s.size := by omega
  have j3 : 3 < s.size := by omega
  have HH := Lib.hid (And.intro hx (And.intro hb2 (And.intro hb3 (And.intro hsz hi))))
  clear hx hb2 hb3 hsz hi
  have hmf : ∀ (fn : Fn) (first cap : Array Value) (w : World), (Instr.makeFunc fn first cap).run Try.prog w = .ok (.func fn first cap) w := fun _ _ _ _ => rfl
  have p0 := One.new w (.string s) 9
  have p1 := p0.cell
  go_enter Try.func22, Try.ntmps22
  go_wp2
  go_region
  have hlt : ¬ ((s.size : Int) < b2 * 256 + b3) := by omega
  rw [decide_eq_false hlt]
  have q0 : One (w.alloc (.cells #[.string s] 9)).drew w.heap.size (.string s) 9 := p0
  have hz0 : (w.alloc (.cells #[.string s] 9)).drew.heap.size = w.heap.size + 1 := by simp
  have b0 : Below w.heap.size w (w.alloc (.cells #[.string s] 9)).drew := ((Below.refl _ _).alloc (Nat.le_refl _) _).drew
  clear p0 p1 x0 x1 x2 x3 hor hlt i0 i1 i2 i3 i4 j0 j1 j2 j3
  generalize (w.alloc (.cells #[.string s] 9)).drew = W0 at q0 hz0 b0 ⊢
  have QZ := Lib.hid (And.intro q0 b0)
  clear q0 b0
  go_wp2_with (go_at_call 49; skip)
  have o0 := (((QZ.out.1.alloc (.cells #[.pointer none] 69)).alloc (.cells #[.slice none 0 0] 26)).alloc (.cells #[.nilIface] 77))
  have o1 := ((One.at_ (b := w.heap.size + 1) W0 (.pointer none) 69 (by omega)).alloc (.cells #[.slice none 0 0] 26)).alloc (.cells #[.nilIface] 77)
  have o2 := (One.at_ (b := w.heap.size + 2) (W0.alloc (.cells #[.pointer none] 69)) (.slice none 0 0) 26 (by simp [hz0])).alloc (.cells #[.nilIface] 77)
  have o3 := One.at_ (b := w.heap.size + 3) ((W0.alloc (.cells #[.pointer none] 69)).alloc (.cells #[.slice none 0 0] 26)) .nilIface 77 (by simp [hz0])
  have b1 : Below w.heap.size w (((W0.alloc (.cells #[.pointer none] 69)).alloc (.cells #[.slice none 0 0] 26)).alloc (.cells #[.nilIface] 77)) := ((QZ.out.2.alloc (by omega) _).alloc (by simp [hz0]; omega) _).alloc (by simp [hz0]; omega) _
  have hs : (((W0.alloc (.cells #[.pointer none] 69)).alloc (.cells #[.slice none 0 0] 26)).alloc (.cells #[.nilIface] 77)).heap.size = w.heap.size + 4 := by simp [hz0]
  generalize ((W0.alloc (.cells #[.pointer none] 69)).alloc (.cells #[.slice none 0 0] 26)).alloc (.cells #[.nilIface] 77) = W at o0 o1 o2 o3 b1 hs ⊢
  refine (caught_calls 48 _ _ (fun w' => ∃ m o c' dv, Got (W.heap.size + 1) w' m (W.heap.size + 1) o kd dv d rest ∧ One w' (w.heap.size + 1) (.pointer (some ⟨m, 0, none⟩)) 69 ∧ One w' (w.heap.size + 1 + 1) (.slice (some ⟨W.heap.size + 1, o, none⟩) rest.length c') 26 ∧ One w' (w.heap.size + 1 + 1 + 1) .nilIface 77 ∧ Below w.heap.size w w') enter48 ?_).mono ?_
  · have hws : (W.alloc (.cells #[.bool false] 4)).heap.size = W.heap.size + 1 := by simp
    refine (msg_closure2 w.heap.size (w.heap.size + 1) (w.heap.size + 1 + 1) (w.heap.size + 1 + 1 + 1) n kd w.heap.size s d rest _ (o0.alloc _) (o1.alloc _) (o2.alloc _) (o3.alloc _) (by omega) (by omega) (by omega) hz HH.out.1 hn hl hk (by omega) (by omega) (by omega)).mono ?_
    rintro e w' ⟨rfl, hst, m, o, c', dv, hG, r1, r2, r3, hb⟩
    rw [hws] at hG r2
    exact ⟨rfl, hst _ _ _ (One.new W (.bool false) 4) (by omega) (by omega) (by omega), m, o, c', dv, hG, r1, r2, r3, (b1.alloc (by omega) _).trans hb⟩
  · rintro e w' ⟨rfl, w1, ⟨m, o, c', dv, hG, r1, r2, r3, hb⟩, r4, rfl⟩
    have hG1 := hG.set W.heap.size (by omega) (.bool true)
    have s1 := r1.other (a := ⟨W.heap.size, 0, none⟩) (by show _ ≠ W.heap.size; omega) (.bool true)
    have s2 := r2.other (a := ⟨W.heap.size, 0, none⟩) (by show _ ≠ W.heap.size; omega) (.bool true)
    have s3 := r3.other (a := ⟨W.heap.size, 0, none⟩) (by show _ ≠ W.heap.size; omega) (.bool true)
    have hb1 := hb.setCell (p := ⟨W.heap.size, 0, none⟩) (by show _ ≤ W.heap.size; omega) (.bool true)
    generalize w1.setCell ⟨W.heap.size, 0, none⟩ (.bool true) = V at hG1 s1 s2 s3 hb1 ⊢
    clear r1 r2 r3 r4 hb hG o0 o1 o2 o3 b1
    obtain ⟨g1, g2, g3, g4, g5⟩ := hG1
    have c1 := s1.cell
    have c2 := s2.cell
    have c3 := s3.cell
    have k0 := g1.cell 0 rfl
    have k1 := g1.cell 1 rfl
    have hv1 : (convert 26 9 dv).run Try.prog V.drew = .ok (.string (strOfNums d)) V.drew := own_string (P := Try.prog) Try.underlying26 Try.underlying5 Try.underlying9 (show V.drew.ownsRow m 5 1 dv d.length (nums .u8 d) from g2)
    have hv2 : (convert 26 9 (.slice (some ⟨W.heap.size + 1, o, none⟩) rest.length c')).run Try.prog V.drew = .ok (.string (strOfNums rest)) V.drew := run_convert_bytes_arg (P := Try.prog) V.drew 26 5 Try.underlying26 Try.underlying5 _ o rest.length c' rest rfl g3 9 Try.underlying9
    rw [hs] at hv2
    clear g1 g2 g3 g4 g5 s1 s2 s3
    go_wp2
    go_region
    go_wp2
    exact bodyPost_ret (v := .tuple #[.int .i64 kd, .string (strOfNums d), .string (strOfNums rest), .bool true]) (by simp [results, Try.results22, go_sem]) rfl ⟨rfl, hb1.drew⟩
theorem impl_MessageRead.calls (s : ByteArray) (r1 : Int) (r2 r3 : ByteArray) (r4 : Bool) (w : World) (h : impl_MessageRead.f s = some (r1, r2, r3, r4)) :
    Calls Try.prog 22 #[.string s] w fun e w' => e = .returned (.tuple #[.int .i64 r1, .string r2, .string r3, .bool r4]) ∧ Below w.heap.size w w' := by
  unfold impl_MessageRead.f at h
  split at h
  · rename_i hc
    obtain ⟨h1, h2, h3, h4, h5⟩ := hc
    have e := Option.some.inj h
    simp only [Prod.mk.injEq] at e
    obtain ⟨rfl, rfl, rfl, rfl⟩ := e
    exact read_walk _ _ s _ _ w h3 h5 h4 h1 h2
  · exact absurd h (by simp)
end Go.Proofs.Ythkblefeifdhaaa.H
