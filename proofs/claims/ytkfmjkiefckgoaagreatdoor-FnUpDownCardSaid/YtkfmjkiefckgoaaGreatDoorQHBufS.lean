/- One step of a script over a buffer (impl.step, impl.key): what it makes of the buffer, and what it takes out; of other steps than these, and of steps over other text than ASCII of at most 5000 bytes, nothing is said. -/
import Derived.Test.YtkfmjkiefckgoaaGreatDoorQHBufJ
import Derived.Test.YtkfmjkiefckgoaaGreatDoorQHBufK
import Derived.Test.YtkfmjkiefckgoaaGreatDoorQHBufU
namespace Go.Proofs.YtkfmjkiefckgoaaGreatDoor.H
open Go.RowKit Go.Proofs.YtkfmjkiefckgoaaGreatDoorW.PrintWords Go.Proofs.YtkfmjkiefckgoaaGreatDoorW.PrintLast Go.Proofs.YtkfmjkiefckgoaaGreatDoor.R Go.Proofs.YtkfmjkiefckgoaaGreatDoor.X Go.Proofs.YtkfmjkiefckgoaaGreatDoor.PAroundOf
set_option linter.unusedVariables false
set_option linter.unusedSimpArgs false
/-- A step of a script. -/
structure Ed where
  op : Int
  n : Int
  text : ByteArray
  flag : Bool
/-- A buffer: its text, the cursor's place, the column that is kept. -/
structure ES where
  t : ByteArray
  p : Nat
  q : Int
instance (s : ByteArray) : Decidable (Asc s) := inferInstanceAs (Decidable (∀ b ∈ s.data.toList, b.toNat < 128))
instance (s : ByteArray) (n : Nat) : Decidable (OkT s n) := inferInstanceAs (Decidable (s.size ≤ 5000 ∧ Asc s ∧ n ≤ s.size))
/-- What is asked of a step. -/
def OkE (s : ES) (k : Ed) : Prop := OkT s.t s.p ∧ 0 ≤ k.n ∧ k.n ≤ 1000000000 ∧ k.text.size ≤ 5000 ∧ Asc k.text
instance (s : ES) (k : Ed) : Decidable (OkE s k) := inferInstanceAs (Decidable (OkT s.t s.p ∧ 0 ≤ k.n ∧ k.n ≤ 1000000000 ∧ k.text.size ≤ 5000 ∧ Asc k.text))
def ebody (s : ES) (op n : Int) (text : ByteArray) (flag : Bool) : Option (ES × ByteArray) :=
  if op = 1 then (if flag = false then some (⟨s.t.extract 0 s.p ++ text ++ s.t.extract s.p s.t.size, s.p + text.size, s.q⟩, ⟨#[]⟩) else none)
  else if op = 2 then (if flag = false then some (⟨s.t.extract 0 s.p ++ text ++ s.t.extract s.p s.t.size, s.p, s.q⟩, ⟨#[]⟩) else none)
  else if op = 3 then some (⟨s.t, s.p - min n.toNat (colB s.t s.p), s.q⟩, ⟨#[]⟩)
  else if op = 4 then some (⟨s.t, s.p + min n.toNat (tailB s.t s.p), s.q⟩, ⟨#[]⟩)
  else if op = 5 then (if s.q = -1 ∧ n ≤ 1000000 then some (⟨s.t, indexB s.t (rowB s.t s.p - n.toNat) (colB s.t s.p), (colB s.t s.p : Int)⟩, ⟨#[]⟩) else none)
  else if op = 6 then (if s.q = -1 ∧ n ≤ 1000000 ∧ rowB s.t s.p + n.toNat < rowsB s.t then some (⟨s.t, indexB s.t (rowB s.t s.p + n.toNat) (colB s.t s.p), (colB s.t s.p : Int)⟩, ⟨#[]⟩) else none)
  else if op = 7 then some (⟨s.t.extract 0 (s.p - n.toNat) ++ s.t.extract s.p s.t.size, s.p - n.toNat, s.q⟩, s.t.extract (s.p - n.toNat) s.p)
  else if op = 8 then (if n.toNat ≤ s.t.size - s.p ∨ s.p = s.t.size then some (⟨s.t.extract 0 s.p ++ s.t.extract (s.p + n.toNat) s.t.size, s.p, s.q⟩, s.t.extract s.p (s.p + n.toNat)) else none)
  else if op = 10 then (if rowB s.t s.p + 1 < rowsB s.t then some (⟨joinT s.t (s.p + tailB s.t s.p) text, s.p + tailB s.t s.p, s.q⟩, ⟨#[]⟩) else some (s, ⟨#[]⟩))
  else if op = 12 then some (⟨s.t, s.p + tailB s.t s.p, s.q⟩, ⟨#[]⟩)
  else if op = 13 then some (⟨s.t, s.p - colB s.t s.p, s.q⟩, ⟨#[]⟩)
  else if op = 15 then some (⟨s.t.extract 0 (wordB s.t s.p) ++ s.t.extract s.p s.t.size, wordB s.t s.p, s.q⟩, ⟨#[]⟩)
  else if op = 20 then some (⟨s.t, s.p - min (s.p - wordB s.t s.p) (colB s.t s.p), s.q⟩, ⟨#[]⟩)
  else none
def estep (s : ES) (k : Ed) : Option (ES × ByteArray) := if OkE s k then ebody s k.op k.n k.text k.flag else none
theorem key_12 {m : Nat} {w : World} {R : World → Prop} (h : Calls Tryz.prog 108 #[Pt m] w fun e w' => e = .returned (.tuple #[]) ∧ R w') : Calls Tryz.prog 86 #[Pt m, .int .i64 12] w fun e w' => e = .returned (.bool true) ∧ R w' := by
  have HC := Lib.hid h
  clear h
  go_enter Tryz.func86, Tryz.ntmps86
  go_wp2_with (go_at_call 108; refine HC.out.mono ?_; rintro e w1 ⟨rfl, hR⟩)
  go_ret
  exact ⟨rfl, hR⟩
theorem key_13 {m : Nat} {w : World} {R : World → Prop} (h : Calls Tryz.prog 109 #[Pt m] w fun e w' => e = .returned (.tuple #[]) ∧ R w') : Calls Tryz.prog 86 #[Pt m, .int .i64 13] w fun e w' => e = .returned (.bool true) ∧ R w' := by
  have HC := Lib.hid h
  clear h
  go_enter Tryz.func86, Tryz.ntmps86
  go_wp2_with (go_at_call 109; refine HC.out.mono ?_; rintro e w1 ⟨rfl, hR⟩)
  go_ret
  exact ⟨rfl, hR⟩
theorem key_15 {m : Nat} {w : World} {R : World → Prop} (h : Calls Tryz.prog 111 #[Pt m] w fun e w' => e = .returned (.tuple #[]) ∧ R w') : Calls Tryz.prog 86 #[Pt m, .int .i64 15] w fun e w' => e = .returned (.bool true) ∧ R w' := by
  have HC := Lib.hid h
  clear h
  go_enter Tryz.func86, Tryz.ntmps86
  go_wp2_with (go_at_call 111; refine HC.out.mono ?_; rintro e w1 ⟨rfl, hR⟩)
  go_ret
  exact ⟨rfl, hR⟩
theorem key_20 {m : Nat} {w : World} {R : World → Prop} (h : Calls Tryz.prog 116 #[Pt m] w fun e w' => e = .returned (.tuple #[]) ∧ R w') : Calls Tryz.prog 86 #[Pt m, .int .i64 20] w fun e w' => e = .returned (.bool true) ∧ R w' := by
  have HC := Lib.hid h
  clear h
  go_enter Tryz.func86, Tryz.ntmps86
  go_wp2_with (go_at_call 116; refine HC.out.mono ?_; rintro e w1 ⟨rfl, hR⟩)
  go_ret
  exact ⟨rfl, hR⟩
/-- What a step makes. -/
def EStepped (B m g : Nat) (w : World) (p : ES × ByteArray) (e : Ending) (w' : World) : Prop := e = .returned (.tuple #[.string p.2, .bool true]) ∧ BS w' B m g p.1.t p.1.p p.1.q ∧ Only B m g w w'
theorem Only.lift {B m g : Nat} {w w1 w2 : World} (h0 : Below w.heap.size w w1) (h : Only B m g w1 w2) (hB : B ≤ w.heap.size) : Only B m g w w2 := (Only.of_below h0 hB).trans h
set_option maxHeartbeats 8000000 in
theorem step_calls (B m g : Nat) (s : ES) (k : Ed) (w : World) (h : BS w B m g s.t s.p s.q) (p : ES × ByteArray) (hp : estep s k = some p) : Calls Tryz.prog 48 #[Pt m, .agg #[.int .i64 k.op, .int .i64 k.n, .string k.text, .bool k.flag]] w (EStepped B m g w p) := by
  unfold estep at hp
  obtain ⟨op, n, text, flag⟩ := k
  by_cases hc' : ¬ OkE s ⟨op, n, text, flag⟩
  · rw [if_neg hc'] at hp; cases hp
  have hc := Decidable.not_not.1 hc'
  clear hc'
  rw [if_pos hc] at hp
  obtain ⟨hok, hn0, hn1, hts, hta⟩ := hc
  dsimp only at *
  unfold ebody at hp
  have hB := h.lt.1
  have b1 := (Below.refl w.heap.size w).alloc (Nat.le_refl _) (.cells #[.int .i64 op, .int .i64 n, .string text, .bool flag] 31)
  have hr := Rec.new w [.int .i64 op, .int .i64 n, .string text, .bool flag] 31
  have HF := Lib.hid (fun w1 (hF : Only B m g (w.alloc (.cells #[.int .i64 op, .int .i64 n, .string text, .bool flag] 31)) w1) => Only.lift b1 hF hB)
  have HH := Lib.hid (h.below b1)
  have f0 := hr.cell 0 rfl
  have f1 := hr.cell 1 rfl
  have f2 := hr.cell 2 rfl
  have f3 := hr.cell 3 rfl
  clear h hr b1 hB
  by_cases k1 : op = 1
  · subst k1
    rw [if_pos rfl] at hp
    by_cases hx : flag = false
    · rw [if_pos hx] at hp
      obtain rfl := Option.some.inj hp
      subst hx
      have HC := Lib.hid (Insert_calls HH.out hok.2.1 (by have := hok.1; omega) hok.2.2 text (by omega) hta)
      clear hp
      go_enter Tryz.func48, Tryz.ntmps48
      go_wp2_with (go_at_call 76; refine HC.out.mono ?_; rintro e w1 ⟨rfl, hB, hO⟩)
      go_ret2
      exact ⟨rfl, hB, HF.out _ hO⟩
    · rw [if_neg hx] at hp; cases hp
  rw [if_neg k1] at hp
  by_cases k2 : op = 2
  · subst k2
    rw [if_pos rfl] at hp
    by_cases hx : flag = false
    · rw [if_pos hx] at hp
      obtain rfl := Option.some.inj hp
      subst hx
      have HC := Lib.hid (InsertAhead_calls HH.out hok.2.1 (by have := hok.1; omega) hok.2.2 text (by omega) hta)
      clear hp
      go_enter Tryz.func48, Tryz.ntmps48
      go_wp2_with (go_at_call 76; refine HC.out.mono ?_; rintro e w1 ⟨rfl, hB, hO⟩)
      go_ret2
      exact ⟨rfl, hB, HF.out _ hO⟩
    · rw [if_neg hx] at hp; cases hp
  rw [if_neg k2] at hp
  by_cases k3 : op = 3
  · subst k3
    rw [if_pos rfl] at hp
    obtain rfl := Option.some.inj hp
    have HC := Lib.hid (CursorLeft_calls HH.out hok n hn0 hn1)
    clear hp
    go_enter Tryz.func48, Tryz.ntmps48
    go_wp2_with (go_at_call 77; refine HC.out.mono ?_; rintro e w1 ⟨rfl, hB, hO⟩)
    go_ret2
    exact ⟨rfl, (by rw [show (((s.p - min n.toNat (colB s.t s.p) : Nat) : Int)) = (s.p : Int) - min n (colB s.t s.p) by have := (places_le hok).1; omega]; exact hB), HF.out _ hO⟩
  rw [if_neg k3] at hp
  by_cases k4 : op = 4
  · subst k4
    rw [if_pos rfl] at hp
    obtain rfl := Option.some.inj hp
    have HC := Lib.hid (CursorRight_calls HH.out hok n hn0 hn1)
    clear hp
    go_enter Tryz.func48, Tryz.ntmps48
    go_wp2_with (go_at_call 78; refine HC.out.mono ?_; rintro e w1 ⟨rfl, hB, hO⟩)
    go_ret2
    exact ⟨rfl, (by rw [show (((s.p + min n.toNat (tailB s.t s.p) : Nat) : Int)) = (s.p : Int) + min n (tailB s.t s.p) by omega]; exact hB), HF.out _ hO⟩
  rw [if_neg k4] at hp
  by_cases k5 : op = 5
  · subst k5
    rw [if_pos rfl] at hp
    by_cases hx : s.q = -1 ∧ n ≤ 1000000
    · rw [if_pos hx] at hp
      obtain rfl := Option.some.inj hp
      have hq := hx.1
      have HC := Lib.hid (CursorUp_calls (hq ▸ HH.out) hok n hn0 hx.2)
      clear hp
      go_enter Tryz.func48, Tryz.ntmps48
      go_wp2_with (go_at_call 79; refine HC.out.mono ?_; rintro e w1 ⟨rfl, hB, hO⟩)
      go_ret2
      exact ⟨rfl, hB, HF.out _ hO⟩
    · rw [if_neg hx] at hp; cases hp
  rw [if_neg k5] at hp
  by_cases k6 : op = 6
  · subst k6
    rw [if_pos rfl] at hp
    by_cases hx : s.q = -1 ∧ n ≤ 1000000 ∧ rowB s.t s.p + n.toNat < rowsB s.t
    · rw [if_pos hx] at hp
      obtain rfl := Option.some.inj hp
      have hq := hx.1
      have HC := Lib.hid (CursorDown_calls (hq ▸ HH.out) hok n hn0 hx.2.1 hx.2.2)
      clear hp
      go_enter Tryz.func48, Tryz.ntmps48
      go_wp2_with (go_at_call 80; refine HC.out.mono ?_; rintro e w1 ⟨rfl, hB, hO⟩)
      go_ret2
      exact ⟨rfl, hB, HF.out _ hO⟩
    · rw [if_neg hx] at hp; cases hp
  rw [if_neg k6] at hp
  by_cases k7 : op = 7
  · subst k7
    rw [if_pos rfl] at hp
    obtain rfl := Option.some.inj hp
    have HC := Lib.hid (DeleteBefore_calls HH.out hok n hn0 hn1 (s.p - n.toNat) (by omega))
    clear hp
    go_enter Tryz.func48, Tryz.ntmps48
    go_wp2_with (go_at_call 81; refine HC.out.mono ?_; rintro e w1 ⟨rfl, hB, hO⟩)
    go_ret2
    exact ⟨rfl, hB, HF.out _ hO⟩
  rw [if_neg k7] at hp
  by_cases k8 : op = 8
  · subst k8
    rw [if_pos rfl] at hp
    by_cases hx : n.toNat ≤ s.t.size - s.p ∨ s.p = s.t.size
    · rw [if_pos hx] at hp
      obtain rfl := Option.some.inj hp
      have HC := Lib.hid ((show ((n.toNat : Nat) : Int) = n by omega) ▸ Delete_calls HH.out hok n.toNat hx (by omega))
      clear hp
      go_enter Tryz.func48, Tryz.ntmps48
      go_wp2_with (go_at_call 82; refine HC.out.mono ?_; rintro e w1 ⟨rfl, hB, hO⟩)
      go_ret2
      exact ⟨rfl, hB, HF.out _ hO⟩
    · rw [if_neg hx] at hp; cases hp
  rw [if_neg k8] at hp
  by_cases k10 : op = 10
  · subst k10
    rw [if_pos rfl] at hp
    by_cases hx : rowB s.t s.p + 1 < rowsB s.t
    · rw [if_pos hx] at hp
      obtain rfl := Option.some.inj hp
      have HC := Lib.hid (Join_calls HH.out hok text hts (s.p + tailB s.t s.p) rfl hx)
      clear hp
      go_enter Tryz.func48, Tryz.ntmps48
      go_wp2_with (go_at_call 84; refine HC.out.mono ?_; rintro e w1 ⟨rfl, hB, hO⟩)
      go_ret2
      exact ⟨rfl, hB, HF.out _ hO⟩
    · rw [if_neg hx] at hp
      obtain rfl := Option.some.inj hp
      have HC := Lib.hid (JoinNone_calls HH.out hok text (by have := (places_le hok).2.2.1; omega))
      clear hp
      go_enter Tryz.func48, Tryz.ntmps48
      go_wp2_with (go_at_call 84; refine HC.out.mono ?_; rintro e w1 ⟨rfl, hB, hO⟩)
      go_ret2
      exact ⟨rfl, hB, HF.out _ hO⟩
  rw [if_neg k10] at hp
  by_cases k12 : op = 12
  · subst k12
    rw [if_pos rfl] at hp
    obtain rfl := Option.some.inj hp
    have HC := Lib.hid (GoLineEnd_calls HH.out hok)
    clear hp
    go_enter Tryz.func48, Tryz.ntmps48
    go_wp2_with (go_at_call 86; refine (key_12 HC.out).mono ?_; rintro e w1 ⟨rfl, hB, hO⟩)
    go_ret2
    exact ⟨rfl, (by rw [show (((s.p + tailB s.t s.p : Nat) : Int)) = (s.p : Int) + (tailB s.t s.p : Int) by omega]; exact hB), HF.out _ hO⟩
  rw [if_neg k12] at hp
  by_cases k13 : op = 13
  · subst k13
    rw [if_pos rfl] at hp
    obtain rfl := Option.some.inj hp
    have HC := Lib.hid (GoLineStart_calls HH.out hok)
    clear hp
    go_enter Tryz.func48, Tryz.ntmps48
    go_wp2_with (go_at_call 86; refine (key_13 HC.out).mono ?_; rintro e w1 ⟨rfl, hB, hO⟩)
    go_ret2
    exact ⟨rfl, (by rw [show (((s.p - colB s.t s.p : Nat) : Int)) = (s.p : Int) - (colB s.t s.p : Int) by have := (places_le hok).1; omega]; exact hB), HF.out _ hO⟩
  rw [if_neg k13] at hp
  by_cases k15 : op = 15
  · subst k15
    rw [if_pos rfl] at hp
    obtain rfl := Option.some.inj hp
    have HC := Lib.hid (DeleteWord_calls HH.out hok)
    clear hp
    go_enter Tryz.func48, Tryz.ntmps48
    go_wp2_with (go_at_call 86; refine (key_15 HC.out).mono ?_; rintro e w1 ⟨rfl, hB, hO⟩)
    go_ret2
    exact ⟨rfl, hB, HF.out _ hO⟩
  rw [if_neg k15] at hp
  by_cases k20 : op = 20
  · subst k20
    rw [if_pos rfl] at hp
    obtain rfl := Option.some.inj hp
    have HC := Lib.hid (LeftWord_calls HH.out hok)
    clear hp
    go_enter Tryz.func48, Tryz.ntmps48
    go_wp2_with (go_at_call 86; refine (key_20 HC.out).mono ?_; rintro e w1 ⟨rfl, hB, hO⟩)
    go_ret2
    exact ⟨rfl, (by rw [show (((s.p - min (s.p - wordB s.t s.p) (colB s.t s.p) : Nat) : Int)) = (s.p : Int) - min ((s.p - wordB s.t s.p : Nat) : Int) (colB s.t s.p) by have := (places_le hok).1; omega]; exact hB), HF.out _ hO⟩
  rw [if_neg k20] at hp
  cases hp
end Go.Proofs.YtkfmjkiefckgoaaGreatDoor.H
