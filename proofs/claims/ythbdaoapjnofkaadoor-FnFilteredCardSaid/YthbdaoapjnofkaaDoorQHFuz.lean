/- Whether a text has another one's signs one behind the other (goprompt.fuzzyMatch): what it tells; texts of ASCII of at most 70368744177664 bytes. -/
import Derived.Test.YthbdaoapjnofkaaDoorQHRec
import Derived.Test.YthbdaoapjnofkaaDoorQXPure
import Derived.WalkKit
import Derived.Lib.Hide
namespace Go.Proofs.YthbdaoapjnofkaaDoor.H
open Go.RowKit Go.Proofs.YthbdaoapjnofkaaDoorW.PrintWords Go.Proofs.YthbdaoapjnofkaaDoorW.PrintLast Go.Proofs.YthbdaoapjnofkaaDoor.R Go.Proofs.YthbdaoapjnofkaaDoor.X
set_option linter.unusedVariables false
set_option linter.unusedSimpArgs false
theorem fz_row (w : World) (s : ByteArray) (hs : Asc s) (hsz : s.size ≤ 70368744177664) : ∃ (c : Nat) (w1 : World), (convert 9 27 (.string s)).run Tryd.prog w = .ok (.slice (some ⟨w.heap.size, 0, none⟩) s.size c) w1 ∧ (∀ j, j < s.size → w1.cell? ⟨w.heap.size, j, none⟩ = some (.int .i32 ((ints s).getD j 0))) ∧ Below w.heap.size w w1 ∧ w1.heap.size = w.heap.size + 1 := by
  have hr := runes_run (P := Tryd.prog) w 9 27 21 s Tryd.underlying9 Tryd.underlying27 Tryd.underlying21 hsz
  rw [runesOf_asc hs, ints_length] at hr
  refine ⟨_, _, hr, fun j hj => ?_, ((Below.refl w.heap.size w).drew).alloc (Nat.le_refl _) _, by show (Array.push _ _).size = _; rw [Array.size_push]; rfl⟩
  exact (Rec.new w.drew (runeCells (ints s) _) 21).cell j (runeCells_at _ _ j (by rw [ints_length]; exact hj))
theorem sub_some (c x : Int) (l m : List Int) : (c :: l).isSublist (x :: m) = if c == x then l.isSublist m else (c :: l).isSublist m := by
  rw [List.isSublist]
theorem sub_none (c : Int) (l : List Int) : (c :: l).isSublist [] = false := by unfold List.isSublist; rfl
theorem drop_at (l : List Int) (i : Nat) (h : i < l.length) : l.drop i = l.getD i 0 :: l.drop (i + 1) := by
  rw [List.drop_eq_getElem_cons h]
  simp [List.getD, List.getElem?_eq_getElem h]
theorem asc_at {s : ByteArray} (h : Asc s) (k : Nat) (hk : k < s.size) : (s[k]'hk).toNat < 128 ∧ ((s[k]'hk).toNat : Int) = (ints s).getD k 0 := by
  refine ⟨h _ (by rw [show s[k]'hk = s.data[k]'hk from rfl]; simp), ?_⟩
  have h2 : k < s.data.size := hk
  unfold ints
  rw [show s[k]'hk = s.data[k]'h2 from rfl, List.getD_eq_getElem?_getD, List.getElem?_map, Array.getElem?_toList, Array.getElem?_eq_getElem h2]
  rfl
set_option maxHeartbeats 2000000 in
theorem fuzzy_walk (s t : ByteArray) (w : World) (hs : Asc s) (ht : Asc t) (hsz : s.size ≤ 70368744177664) (htz : t.size ≤ 70368744177664) :
    Calls Tryd.prog 90 #[.string s, .string t] w fun e w' => e = .returned (.bool ((ints t).isSublist (ints s))) ∧ Below w.heap.size w w' := by
  obtain ⟨c, w1, hrun, hc0, hB0, hz0⟩ := fz_row w s hs hsz
  have HT := Lib.hid ht
  have HC := Lib.hid hc0
  have HB := Lib.hid hB0
  have HZ := Lib.hid hz0
  have HL := Lib.hid (ints_length s)
  have HM := Lib.hid (ints_length t)
  clear hs ht hc0 hB0 hz0
  obtain ⟨r, hr⟩ : ∃ r, (ints t).isSublist (ints s) = r := ⟨_, rfl⟩
  rw [hr]
  have HR := Lib.hid hr
  clear hr
  go_enter Tryd.func90, Tryd.ntmps90
  go_wp2
  go_loopw [6] (fun n wr => ∃ k i : Nat, k ≤ t.size ∧ i ≤ s.size ∧ wr = w1.iter t k ∧ n = .int .i64 i ∧ Hid (((ints t).drop k).isSublist ((ints s).drop i) = r)) (fun _ wr => t.size - wr.iterPos w1.heap.size)
  case atStart => exact ⟨0, 0, Nat.zero_le _, Nat.zero_le _, rfl, rfl, Lib.hid (by simpa using HR.out)⟩
  case round =>
    obtain ⟨k, i, hk, hi, rfl, rfl, HS⟩ := hrel
    by_cases hp : k < t.size
    · obtain ⟨h128, hx⟩ := asc_at HT.out k hp
      have hnx : ∀ ty, (Instr.next (.pointer (some ⟨w1.heap.size, 0, none⟩)) true ty).run Tryd.prog (w1.iter t k) = _ := fun ty => run_next_ascii w1 t k ty hp h128
      rw [hx] at hnx
      have HD := Lib.hid (drop_at (ints t) k (by rw [HM.out]; exact hp))
      generalize (ints t).getD k 0 = x at *
      have HK := Lib.hid hk
      clear hk hx h128
      have HS2 : Hid ((x :: (ints t).drop (k + 1)).isSublist ((ints s).drop i) = r) := Lib.hid (by rw [← HD.out]; exact HS.out)
      clear HS
      go_wp2
      go_loopg [6, 9] (s.size - i) (fun kq v6 v9 wr => ∃ i : Nat, v6 = .int .i64 i ∧ v9 = .bool false ∧ i ≤ s.size ∧ wr = w1.iter t (k + 1) ∧ kq = s.size - i ∧ Hid ((x :: (ints t).drop (k + 1)).isSublist ((ints s).drop i) = r))
      case atStart => exact ⟨i, rfl, rfl, hi, rfl, rfl, HS2⟩
      case round =>
        clear hnx hi HS2
        obtain ⟨i, rfl, rfl, hi, rfl, rfl, HS⟩ := hrel
        by_cases hq : i < s.size
        · have hcell : (w1.iter t (k + 1)).cell? ⟨w.heap.size, i, none⟩ = some (.int .i32 ((ints s).getD i 0)) := by
            have h1 := HC.out i hq
            rw [← h1]
            have hbl : Below w1.heap.size w1 (w1.iter t (k + 1)) := (Below.refl w1.heap.size w1).alloc (Nat.le_refl _) _
            exact hbl.cell (show w.heap.size < w1.heap.size by rw [HZ.out]; exact Nat.lt_succ_self _)
          have HE := Lib.hid (drop_at (ints s) i (by rw [HL.out]; exact hq))
          generalize (ints s).getD i 0 = y at *
          have HS3 : Hid ((x :: (ints t).drop (k + 1)).isSublist (y :: (ints s).drop (i + 1)) = r) := Lib.hid (by rw [← HE.out]; exact HS.out)
          clear HS
          by_cases hxy : (y == x) = true
          · have HX := Lib.hid hxy
            go_wp2
            exact ⟨⟨k + 1, i + 1, by have := HK.out; omega, by omega, rfl, by simp, Lib.hid (by rw [← HS3.out, sub_some, if_pos (by rw [beq_iff_eq]; exact (eq_of_beq HX.out).symm)])⟩, by simp; omega⟩
          · have hxy' : (y == x) = false := by simpa using hxy
            clear hxy
            have HX := Lib.hid hxy'
            go_wp2
            go_roundg (s.size - (i + 1))
            case measure => omega
            case rel => exact ⟨i + 1, by simp, rfl, by omega, rfl, rfl, Lib.hid (by rw [← HS3.out, sub_some, if_neg (by intro h; have h2 := eq_of_beq h; rw [h2] at HX; exact absurd HX.out (by simp))])⟩
        · have hie : i = s.size := by omega
          subst hie
          have hsf : r = false := by rw [← HS.out, List.drop_of_length_le (l := ints s) (by rw [HL.out]; exact Nat.le_refl _), sub_none]
          clear HS
          subst hsf
          go_wp2
          go_ret
          exact ⟨rfl, HB.out.alloc (by rw [HZ.out]; omega) _⟩
    · have hnx : ∀ ty, (Instr.next (.pointer (some ⟨w1.heap.size, 0, none⟩)) true ty).run Tryd.prog (w1.iter t k) = _ := fun ty => run_next_end w1 t k ty hp
      have hst : r = true := by rw [← HS.out, List.drop_of_length_le (l := ints t) (by rw [HM.out]; omega)]; simp
      clear HS
      subst hst
      go_wp2
      go_ret
      exact ⟨rfl, HB.out.alloc (by rw [HZ.out]; omega) _⟩
end Go.Proofs.YthbdaoapjnofkaaDoor.H
