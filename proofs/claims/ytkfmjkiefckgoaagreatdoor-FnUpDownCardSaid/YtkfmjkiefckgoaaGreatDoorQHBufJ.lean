/- A line joined with the next one (goprompt.Buffer.JoinNextLine, zzTrimLeft of blanks); for texts of ASCII of at most 5000 bytes, a cursor in them, and a separator of ASCII of at most 5000 bytes. -/
import Derived.Test.YtkfmjkiefckgoaaGreatDoorQHBufH
import Derived.Lib.OthersKept
namespace Go.Proofs.YtkfmjkiefckgoaaGreatDoor.H
open Go.RowKit Go.Proofs.YtkfmjkiefckgoaaGreatDoorW.PrintWords Go.Proofs.YtkfmjkiefckgoaaGreatDoorW.PrintLast Go.Proofs.YtkfmjkiefckgoaaGreatDoor.R Go.Proofs.YtkfmjkiefckgoaaGreatDoor.X Go.Proofs.YtkfmjkiefckgoaaGreatDoor.PAroundOf
set_option linter.unusedVariables false
set_option linter.unusedSimpArgs false
section
variable {B m g p : Nat} {w : World} {s : ByteArray} {q : Int}
/-- How many blanks a text begins with. -/
def lead (s : ByteArray) : Nat := ((ints s).takeWhile fun x => decide (x = 32)).length
theorem takeWhile_len (l : List Int) : ∀ k, k ≤ l.length → (∀ j (h : j < l.length), j < k → l[j] = 32) → (∀ h : k < l.length, l[k] ≠ 32) → (l.takeWhile fun x => decide (x = 32)).length = k := by
  induction l with
  | nil => intro k hk _ _; simp at hk; simp [hk]
  | cons a l ih =>
    intro k hk h1 h2
    cases k with
    | zero =>
      have := h2 (by simp)
      simp only [List.getElem_cons_zero] at this
      simp [this]
    | succ k =>
      have h0 := h1 0 (by simp) (by omega)
      simp only [List.getElem_cons_zero] at h0
      subst h0
      simp only [List.takeWhile_cons, decide_true, if_true, List.length_cons]
      rw [ih k (by simp at hk; omega) (fun j hj hjk => by have := h1 (j + 1) (by simp; omega) (by omega); simpa using this) (fun h => by have := h2 (by simp; omega); simpa using this)]
theorem byte_ints (s : ByteArray) (k : Nat) (h : k < s.size) : ((s[k]'h).toNat : Int) = (ints s)[k]'(by rw [ints_length]; exact h) := by
  unfold ints
  simp only [List.getElem_map, Array.getElem_toList]
  rfl
theorem asc_byte {s : ByteArray} (ha : Asc s) (k : Nat) (h : k < s.size) : (s[k]'h).toNat < 128 := by
  have := (asc_ints ha _ (List.getElem_mem (by rw [ints_length]; exact h : k < (ints s).length))).2
  rw [← byte_ints s k h] at this
  omega
def blank : ByteArray := ⟨#[32]⟩
theorem blank_at : (blank[0]'(by decide)).toNat = 32 := rfl
set_option maxHeartbeats 1000000 in
theorem inSet_calls (c : Int) (w : World) (hc0 : 0 ≤ c) (hc1 : c < 128) : Calls Tryz.prog 123 #[.int .i32 c, .string blank] w fun e w' => e = .returned (.bool (decide (c = 32))) ∧ Below w.heap.size w w' := by
  by_cases hc : c = 32
  · subst hc
    have hnx := fun ty => run_next_ascii (P := Tryz.prog) w blank 0 ty (by decide) (by decide)
    rw [blank_at] at hnx
    go_enter Tryz.func123, Tryz.ntmps123
    go_wp2
    go_loopw [] (fun wr => wr = w.iter blank 0) (fun wr => blank.size - wr.iterPos w.heap.size)
    case atStart => exact rfl
    case round =>
      obtain rfl := hrel
      go_wp2
      go_ret
      exact ⟨rfl, (Below.refl _ _).alloc (Nat.le_refl _) _⟩
  · have e1 : (c == 32) = false := beq_eq_false_iff_ne.2 hc
    have e2 : (32 == c) = false := beq_eq_false_iff_ne.2 (Ne.symm hc)
    have e3 : decide (c = 32) = false := decide_eq_false hc
    rw [e3]
    clear hc e3
    go_enter Tryz.func123, Tryz.ntmps123
    go_wp2
    go_loopw [] (fun wr => ∃ k : Nat, k ≤ blank.size ∧ wr = w.iter blank k) (fun wr => blank.size - wr.iterPos w.heap.size)
    case atStart => exact ⟨0, Nat.zero_le _, rfl⟩
    case round =>
      obtain ⟨k, hk, rfl⟩ := hrel
      by_cases hp : k < blank.size
      · obtain rfl : k = 0 := by have : blank.size = 1 := rfl; omega
        have hnx := fun ty => run_next_ascii (P := Tryz.prog) w blank 0 ty (by decide) (by decide)
        rw [blank_at] at hnx
        go_wp2
        go_roundw
        case rel => exact ⟨1, by decide, rfl⟩
        case measure => simp [show blank.size = 1 from rfl]
      · have hnx : ∀ ty, (Instr.next (.pointer (some ⟨w.heap.size, 0, none⟩)) true ty).run Tryz.prog (w.iter blank k) = _ := fun ty => run_next_end w blank k ty hp
        go_wp2
        go_ret
        exact ⟨rfl, (Below.refl _ _).alloc (Nat.le_refl _) _⟩
theorem iterPos_at {w : World} {k : Nat} {s : ByteArray} {pos : Nat} (h : w.heap[k]? = some (.stringIter s pos)) : w.iterPos k = pos := by unfold World.iterPos; rw [h]
set_option maxHeartbeats 2000000 in
theorem trimL_calls (s : ByteArray) (w : World) (ha : Asc s) (hz : s.size ≤ 1000000) : Calls Tryz.prog 107 #[.string s, .string blank] w fun e w' => e = .returned (.string (s.extract (lead s) s.size)) ∧ Below w.heap.size w w' := by
  have HA := Lib.hid ha
  have hl := ints_length s
  have HL := Lib.hid hl
  clear ha hl
  go_enter Tryz.func107, Tryz.ntmps107
  go_wp2
  go_loopw [] (fun wr => ∃ k : Nat, k ≤ s.size ∧ wr.heap[w.heap.size]? = some (.stringIter s k) ∧ Below w.heap.size w wr ∧ Hid (∀ j (h : j < (ints s).length), j < k → (ints s)[j] = 32)) (fun wr => s.size - wr.iterPos w.heap.size)
  case atStart => exact ⟨0, Nat.zero_le _, World.iter_heap w s 0, (Below.refl _ _).alloc (Nat.le_refl _) _, Lib.hid (fun j h hj => by omega)⟩
  case round =>
    obtain ⟨k, hk, hit, hbw, HB⟩ := hrel
    have hpos0 := iterPos_at hit
    by_cases hp : k < s.size
    · have h128 := asc_byte HA.out k hp
      have hnx : ∀ ty, (Instr.next (.pointer (some ⟨w.heap.size, 0, none⟩)) true ty).run Tryz.prog wr = _ := fun ty => Lib.run_next_ascii_at wr w.heap.size s k ty hit hp h128
      have hit2 := Lib.iterAt_heap wr w.heap.size s k (k + 1) hit
      have hbw2 := Lib.below_iterAt hbw (k := w.heap.size) (Nat.le_refl _) s (k + 1)
      have HBY := Lib.hid (byte_ints s k hp)
      generalize wr.iterAt w.heap.size s (k + 1) = W1 at *
      generalize (s[k]'hp).toNat = c at *
      have hlt : w.heap.size < W1.heap.size := lt_of_block hit2
      have HS := Lib.hid (inSet_calls (c : Int) W1 (by omega) (by omega))
      have HX := Lib.hid (And.intro hit2 hbw2)
      have k1 : (k : Int) ≤ (s.size : Int) := by omega
      clear hit hbw hit2 hbw2 h128
      by_cases hc : (c : Int) = 32
      · rw [decide_eq_true hc] at HS
        have HC := Lib.hid hc
        clear hc
        go_wp2_with (go_at_call 123; refine HS.out.mono ?_; rintro e w2 ⟨rfl, hb2⟩; have hit3 : w2.heap[w.heap.size]? = some (.stringIter s (k + 1)) := (hb2.block w.heap.size hlt).trans HX.out.1; have hbw3 := HX.out.2.trans (hb2.mono (Nat.le_of_lt hlt)); clear hb2)
        go_roundw
        case rel =>
          refine ⟨k + 1, by omega, hit3, hbw3, Lib.hid (fun j h hj => ?_)⟩
          rcases Nat.lt_or_ge j k with h1 | h1
          · exact HB.out j h h1
          · obtain rfl : j = k := by omega
            rw [← HBY.out]; exact HC.out
        case measure => rw [iterPos_at hit3, hpos0]; omega
      · rw [decide_eq_false hc] at HS
        have HE := Lib.hid (show lead s = k from takeWhile_len (ints s) k (by rw [HL.out]; omega) (fun j h hj => HB.out j h hj) (fun h => by rw [← HBY.out]; exact hc))
        clear hc
        go_wp2_with (go_at_call 123; refine HS.out.mono ?_; rintro e w2 ⟨rfl, hb2⟩; have hbw3 := HX.out.2.trans (hb2.mono (Nat.le_of_lt hlt)); clear hb2)
        go_ret
        exact ⟨by rw [HE.out]; rfl, hbw3⟩
    · have hnx : ∀ ty, (Instr.next (.pointer (some ⟨w.heap.size, 0, none⟩)) true ty).run Tryz.prog wr = _ := fun ty => Lib.run_next_end_at wr w.heap.size s k ty hit hp
      have HE := Lib.hid (show s.extract (lead s) s.size = ⟨#[]⟩ by
        have hkk : k = s.size := by omega
        rw [show lead s = s.size from takeWhile_len (ints s) s.size (by rw [HL.out]; exact Nat.le_refl _) (fun j h hj => HB.out j h (by omega)) (fun h => absurd h (by rw [HL.out]; omega))]
        exact ints_inj (by rw [ints_extract]; simp [ints]))
      clear hp
      go_wp2
      go_ret
      exact ⟨by rw [HE.out]; rfl, hbw⟩
theorem more_rows {s : ByteArray} {p : Nat} (h : OkT s p) (hr : rowB s p + 1 < rowsB s) : p + tailB s p + 1 ≤ s.size := by
  obtain ⟨A, hh, B, P, Q, L, S, hE⟩ := spot_ s p h.1 h.2.1 h.2.2
  rw [S.rowB_is, S.rowsB_is] at hr
  have h1 := linesL_join (ints Q)
  rw [S.two, joinL_cons] at h1
  have h2 := congrArg List.length h1
  have h3 : 1 ≤ (joinL B).length := by
    cases B with
    | nil => simp at hr
    | cons b B => rw [joinL_cons]; simp; omega
  simp at h2
  have h4 := ints_length Q
  have h5 := S.sizes
  have h6 := S.inside
  rw [S.tailB_is]
  omega
theorem glue_left (X R : ByteArray) : (X ++ R).extract 0 X.size = X := ints_inj (by
  rw [ints_extract, ints_append, List.drop_zero, Nat.sub_zero, List.take_left' (ints_length X)])
theorem glue_right (X R : ByteArray) : (X ++ R).extract X.size (X ++ R).size = R := ints_inj (by
  rw [ints_extract, ints_append, List.drop_left' (ints_length X), ByteArray.size_append, Nat.add_sub_cancel_left, List.take_of_length_le (by rw [ints_length]; exact Nat.le_refl _)])
theorem asc_append {a b : ByteArray} (ha : Asc a) (hb : Asc b) : Asc (a ++ b) := by
  intro x hx
  rw [ByteArray.data_append, Array.toList_append, List.mem_append] at hx
  rcases hx with h | h
  · exact ha x h
  · exact hb x h
/-- What a line joined with the next one is. -/
def joinT (s : ByteArray) (e : Nat) (sep : ByteArray) : ByteArray := s.extract 0 e ++ sep ++ (s.extract (e + 1) s.size).extract (lead (s.extract (e + 1) s.size)) (s.extract (e + 1) s.size).size
set_option maxRecDepth 100000 in
set_option maxHeartbeats 4000000 in
theorem Join_calls (h : BS w B m g s p q) (hok : OkT s p) (sep : ByteArray) (hz : sep.size ≤ 5000) (e : Nat) (he : e = p + tailB s p) (hr : rowB s p + 1 < rowsB s) : Calls Tryz.prog 84 #[Pt m, .string sep] w fun e' w' => e' = .returned (.tuple #[]) ∧ BS w' B m g (joinT s e sep) (e : Int) q ∧ Only B m g w w' := by
  have hm := more_rows hok hr
  have hpl := places_le hok
  have hs := hok.1
  have hlast : ((rowB s p : Int) == (rowsB s : Int) - 1) = false := beq_eq_false_iff_ne.2 (by omega)
  obtain ⟨X, hX⟩ : ∃ X, X = s.extract 0 e := ⟨_, rfl⟩
  obtain ⟨R, hR⟩ : ∃ R, R = s.extract (e + 1) s.size := ⟨_, rfl⟩
  have hXs : X.size = e := by rw [hX, extract_len _ _ _ (by omega)]; omega
  have hRs : R.size ≤ s.size := by rw [hR, extract_len _ _ _ (by omega)]; omega
  have hXR : X.size + R.size + 1 = s.size := by rw [hX, hR, extract_len _ _ _ (by omega), extract_len _ _ _ (by omega)]; omega
  have hXa : Asc X := hX ▸ asc_extract hok.2.1 _ _
  have hRa : Asc R := hR ▸ asc_extract hok.2.1 _ _
  have hok1 : OkT (X ++ R) X.size := ⟨by rw [ByteArray.size_append]; omega, asc_append hXa hRa, by rw [ByteArray.size_append]; omega⟩
  have hoke : OkT s X.size := ⟨hok.1, hok.2.1, by omega⟩
  unfold joinT
  rw [← hX, ← hR]
  obtain ⟨T, hT⟩ : ∃ T, T = R.extract (lead R) R.size := ⟨_, rfl⟩
  have hTs : T.size ≤ R.size := by rw [hT, extract_len _ _ _ (Nat.le_refl _)]; omega
  rw [← hT]
  have HT := Lib.hid (fun w => trimL_calls R w hRa (by omega))
  rw [← hT] at HT
  have HBf := Lib.hid (fun w d (hd : Doc w d (X ++ R) X.size) => before_c hok1 hd)
  have HAf := Lib.hid (fun w d (hd : Doc w d (X ++ R) X.size) => after_c hok1 hd)
  rw [glue_left] at HBf
  rw [glue_right] at HAf
  have HLa := Lib.hid (fun w d (hd : Doc w d s p) => last_c hok hd)
  rw [hlast] at HLa
  have HEn := Lib.hid (fun w d (hd : Doc w d s p) => toEnd_c hok hd)
  have HDe := Lib.hid (fun w (hb : BS w B m g s X.size q) => Delete_calls hb hoke 1 (by omega) (by omega))
  rw [hXs, ← hX, ← hR, ← hXs] at HDe
  have hw : IntKind.i64.wrap ((p : Int) + (tailB s p : Int)) = (X.size : Int) := by rw [IntWalk.i64_in _ (by omega)]; omega
  have f1 : (9223372036854775807 < X.size + sep.size) = False := eq_false (by omega)
  have f2 : (9223372036854775807 < X.size + sep.size + T.size) = False := eq_false (by omega)
  have HXS := Lib.hid hXs
  rw [← hXs]
  have HH := Lib.hid h
  clear h hX hR hT hXs hRs hXR hXa hRa hok1 hoke hTs hok hlast he hm hpl hz hr
  generalize tailB s p = tl at *
  go_enter Tryz.func84, Tryz.ntmps84
  go_wp2_with (first
    | (go_at_call 101; refine (Document_calls HH.out).mono ?_; rintro e w1 ⟨d, rfl, hd, hBd, hB1, hO1⟩; have HD := Lib.hid hd; have HB1 := Lib.hid hB1; have HO1 := Lib.hid hO1; clear hd hB1 hO1 hBd)
    | (go_at_call 37; refine (HLa.out _ _ HD.out).mono ?_; rintro e w2 ⟨rfl, hb2⟩; have HB2 := Lib.hid (HB1.out.below hb2); have HO2 := Lib.hid (HO1.out.behind hb2 HB1.out.lt.1); clear hb2))
  have k2 := HB2.out.reads.1
  have z2 := HB2.out.reads.2.1
  have HB2d := Lib.hid (HB2.out.drewN 1)
  have HO2d := Lib.hid HO2.out.drew
  go_region_law (first
    | (go_simp; go_at_call 101; refine (Document_calls HB2d.out).mono ?_; rintro e w3 ⟨d3, rfl, hd3, hBd3, hB3, hO3⟩; have HD3 := Lib.hid hd3; have k3 := hB3.reads.1; have z3 := hB3.reads.2.1; have HB3 := Lib.hid hB3; have HO3 := Lib.hid (HO2d.out.trans hO3); clear hd3 hB3 hO3 hBd3)
    | (go_simp; go_at_call 38; refine (HEn.out _ _ HD3.out).mono ?_; rintro e w4 ⟨rfl, hb4⟩; have hB4 := HB3.out.below hb4; have HO4 := Lib.hid (HO3.out.behind hb4 HB3.out.lt.1); have k4 := hB4.reads.1; have z4 := hB4.reads.2.1; have HB4 := Lib.hid hB4; clear hb4 hB4))
  all_goals
    go_wp2_with (first
      | (go_at_call 82; refine (HDe.out _ (HB4.out.place _)).mono ?_; rintro e w6 ⟨rfl, hB6, hO6⟩; have HB6 := Lib.hid hB6; have HO6 := Lib.hid ((HO4.out.set (.inl rfl) HB4.out.ge.1 2 (.int .i64 (X.size : Int))).trans hO6); clear hB6 hO6)
      | (go_at_call 101; refine (Document_calls HB6.out).mono ?_; rintro e w7 ⟨d7, rfl, hd7, hBd7, hB7, hO7⟩; have HD7 := Lib.hid hd7; have HB7 := Lib.hid hB7; have HO7 := Lib.hid (HO6.out.trans hO7); clear hd7 hB7 hO7 hBd7)
      | (go_at_call 29; refine (HBf.out _ _ HD7.out).mono ?_; rintro e w8 ⟨rfl, hb8⟩; have HB8 := Lib.hid (HB7.out.below hb8); have HO8 := Lib.hid (HO7.out.behind hb8 HB7.out.lt.1); clear hb8 HB6)
      | (go_at_call 101; refine (Document_calls HB8.out).mono ?_; rintro e w9 ⟨d9, rfl, hd9, hBd9, hB9, hO9⟩; have HD9 := Lib.hid hd9; have HB9 := Lib.hid hB9; have HO9 := Lib.hid (HO8.out.trans hO9); clear hd9 hB9 hO9 hBd9)
      | (go_at_call 30; refine (HAf.out _ _ HD9.out).mono ?_; rintro e w10 ⟨rfl, hb10⟩; have HB10 := Lib.hid (HB9.out.below hb10); have HO10 := Lib.hid (HO9.out.behind hb10 HB9.out.lt.1); clear hb10)
      | (go_at_call 107; refine (HT.out _).mono ?_; rintro e w11 ⟨rfl, hb11⟩; have HB11 := Lib.hid (HB10.out.below hb11); have HO11 := Lib.hid (HO10.out.behind hb11 HB10.out.lt.1); clear hb11)
      | (go_at_call 88; refine (setText_bs HB11.out (X ++ sep ++ T)).mono ?_; rintro e w12 ⟨rfl, hB12, hO12⟩))
    go_end0
    exact ⟨rfl, hB12, HO11.out.trans hO12⟩
set_option maxHeartbeats 1000000 in
theorem JoinNone_calls (h : BS w B m g s p q) (hok : OkT s p) (sep : ByteArray) (hr : rowB s p + 1 = rowsB s) : Calls Tryz.prog 84 #[Pt m, .string sep] w fun e' w' => e' = .returned (.tuple #[]) ∧ BS w' B m g s p q ∧ Only B m g w w' := by
  have hlast : ((rowB s p : Int) == (rowsB s : Int) - 1) = true := beq_iff_eq.2 (by omega)
  have HLa := Lib.hid (fun w d (hd : Doc w d s p) => last_c hok hd)
  rw [hlast] at HLa
  have HH := Lib.hid h
  clear h hlast hr hok
  go_enter Tryz.func84, Tryz.ntmps84
  go_wp2_with (first
    | (go_at_call 101; refine (Document_calls HH.out).mono ?_; rintro e w1 ⟨d, rfl, hd, hBd, hB1, hO1⟩; have HD := Lib.hid hd; have HB1 := Lib.hid hB1; have HO1 := Lib.hid hO1; clear hd hB1 hO1 hBd)
    | (go_at_call 37; refine (HLa.out _ _ HD.out).mono ?_; rintro e w2 ⟨rfl, hb2⟩; have HB2 := Lib.hid (HB1.out.below hb2); have HO2 := Lib.hid (HO1.out.behind hb2 HB1.out.lt.1); clear hb2))
  go_end0
  exact ⟨rfl, HB2.out, HO2.out⟩
end
end Go.Proofs.YtkfmjkiefckgoaaGreatDoor.H
