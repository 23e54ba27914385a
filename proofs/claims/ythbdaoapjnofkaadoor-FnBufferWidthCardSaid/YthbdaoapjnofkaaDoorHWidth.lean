/- How much room a text of ASCII takes (ansi.PrintableRuneWidth): the contract by which the law FnWidthSum takes it; of texts with a byte of 128 or more nothing is said. -/
import Derived.Test.YthbdaoapjnofkaaDoorProg
import Derived.WalkKit
import Derived.Lib.Hide
namespace Go.Proofs.YthbdaoapjnofkaaDoor.H
open Go.RowKit
set_option linter.unusedVariables false
set_option linter.unusedSimpArgs false

def isTerm (c : Int) : Bool := (decide (64 ≤ c) && decide (c ≤ 90)) || (decide (97 ≤ c) && decide (c ≤ 122))
def rw1 (c : Int) : Int := if c < 32 then 0 else if 127 ≤ c then 0 else 1
/-- One sign: what is counted so far, and whether a sequence is open. -/
def wstep (p : Int × Bool) (c : Int) : Int × Bool := if c = 27 then (p.1, true) else if p.2 then (p.1, !isTerm c) else (p.1 + rw1 c, false)
def wbytes (s : ByteArray) : List Int := s.data.toList.map fun b => (b.toNat : Int)
def wfold (l : List Int) : Int × Bool := l.foldl wstep (0, false)
def asciiB (s : ByteArray) : Bool := s.data.toList.all fun b => decide (b.toNat < 128)
def ansi_PrintableRuneWidth.f (a0 : ByteArray) : Option Int := if asciiB a0 = true ∧ a0.size ≤ 4611686018427387904 then some (wfold (wbytes a0)).1 else none

theorem wfold_snoc (l : List Int) (c : Int) : wfold (l ++ [c]) = wstep (wfold l) c := by unfold wfold; rw [List.foldl_append]; rfl
theorem rw1_le (c : Int) : 0 ≤ rw1 c ∧ rw1 c ≤ 1 := by unfold rw1; split <;> (try split) <;> omega
theorem wstep_le (p : Int × Bool) (c : Int) : p.1 ≤ (wstep p c).1 ∧ (wstep p c).1 ≤ p.1 + 1 := by
  have := rw1_le c
  unfold wstep; split <;> (try split) <;> simp <;> omega
theorem wfold_le (l : List Int) : 0 ≤ (wfold l).1 ∧ (wfold l).1 ≤ l.length := by
  suffices h : ∀ (l : List Int) (p : Int × Bool), p.1 ≤ (l.foldl wstep p).1 ∧ (l.foldl wstep p).1 ≤ p.1 + l.length by simpa [wfold] using h l (0, false)
  intro l
  induction l with
  | nil => intro p; simp
  | cons c l ih => intro p; have h1 := wstep_le p c; have h2 := ih (wstep p c); simp only [List.foldl_cons, List.length_cons]; omega
theorem take_snoc (s : ByteArray) (k : Nat) (h : k < s.size) : (wbytes s).take (k + 1) = (wbytes s).take k ++ [((s[k]'h).toNat : Int)] := by
  unfold wbytes
  rw [← List.map_take, ← List.map_take, List.take_succ_eq_append_getElem (by simpa using h), List.map_append]; rfl
theorem ascii_at {s : ByteArray} (h : asciiB s = true) (k : Nat) (hk : k < s.size) : (s[k]'hk).toNat < 128 := by
  unfold asciiB at h
  rw [List.all_eq_true] at h
  have := h (s[k]'hk) (by rw [show s[k]'hk = s.data[k]'hk from rfl]; simp)
  simpa using this

set_option maxHeartbeats 1000000 in
theorem isTerm_calls (c : Int) (w : World) : Calls Tryd.prog 94 #[.int .i32 c] w fun e w' => e = .returned (.bool (isTerm c)) ∧ w = w' := by
  unfold isTerm
  by_cases h1 : 64 ≤ c <;> by_cases h2 : c ≤ 90 <;> by_cases h3 : 97 ≤ c <;> by_cases h4 : c ≤ 122
  all_goals first | (exfalso; omega) | skip
  all_goals
    go_enter Tryd.func94, Tryd.ntmps94
    go_wp2
    go_ret
    exact ⟨by simp [h1, h2, h3, h4], rfl⟩

set_option maxHeartbeats 1000000 in
theorem rw1_calls (c : Int) (w : World) (h0 : 0 ≤ c) (h : c < 128) : Calls Tryd.prog 95 #[.int .i32 c] w fun e w' => e = .returned (.int .i64 (rw1 c)) ∧ w = w' := by
  have e : (c == 173) = false := beq_eq_false_iff_ne.2 (by omega)
  unfold rw1
  by_cases h1 : c < 32 <;> by_cases h2 : 127 ≤ c
  all_goals first | (exfalso; omega) | skip
  all_goals
    (try have h3 : c ≤ 159 := by omega)
    go_enter Tryd.func95, Tryd.ntmps95
    go_wp2
    go_ret
    exact ⟨by simp [h1, h2], rfl⟩

set_option maxHeartbeats 1000000 in
theorem width_walk (s : ByteArray) (w : World) (hs : s.size ≤ 4611686018427387904) (ha : asciiB s = true) :
    Calls Tryd.prog 74 #[.string s] w fun e w' => e = .returned (.int .i64 (wfold (wbytes s)).1) ∧ ∃ pos, w' = w.iter s pos := by
  have HA := Lib.hid ha
  clear ha
  go_enter Tryd.func74, Tryd.ntmps74
  go_wp2
  go_loopw [3, 4] (fun n a wr => ∃ k : Nat, k ≤ s.size ∧ wr = w.iter s k ∧ n = .int .i64 (wfold ((wbytes s).take k)).1 ∧ a = .bool (wfold ((wbytes s).take k)).2) (fun _ _ wr => s.size - wr.iterPos w.heap.size)
  case atStart => exact ⟨0, Nat.zero_le _, rfl, by simp [wfold], by simp [wfold]⟩
  case round =>
    obtain ⟨k, hk, rfl, rfl, rfl⟩ := hrel
    have hle := wfold_le ((wbytes s).take k)
    have hll : ((wbytes s).take k).length ≤ k := List.length_take_le _ _
    by_cases hp : k < s.size
    · have h128 := ascii_at HA.out k hp
      have hnx : ∀ ty, (Instr.next (.pointer (some ⟨w.heap.size, 0, none⟩)) true ty).run Tryd.prog (w.iter s k) = _ := fun ty => run_next_ascii w s k ty hp h128
      have HS := Lib.hid (wfold_snoc ((wbytes s).take k) ((s[k]'hp).toNat : Int))
      have HT := Lib.hid (take_snoc s k hp)
      have HK := Lib.hid hk
      generalize hpq : wfold ((wbytes s).take k) = pq at *
      obtain ⟨n, a⟩ := pq
      have HP := Lib.hid hpq
      clear hpq hk
      simp only at hle hnx ⊢
      obtain ⟨hle0, hle1⟩ := hle
      have hn1 : n ≤ 4611686018427387904 := by omega
      generalize hc : ((s[k]'hp).toNat) = c at *
      clear hc hle1 hll
      have hr := rw1_le (c : Int)
      obtain ⟨hr0, hr1⟩ := hr
      by_cases h27 : ((c : Int) == 27) = true
      · have HC := Lib.hid (eq_of_beq h27)
        go_wp2_with (fail)
        go_roundw
        case rel => exact ⟨k + 1, by omega, rfl, by rw [HT.out, HS.out]; simp [wstep, HC.out], by rw [HT.out, HS.out]; simp [wstep, HC.out]⟩
        case measure => simp; omega
      · have h27' : ((c : Int) == 27) = false := by simpa using h27
        have HC := Lib.hid (show ¬ (c : Int) = 27 by simpa using h27)
        clear h27
        cases a
        · go_wp2_with (go_at_call 95; refine (rw1_calls _ _ (by omega) (by omega)).mono ?_; rintro e w' ⟨rfl, rfl⟩)
          go_roundw
          case rel => exact ⟨k + 1, by omega, rfl, by rw [HT.out, HS.out]; simp [wstep, HC.out], by rw [HT.out, HS.out]; simp [wstep, HC.out]⟩
          case measure => simp; omega
        · by_cases ht : isTerm (c : Int) = true
          · go_wp2_with (go_at_call 94; refine (isTerm_calls _ _).mono ?_; rintro e w' ⟨rfl, rfl⟩)
            go_roundw
            case rel => exact ⟨k + 1, by omega, rfl, by rw [HT.out, HS.out]; simp [wstep, HC.out], by rw [HT.out, HS.out]; simp [wstep, HC.out, ht]⟩
            case measure => simp; omega
          · have ht' : isTerm (c : Int) = false := by simpa using ht
            clear ht
            go_wp2_with (go_at_call 94; refine (isTerm_calls _ _).mono ?_; rintro e w' ⟨rfl, rfl⟩)
            go_roundw
            case rel => exact ⟨k + 1, by omega, rfl, by rw [HT.out, HS.out]; simp [wstep, HC.out], by rw [HT.out, HS.out]; simp [wstep, HC.out, ht']⟩
            case measure => simp; omega
    · have hnx : ∀ ty, (Instr.next (.pointer (some ⟨w.heap.size, 0, none⟩)) true ty).run Tryd.prog (w.iter s k) = _ := fun ty => run_next_end w s k ty hp
      have hkk : k = s.size := by omega
      have HE := Lib.hid (show (wbytes s).take k = wbytes s from List.take_of_length_le (by rw [hkk, wbytes, List.length_map, Array.length_toList]; exact Nat.le_refl _))
      clear hkk
      go_wp2
      go_ret
      exact ⟨by rw [HE.out]; rfl, _, rfl⟩

theorem ansi_PrintableRuneWidth.calls (a0 : ByteArray) (r : Int) (w : World) (h : ansi_PrintableRuneWidth.f a0 = some r) :
    Calls Tryd.prog 74 #[.string a0] w fun e w' => e = .returned (.int .i64 r) ∧ Below w.heap.size w w' := by
  unfold ansi_PrintableRuneWidth.f at h
  split at h
  · rename_i hc
    obtain rfl := Option.some.inj h
    refine (width_walk a0 w hc.2 hc.1).mono ?_
    rintro e w' ⟨rfl, pos, rfl⟩
    exact ⟨rfl, (Below.refl _ _).alloc (Nat.le_refl _) _⟩
  · cases h
end Go.Proofs.YthbdaoapjnofkaaDoor.H
