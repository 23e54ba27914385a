/- The key that bytes are (goprompt.GetKey): what it tells; no condition. -/
import Derived.Test.YthbdaoapjnofkaaDoorQHSeq
import Derived.Laws.IdiomStrings
import Derived.Laws.BytesArg
namespace Go.Proofs.YthbdaoapjnofkaaDoor.H
open Go.RowKit Go.Proofs.YthbdaoapjnofkaaDoorW.PrintWords Go.Proofs.YthbdaoapjnofkaaDoorW.PrintLast Go.Proofs.YthbdaoapjnofkaaDoor.R
set_option linter.unusedVariables false
set_option linter.unusedSimpArgs false
attribute [local go_sem ↓] Go.wp_at_zero Go.wp_at_succ
theorem tab_cell {base : Nat} {w : World} (h : TabAt base w) (j : Nat) (p : Int × List Int) (hj : keyTab[j]? = some p) : w.cell? ⟨base + 112, 2 * j, none⟩ = some (.int .i64 p.1) ∧ w.cell? ⟨base + 112, 2 * j + 1, none⟩ = some (.slice (some ⟨base + j, 0, none⟩) p.2.length p.2.length) := by
  have hf := fun k => Great.flat_get (s := 2) (by omega) (aggs base) (fun v hv => by
    unfold aggs at hv
    obtain ⟨x, _, rfl⟩ := List.mem_map.1 hv
    rfl) k
  have ha := aggs_at base j p hj
  have h0 := hf (2 * j)
  have h1 := hf (2 * j + 1)
  rw [show 2 * j / 2 = j by omega, show 2 * j % 2 = 0 by omega, ha] at h0
  rw [show (2 * j + 1) / 2 = j by omega, show (2 * j + 1) % 2 = 1 by omega, ha] at h1
  unfold World.cell?
  simp only [h.1]
  refine ⟨?_, ?_⟩
  · rw [List.getElem?_toArray]; exact h0
  · rw [List.getElem?_toArray]; exact h1
/-- The key whose bytes are first found. -/
def keyAt (b : List Int) : List (Int × List Int) → Int
  | [] => 86
  | p :: L => if p.2 = b then p.1 else keyAt b L
theorem tab_string {base : Nat} {w : World} (h : TabAt base w) (j : Nat) (p : Int × List Int) (hj : keyTab[j]? = some p) : (convert 48 9 (.slice (some ⟨base + j, 0, none⟩) p.2.length p.2.length)).run Tryd.prog w = .ok (.string (strOfNums p.2)) w := by
  refine run_convert_bytes_arg w 48 5 Tryd.underlying48 Tryd.underlying5 (base + j) 0 p.2.length p.2.length p.2 rfl (fun i hi => ?_) 9 Tryd.underlying9
  have := h.2 j p hj
  unfold World.cell?
  simp only [this]
  simp [List.getD, List.getElem?_eq_getElem hi]
theorem TabAt.below {base : Nat} {w w' : World} (h : TabAt base w) (hb : Below (base + 113) w w') : TabAt base w' := ⟨(hb.block _ (by omega)).trans h.1, fun j p hj => (hb.block _ (by have := (List.getElem?_eq_some_iff.1 hj).1; rw [key_len] at this; omega)).trans (h.2 j p hj)⟩
theorem key_bytes : ∀ p ∈ keyTab, ∀ x ∈ p.2, 0 ≤ x ∧ x < 256 := by decide +kernel
theorem nums_back (xs : List Int) (h : ∀ x ∈ xs, 0 ≤ x ∧ x < 256) : (strOfNums xs).data.toList.map (fun x => (x.toNat : Int)) = xs := by
  rw [strOfNums_data, List.map_map]
  conv => rhs; rw [← List.map_id xs]
  refine List.map_congr_left fun x hx => ?_
  have := h x hx
  show (((UInt8.ofNat x.toNat).toNat : Nat) : Int) = x
  simp
  omega
theorem key_eq (p : Int × List Int) (hp : p ∈ keyTab) (s : ByteArray) : (strOfNums p.2).toList = s.toList ↔ p.2 = s.data.toList.map fun x => (x.toNat : Int) := by
  rw [ByteArray.toList_eq, ByteArray.toList_eq]
  have hb := nums_back p.2 (key_bytes p hp)
  constructor
  · intro h
    rw [← h, hb]
  · intro h
    rw [h] at hb
    have hinj : ∀ a b : List UInt8, a.map (fun x => (x.toNat : Int)) = b.map (fun x => (x.toNat : Int)) → a = b := fun a b hab => by
      refine List.map_inj_right (f := fun x : UInt8 => (x.toNat : Int)) ?_ |>.1 hab
      intro x y hxy
      have e : (x.toNat : Int) = (y.toNat : Int) := hxy
      exact UInt8.toNat_inj.1 (by omega)
    rw [h]
    exact hinj _ _ hb
set_option maxRecDepth 10000 in
set_option maxHeartbeats 8000000 in
theorem GetKey_calls (s : ByteArray) (A : Option Addr) (n c : Nat) (w : World) (hcv : ∀ w', Below w.heap.size w w' → (convert 48 9 (.slice A n c)).run Tryd.prog w' = .ok (.string s) w') :
    Calls Tryd.prog 60 #[.slice A n c] w fun e w' => e = .returned (.int .i64 (keyAt (s.data.toList.map fun x => (x.toNat : Int)) keyTab)) ∧ Below w.heap.size w w' := by
  have HC := Lib.hid hcv
  clear hcv
  obtain ⟨ks, hks⟩ : ∃ ks, ks = s.data.toList.map fun x => (x.toNat : Int) := ⟨_, rfl⟩
  have HK := Lib.hid hks
  rw [← hks]
  clear hks
  go_enter Tryd.func60, Tryd.ntmps60
  go_wp2_with fail
  refine (sequences_calls w).mono ?_
  rintro e w1 ⟨rfl, hT, hz, hb1⟩
  have H1 := Lib.hid (And.intro hT (And.intro hz hb1))
  clear hT hz hb1
  go_wp2
  go_loopw [7] (fun v7 wr => ∃ i : Nat, i ≤ 112 ∧ v7 = .int .i64 i ∧ Below (w.heap.size + 113) w1 wr ∧ keyAt ks keyTab = keyAt ks (keyTab.drop i)) (fun v7 _ => 112 - (intOf v7).toNat)
  case atStart => exact ⟨0, by omega, rfl, Below.refl _ _, by rw [List.drop_zero]⟩
  case round =>
    obtain ⟨i, hi, rfl, hb, hk⟩ := hrel
    have HKK := Lib.hid hk
    have HB := Lib.hid hb
    have hsz : w.heap.size + 113 ≤ wr.heap.size := by have := H1.out.2.1; have := hb.size; omega
    clear hk hb
    by_cases hlt : i < 112
    · have hil : i < keyTab.length := by rw [key_len]; exact hlt
      obtain ⟨p, hp⟩ : ∃ p, keyTab[i]? = some p := ⟨_, List.getElem?_eq_getElem hil⟩
      have HP := Lib.hid hp
      obtain ⟨t0, t1⟩ := tab_cell (H1.out.1.below HB.out) i p hp
      rw [Nat.mul_comm] at t0 t1
      have hcs : ∀ o, (convert 48 9 (.slice (some ⟨w.heap.size + i, 0, none⟩) p.2.length p.2.length)).run Tryd.prog (wr.alloc o) = .ok (.string (strOfNums p.2)) (wr.alloc o) := fun o => tab_string ((H1.out.1.below HB.out).below ((Below.refl _ _).alloc hsz o)) i p hp
      have hca : ∀ o, (convert 48 9 (.slice A n c)).run Tryd.prog (wr.alloc o) = .ok (.string s) (wr.alloc o) := fun o => HC.out _ (((H1.out.2.2).trans (HB.out.mono (by omega))).trans ((Below.refl _ _).alloc (by omega) o))
      have hkd : keyAt ks (keyTab.drop i) = if p.2 = ks then p.1 else keyAt ks (keyTab.drop (i + 1)) := by
        have he : keyTab[i] = p := by rw [List.getElem?_eq_getElem hil] at hp; exact Option.some.inj hp
        rw [List.drop_eq_getElem_cons hil, he]
        rfl
      have hmem : p ∈ keyTab := List.mem_of_getElem? hp
      have heq := key_eq p hmem s
      rw [← HK.out] at heq
      have hbn : ∀ o, Below (w.heap.size + 113) w1 (wr.alloc o) := fun o => HB.out.alloc (by omega) o
      have HBN := Lib.hid hbn
      clear hp hbn hmem
      by_cases hcmp : (strOfNums p.2).toList = s.toList
      · have hq : ((strOfNums p.2).toList == s.toList) = true := beq_iff_eq.2 hcmp
        have HE := Lib.hid (show keyAt ks keyTab = p.1 by rw [HKK.out, hkd, if_pos (heq.1 hcmp)])
        clear heq hkd hcmp
        go_wp2
        go_ret
        exact ⟨by rw [HE.out]; rfl, H1.out.2.2.trans ((HBN.out _).mono (by omega))⟩
      · have hq : ((strOfNums p.2).toList == s.toList) = false := beq_eq_false_iff_ne.2 hcmp
        have HE := Lib.hid (show keyAt ks keyTab = keyAt ks (keyTab.drop (i + 1)) by rw [HKK.out, hkd, if_neg (fun e => hcmp (heq.2 e))])
        clear heq hkd hcmp
        go_wp2
        go_roundw
        case rel => exact ⟨i + 1, by omega, by go_num, HBN.out _, HE.out⟩
        case measure => simp only [intOf]; omega
    · have HE := Lib.hid (show keyAt ks keyTab = 86 by rw [HKK.out, List.drop_of_length_le (by rw [key_len]; omega)]; rfl)
      go_wp2
      go_ret
      exact ⟨by rw [HE.out]; rfl, H1.out.2.2.trans (HB.out.mono (by omega))⟩
end Go.Proofs.YthbdaoapjnofkaaDoor.H
