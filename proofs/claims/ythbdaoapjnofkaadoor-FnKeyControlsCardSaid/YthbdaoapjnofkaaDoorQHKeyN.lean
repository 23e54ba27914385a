/- The name of a key that is a control (goprompt.Key.String), and impl.KeyOf: the contract by which the law takes it; bytes that are one control, where the table of places is as the program laid it. -/
import Derived.Test.YthbdaoapjnofkaaDoorQHKey
import Derived.Test.YthbdaoapjnofkaaDoorRows
import Derived.Lib.LaidTab
import Derived.LaidSub
import Derived.MakeChecks
namespace Go.Proofs.YthbdaoapjnofkaaDoor.H
open Go.RowKit Go.Proofs.YthbdaoapjnofkaaDoorW.PrintWords Go.Proofs.YthbdaoapjnofkaaDoorW.PrintLast Go.Proofs.YthbdaoapjnofkaaDoor.R
set_option linter.unusedVariables false
set_option linter.unusedSimpArgs false
attribute [local go_sem ↓] Go.wp_at_zero Go.wp_at_succ
/-- The numbers of a table that a row lists. -/
def numsOf : DataW Unit → List Int
  | .agg l => l.map fun x => match x with
    | .lit (.int _ z) => z
    | _ => 0
  | _ => []
def keyIdx : List Int := numsOf Rows.laid_given_example_pub_typebar_pub_goprompt_Key_index
/-- The table of places in the names is as it was laid. -/
def TabH (w : World) : Prop := Lib.TabIs Tryd.prog w "given.example/pub-typebar/pub/goprompt._Key_index" .u16 keyIdx
theorem TabH.below {w w' : World} (h : TabH w) (hb : Below w.heap.size w w') : TabH w' := by
  unfold TabH Lib.TabIs at *
  cases hg : Tryd.prog.globalNamed "given.example/pub-typebar/pub/goprompt._Key_index" with
  | none => unfold World.var? at h; rw [hg] at h; cases h
  | some g =>
    have h1 : g < w.heap.size := by
      rcases Nat.lt_or_ge g w.heap.size with h1 | h1
      · exact h1
      · unfold World.var? at h
        simp only [hg, Option.bind_some, Array.getElem?_eq_none h1] at h
        cases h
    unfold World.var? at h ⊢
    simp only [hg, Option.bind_some, hb.block g h1] at h ⊢
    exact h
theorem global_key : Tryd.prog.globalNamed "given.example/pub-typebar/pub/goprompt._Key_index" = some 1 := by kernel_rfl
theorem TabH.cell {w : World} (h : TabH w) (i : Nat) (z : Int) (hz : keyIdx[i]? = some z) : w.cell? ⟨1, i, none⟩ = some (.int .u16 z) := by
  unfold TabH Lib.TabIs World.var? at h
  simp only [global_key, Option.bind_some] at h
  unfold World.cell?
  cases hq : w.heap[1]? with
  | none => simp [hq] at h
  | some o =>
    cases o with
    | cells cs t fz =>
      simp only [hq, Option.some.injEq] at h
      subst h
      simp [hz]
    | _ => simp [hq] at h
theorem tab_of {W : World} {l : List (String × DataW Unit)} (hf : l.filter (fun x => x.1 == "given.example/pub-typebar/pub/goprompt._Key_index") = [("given.example/pub-typebar/pub/goprompt._Key_index", Lib.tabData .u16 keyIdx)]) (h : laidMetH Tryd.prog l W) : TabH W := by
  have h1 := h.filter (fun x => x.1 == "given.example/pub-typebar/pub/goprompt._Key_index")
  rw [hf, MakeChecks.laidMetH_plain _ _ _ (by kernel_rfl)] at h1
  exact Lib.tabIs_of_head (g := 1) (t := 117) (e := 116) (n := 88) (by kernel_rfl) (by kernel_rfl) (by kernel_rfl) (by kernel_rfl) (by kernel_rfl) (by kernel_rfl) h1
theorem idx_at : ∀ k : Fin 27, keyIdx[k.val + 1]? = some (8 * (k.val : Int) + 6) := by decide +kernel
def keyName : ByteArray := ⟨#[69, 115, 99, 97, 112, 101, 67, 111, 110, 116, 114, 111, 108, 65, 67, 111, 110, 116, 114, 111, 108, 66, 67, 111, 110, 116, 114, 111, 108, 67, 67, 111, 110, 116, 114, 111, 108, 68, 67, 111, 110, 116, 114, 111, 108, 69, 67, 111, 110, 116, 114, 111, 108, 70, 67, 111, 110, 116, 114, 111, 108, 71, 67, 111, 110, 116, 114, 111, 108, 72, 67, 111, 110, 116, 114, 111, 108, 73, 67, 111, 110, 116, 114, 111, 108, 74, 67, 111, 110, 116, 114, 111, 108, 75, 67, 111, 110, 116, 114, 111, 108, 76, 67, 111, 110, 116, 114, 111, 108, 77, 67, 111, 110, 116, 114, 111, 108, 78, 67, 111, 110, 116, 114, 111, 108, 79, 67, 111, 110, 116, 114, 111, 108, 80, 67, 111, 110, 116, 114, 111, 108, 81, 67, 111, 110, 116, 114, 111, 108, 82, 67, 111, 110, 116, 114, 111, 108, 83, 67, 111, 110, 116, 114, 111, 108, 84, 67, 111, 110, 116, 114, 111, 108, 85, 67, 111, 110, 116, 114, 111, 108, 86, 67, 111, 110, 116, 114, 111, 108, 87, 67, 111, 110, 116, 114, 111, 108, 88, 67, 111, 110, 116, 114, 111, 108, 89, 67, 111, 110, 116, 114, 111, 108, 90, 67, 111, 110, 116, 114, 111, 108, 83, 112, 97, 99, 101, 67, 111, 110, 116, 114, 111, 108, 66, 97, 99, 107, 115, 108, 97, 115, 104, 67, 111, 110, 116, 114, 111, 108, 83, 113, 117, 97, 114, 101, 67, 108, 111, 115, 101, 67, 111, 110, 116, 114, 111, 108, 67, 105, 114, 99, 117, 109, 102, 108, 101, 120, 67, 111, 110, 116, 114, 111, 108, 85, 110, 100, 101, 114, 115, 99, 111, 114, 101, 67, 111, 110, 116, 114, 111, 108, 76, 101, 102, 116, 67, 111, 110, 116, 114, 111, 108, 82, 105, 103, 104, 116, 67, 111, 110, 116, 114, 111, 108, 85, 112, 67, 111, 110, 116, 114, 111, 108, 68, 111, 119, 110, 85, 112, 68, 111, 119, 110, 82, 105, 103, 104, 116, 76, 101, 102, 116, 83, 104, 105, 102, 116, 76, 101, 102, 116, 83, 104, 105, 102, 116, 85, 112, 83, 104, 105, 102, 116, 68, 111, 119, 110, 83, 104, 105, 102, 116, 82, 105, 103, 104, 116, 72, 111, 109, 101, 69, 110, 100, 68, 101, 108, 101, 116, 101, 83, 104, 105, 102, 116, 68, 101, 108, 101, 116, 101, 67, 111, 110, 116, 114, 111, 108, 68, 101, 108, 101, 116, 101, 80, 97, 103, 101, 85, 112, 80, 97, 103, 101, 68, 111, 119, 110, 66, 97, 99, 107, 84, 97, 98, 73, 110, 115, 101, 114, 116, 66, 97, 99, 107, 115, 112, 97, 99, 101, 84, 97, 98, 69, 110, 116, 101, 114, 70, 49, 70, 50, 70, 51, 70, 52, 70, 53, 70, 54, 70, 55, 70, 56, 70, 57, 70, 49, 48, 70, 49, 49, 70, 49, 50, 70, 49, 51, 70, 49, 52, 70, 49, 53, 70, 49, 54, 70, 49, 55, 70, 49, 56, 70, 49, 57, 70, 50, 48, 70, 50, 49, 70, 50, 50, 70, 50, 51, 70, 50, 52, 65, 110, 121, 67, 80, 82, 82, 101, 115, 112, 111, 110, 115, 101, 86, 116, 49, 48, 48, 77, 111, 117, 115, 101, 69, 118, 101, 110, 116, 87, 105, 110, 100, 111, 119, 115, 77, 111, 117, 115, 101, 69, 118, 101, 110, 116, 66, 114, 97, 99, 107, 101, 116, 101, 100, 80, 97, 115, 116, 101, 73, 103, 110, 111, 114, 101, 78, 111, 116, 68, 101, 102, 105, 110, 101, 100]⟩
/-- "Control" and a letter. -/
def ctl (k : Nat) : ByteArray := ⟨#[67, 111, 110, 116, 114, 111, 108, UInt8.ofNat (64 + k)]⟩
theorem name_at : ∀ k : Fin 26, keyName.extract (8 * k.val + 6) (8 * k.val + 14) = ctl (k.val + 1) := by decide +kernel
set_option maxRecDepth 100000 in
set_option maxHeartbeats 8000000 in
theorem String_calls (k : Nat) (hk : k < 26) (w : World) (hT : TabH w) : Calls Tryd.prog 61 #[.int .i64 ((k : Int) + 1)] w fun e w' => e = .returned (.string (ctl (k + 1))) ∧ w' = w.drew := by
  have t0 := hT.cell (k + 1) _ (idx_at ⟨k, by omega⟩)
  have t1 := hT.cell (k + 1 + 1) _ (idx_at ⟨k + 1, by omega⟩)
  have HN := Lib.hid (name_at ⟨k, hk⟩)
  dsimp only at t0 t1
  rw [show 8 * ((k + 1 : Nat) : Int) + 6 = 8 * (k : Int) + 14 by omega] at t1
  clear hT
  have mixed : Tryd.prog.follows Departure.mixedOrders = true := by kernel_rfl
  go_enter Tryd.func61, Tryd.ntmps61
  go_wp2
  go_region_o
  all_goals (
    go_wp2
    go_ret
    refine ⟨?_, rfl⟩
    show Ending.returned (.string (keyName.extract (8 * k + 6) (8 * k + 14))) = _
    rw [HN.out])
theorem to_bytes2 (w : World) (s : ByteArray) : ∃ c W1, (convert 9 48 (.string s)).run Tryd.prog w = .ok (.slice (some ⟨w.heap.size, 0, none⟩) s.size c) W1 ∧ (∀ w', Below W1.heap.size W1 w' → (convert 48 9 (.slice (some ⟨w.heap.size, 0, none⟩) s.size c)).run Tryd.prog w' = .ok (.string s) w') ∧ Below w.heap.size w W1 := by
  have hsz : s.data.toList.length = s.size := by rw [Array.length_toList]; rfl
  refine ⟨_, _, run_bytes_of_string (P := Tryd.prog) w 9 48 5 s Tryd.underlying9 Tryd.underlying48 Tryd.underlying5, fun w' hb => ?_, ((Below.refl w.heap.size w).drew).alloc (Nat.le_refl _) _⟩
  have hnew : (w.drew.alloc (.cells (bytesRow s (grownCap w s.size 0 5)) 5 ((bytesRow s (grownCap w s.size 0 5)).size, (bytesRow s (grownCap w s.size 0 5)).size + 1))).heap[w.heap.size]? = some (.cells (bytesRow s (grownCap w s.size 0 5)) 5 ((bytesRow s (grownCap w s.size 0 5)).size, (bytesRow s (grownCap w s.size 0 5)).size + 1)) := Go.heap_alloc_new w.drew _
  have h := run_convert_bytes_back (P := Tryd.prog) w' 48 9 5 ⟨w.heap.size, 0, none⟩ (grownCap w s.size 0 5) s.data.toList Tryd.underlying48 Tryd.underlying5 Tryd.underlying9 (fun j hj => by
    rw [hsz] at hj
    rw [show (⟨w.heap.size, 0, none⟩ : Addr).add j = ⟨w.heap.size, j, none⟩ by unfold Addr.add; split <;> simp_all]
    refine pw_cell_below hb ?_
    simp only [World.cell?, hnew]
    have hj2 : j < s.data.size := hj
    have e1 : (bytesRow s (grownCap w s.size 0 5))[j]? = some (.int .u8 ((s.data[j]'hj2).toNat : Int)) := by
      unfold bytesRow
      rw [Array.getElem?_append_left (by simpa using hj2), Array.getElem?_map, Array.getElem?_eq_getElem hj2]
      rfl
    rw [if_neg (by simp)]
    refine e1.trans ?_
    simp)
  rw [hsz] at h
  simpa using h
theorem key_is : ∀ k : Fin 26, k.val ≠ 8 → k.val ≠ 9 → k.val ≠ 12 → keyAt [(k.val : Int) + 1] keyTab = (k.val : Int) + 1 := by decide +kernel
/-- The control that one byte is. -/
def ctlOf : List UInt8 → Option ByteArray
  | [x] => if 1 ≤ x.toNat ∧ x.toNat ≤ 26 ∧ x.toNat ≠ 9 ∧ x.toNat ≠ 10 ∧ x.toNat ≠ 13 then some (ctl x.toNat) else none
  | _ => none
def impl_KeyOf.f (s : ByteArray) : Option ByteArray := ctlOf s.data.toList
set_option maxHeartbeats 8000000 in
theorem impl_KeyOf.calls (s r : ByteArray) (w : World) (h : impl_KeyOf.f s = some r) (hT : TabH w) : Calls Tryd.prog 32 #[.string s] w fun e w' => e = .returned (.string r) ∧ Below w.heap.size w w' := by
  unfold impl_KeyOf.f ctlOf at h
  split at h
  · rename_i x hx
    split at h
    · rename_i hc
      obtain rfl := Option.some.inj h
      obtain ⟨c, W1, hc1, hc2, hb1⟩ := to_bytes2 w s
      obtain ⟨k, hk⟩ : ∃ k, x.toNat = k + 1 := ⟨x.toNat - 1, by omega⟩
      have hkey : keyAt [(k : Int) + 1] keyTab = (k : Int) + 1 := key_is ⟨k, by omega⟩ (by simp; omega) (by simp; omega) (by simp; omega)
      have hG := GetKey_calls s (some ⟨w.heap.size, 0, none⟩) s.size c W1 hc2
      rw [hx, List.map_cons, List.map_nil, hk, show ((k + 1 : Nat) : Int) = (k : Int) + 1 by omega, hkey] at hG
      have HG := Lib.hid hG
      have HB := Lib.hid hb1
      have HT := Lib.hid hT
      have hk26 : k < 26 := by omega
      clear h hc hc2 hb1 hG hT hkey
      rw [hk]
      clear hk hx
      go_enter Tryd.func32, Tryd.ntmps32
      go_wp2_with fail
      refine HG.out.mono ?_
      rintro e w2 ⟨rfl, hb2⟩
      have hb3 : Below w.heap.size w w2 := HB.out.trans (hb2.mono HB.out.size)
      have HS := Lib.hid (String_calls k hk26 w2 (HT.out.below hb3))
      have HB3 := Lib.hid hb3
      clear hb2 hb3
      go_wp2_with fail
      refine HS.out.mono ?_
      rintro e w3 ⟨rfl, rfl⟩
      go_wp2
      go_ret
      exact ⟨rfl, below_drew HB3.out⟩
    · cases h
  · cases h
end Go.Proofs.YthbdaoapjnofkaaDoor.H
