/- The table of keys and their bytes (goprompt.zzSequences): the rows that it lays; no condition. -/
import Derived.Test.YthbdaoapjnofkaaDoorQHRec
import Derived.Great.BuildSlice
import Derived.Great.Walk
import Derived.Great.Frames
namespace Go.Proofs.YthbdaoapjnofkaaDoor.H
open Go.RowKit Go.Proofs.YthbdaoapjnofkaaDoorW.PrintWords Go.Proofs.YthbdaoapjnofkaaDoorW.PrintLast Go.Proofs.YthbdaoapjnofkaaDoor.R
set_option linter.unusedVariables false
set_option linter.unusedSimpArgs false
attribute [local go_sem ↓] Go.wp_at_zero Go.wp_at_succ
def keyTab : List (Int × List Int) := [(0, [27]), (27, [0]), (1, [1]), (2, [2]), (3, [3]), (4, [4]), (5, [5]), (6, [6]), (7, [7]), (8, [8]), (11, [11]), (12, [12]), (13, [13]), (14, [14]), (15, [15]), (16, [16]), (17, [17]), (18, [18]), (19, [19]), (20, [20]), (21, [21]), (22, [22]), (23, [23]), (24, [24]), (25, [25]), (26, [26]), (28, [28]), (29, [29]), (30, [30]), (31, [31]), (53, [127]), (36, [27, 91, 65]), (37, [27, 91, 66]), (38, [27, 91, 67]), (39, [27, 91, 68]), (44, [27, 91, 72]), (44, [27, 48, 72]), (45, [27, 91, 70]), (45, [27, 48, 70]), (55, [10]), (46, [27, 91, 51, 126]), (47, [27, 91, 51, 59, 50, 126]), (48, [27, 91, 51, 59, 53, 126]), (44, [27, 91, 49, 126]), (45, [27, 91, 52, 126]), (49, [27, 91, 53, 126]), (50, [27, 91, 54, 126]), (44, [27, 91, 55, 126]), (45, [27, 91, 56, 126]), (54, [9]), (51, [27, 91, 90]), (52, [27, 91, 50, 126]), (56, [27, 79, 80]), (57, [27, 79, 81]), (58, [27, 79, 82]), (59, [27, 79, 83]), (56, [27, 79, 80, 65]), (57, [27, 91, 91, 66]), (58, [27, 91, 91, 67]), (59, [27, 91, 91, 68]), (60, [27, 91, 91, 69]), (56, [27, 91, 17, 126]), (57, [27, 91, 18, 126]), (58, [27, 91, 19, 126]), (59, [27, 91, 20, 126]), (60, [27, 91, 49, 53, 126]), (61, [27, 91, 49, 55, 126]), (62, [27, 91, 49, 56, 126]), (63, [27, 91, 49, 57, 126]), (64, [27, 91, 50, 48, 126]), (65, [27, 91, 50, 49, 126]), (66, [27, 91, 50, 50, 126]), (67, [27, 91, 50, 52, 126, 8]), (68, [27, 91, 37, 126]), (69, [27, 91, 38, 126]), (70, [27, 91, 40, 126]), (71, [27, 91, 41, 126]), (72, [27, 91, 49, 126]), (73, [27, 91, 50, 126]), (74, [27, 91, 51, 126]), (75, [27, 91, 52, 126]), (68, [27, 91, 49, 59, 50, 80]), (69, [27, 91, 49, 59, 50, 81]), (71, [27, 91, 49, 59, 50, 82]), (72, [27, 91, 21, 59, 50, 126]), (73, [27, 91, 23, 59, 50, 126]), (74, [27, 91, 24, 59, 50, 126]), (75, [27, 91, 25, 59, 50, 126]), (76, [27, 91, 32, 59, 50, 126]), (77, [27, 91, 33, 59, 50, 126]), (78, [27, 91, 35, 59, 50, 126]), (79, [27, 91, 36, 59, 50, 126]), (34, [27, 91, 49, 59, 53, 65]), (35, [27, 91, 49, 59, 53, 66]), (33, [27, 91, 49, 59, 53, 67]), (32, [27, 91, 49, 59, 53, 68]), (41, [27, 91, 49, 59, 50, 65]), (42, [27, 91, 49, 59, 50, 66]), (43, [27, 91, 49, 59, 50, 67]), (40, [27, 91, 49, 59, 50, 68]), (36, [27, 79, 65]), (37, [27, 79, 66]), (38, [27, 79, 67]), (39, [27, 79, 68]), (34, [27, 91, 53, 65]), (35, [27, 91, 53, 66]), (33, [27, 91, 53, 67]), (32, [27, 91, 53, 68]), (33, [27, 91, 79, 99]), (32, [27, 91, 79, 100]), (85, [27, 91, 69]), (85, [27, 91, 70])]
def pairOps : Nat → List (Int × List Int) → List Oper
  | _, [] => []
  | k, p :: L => { dst := some k, op := .buildSlice 48 p.2.length ((p.2.zipIdx 0).map fun x => (x.2, Operand.const (.int .u8 x.1))).toArray, type := 48, pos := "input.go:15", after := #[], guard := none }
      :: { dst := some (k + 1), op := .build 114 #[(0, .const (.int .i64 p.1)), (1, .tmp k)], type := 114, pos := "input.go:15", after := #[{ on := k - 1, ground := .data }], guard := none } :: pairOps (k + 2) L
def aggAt (b : Nat) (p : Int × List Int) : Value := .agg #[.int .i64 p.1, .slice (some ⟨b, 0, none⟩) p.2.length p.2.length]
theorem built114 (k : Int) (b n : Nat) : Tryd.prog.built 114 [(0, .int .i64 k), (1, .slice (some ⟨b, 0, none⟩) n n)] = some #[.int .i64 k, .slice (some ⟨b, 0, none⟩) n n] := by kernel_rfl
theorem size5 : (Tryd.prog.info? 5).map (·.size) = some 1 := by kernel_rfl
theorem zero5 : ((Tryd.prog.info? 5).bind (·.zero)).isSome = true := by kernel_rfl
set_option maxRecDepth 10000 in
theorem pairs (ops : Array Oper) (Q : Exit → Act → World → Prop) (rest : List Oper) (base : Nat) : ∀ (L : List (Int × List Int)) (i k : Nat) (a : Act) (w : World), k = 2 * i + 1 → w.heap.size = base + i → a.tmps.size = 226 → k + 2 * L.length ≤ 226 → (∀ p ∈ L, 0 < p.2.length ∧ p.2.length ≤ 16) →
    (∀ (a' : Act) (w' : World), a'.tmps.size = 226 → a'.defers = a.defers → w'.heap.size = base + i + L.length → (∀ j, j < k → a'.eval (.tmp j) = a.eval (.tmp j)) → (∀ (j : Nat) (p : Int × List Int), L[j]? = some p → a'.eval (.tmp (k + 2 * j + 1)) = aggAt (base + i + j) p) →
      (∀ (j : Nat) (p : Int × List Int), L[j]? = some p → w'.heap[base + i + j]? = some (.cells (p.2.map (Value.int .u8)).toArray 5 (0, 0))) → Below w.heap.size w w' → wpList Tryd.prog ops Q rest a' w') →
    wpList Tryd.prog ops Q (pairOps k L ++ rest) a w
  | [], i, k, a, w, hk, hw, ha, hL, hp, h => h a w ha rfl (by simpa using hw) (fun _ _ => rfl) (fun j p hj => by simp at hj) (fun j p hj => by simp at hj) (Below.refl _ _)
  | p :: L, i, k, a, w, hk, hw, ha, hL, hp, h => by
    obtain ⟨hp1, hp2⟩ := hp p (by simp)
    simp only [List.length_cons] at hL
    rw [pairOps, List.cons_append, List.cons_append]
    refine wpList_buildFlatAt rfl 48 5 p.2.length _ rfl .u8 p.2 (base + i) hw (some k) rfl Tryd.underlying48 size5 zero5 rfl hp1 (by omega) rfl ?_
    have h1 : (a.put (some k) (.slice (some ⟨base + i, 0, none⟩) p.2.length p.2.length)).eval (.tmp k) = .slice (some ⟨base + i, 0, none⟩) p.2.length p.2.length := Act.eval_put_same a k _ (by omega)
    refine wpList_buildTo rfl 114 _ rfl (some (k + 1)) rfl #[.int .i64 p.1, .slice (some ⟨base + i, 0, none⟩) p.2.length p.2.length] (by
      simp only [List.map_toArray, List.map_cons, List.map_nil, h1]
      exact built114 _ _ _) ?_
    have hb1 : Below w.heap.size w (w.alloc (.cells (p.2.map (Value.int .u8)).toArray 5)) := (Below.refl _ _).alloc (Nat.le_refl _) _
    refine pairs ops Q rest base L (i + 1) (k + 2) _ _ (by omega) (by simp; omega) (by simp only [Act.size_put]; exact ha) (by omega) (fun q hq => hp q (by simp [hq])) fun a' w' ha' hd' hw' he ht hh hb => ?_
    refine h a' w' ha' (hd'.trans (by simp only [Act.defers_put'])) (by simp only [List.length_cons]; omega) (fun j hj => ?_) (fun j q hq => ?_) (fun j q hq => ?_) (hb1.trans (hb.mono hb1.size))
    · rw [he j (by omega), Act.eval_put_ne _ _ _ _ (by omega), Act.eval_put_ne _ _ _ _ (by omega)]
    · cases j with
      | zero =>
        simp only [List.getElem?_cons_zero, Option.some.injEq] at hq
        subst hq
        rw [Nat.mul_zero, Nat.add_zero, Nat.add_zero, he (k + 1) (by omega), Act.eval_put_same _ _ _ (by simp only [Act.size_put]; omega)]
        rfl
      | succ j =>
        simp only [List.getElem?_cons_succ] at hq
        have := ht j q hq
        rw [show k + 2 * (j + 1) + 1 = k + 2 + 2 * j + 1 by omega, this, show base + (i + 1) + j = base + i + (j + 1) by omega]
    · cases j with
      | zero =>
        simp only [List.getElem?_cons_zero, Option.some.injEq] at hq
        subst hq
        have hnew := Go.heap_alloc_new w (.cells (p.2.map (Value.int .u8)).toArray 5)
        rw [hw] at hnew
        rw [Nat.add_zero, hb.block (base + i) (by simp; omega)]
        exact hnew
      | succ j =>
        simp only [List.getElem?_cons_succ] at hq
        have := hh j q hq
        rw [show base + (i + 1) + j = base + i + (j + 1) by omega] at this
        exact this
theorem key_len : keyTab.length = 112 := by decide +kernel
theorem key_small : ∀ p ∈ keyTab, 0 < p.2.length ∧ p.2.length ≤ 16 := by decide +kernel
/-- The table's cells. -/
def aggs (base : Nat) : List Value := (keyTab.zipIdx 0).map fun x => aggAt (base + x.2) x.1
theorem aggs_length (base : Nat) : (aggs base).length = 112 := by unfold aggs; rw [List.length_map, List.length_zipIdx, key_len]
theorem aggs_at (base j : Nat) (p : Int × List Int) (h : keyTab[j]? = some p) : (aggs base)[j]? = some (aggAt (base + j) p) := by
  unfold aggs
  rw [List.getElem?_map, List.getElem?_zipIdx, h]
  simp
def lastParts : Array (Nat × Operand) := ((List.range 112).map fun j => (j, Operand.tmp (2 * j + 2))).toArray
def last1 : Oper := { dst := some 225, op := .buildSlice 111 112 lastParts, type := 111, pos := "input.go:15", after := ((List.range 112).map fun j => { on := 2 * j + 1, ground := .data }).toArray, guard := none }
def last2 : Oper := { dst := some 0, op := .assign (.tmp 225), type := 111, pos := "input.go:15", after := ({ on := 224, ground := .data } :: (List.range 225).map fun j => { on := j, ground := .phase }).toArray, guard := none }
theorem body84 : Tryd.f84.body = some (.seq (.region 0 #[{ dst := some 0, op := .assign (.const (.slice none 0 0)), type := 111, pos := "input.go:14", after := #[], guard := none }] false) (.seq (.region 1 (pairOps 1 keyTab ++ [last1, last2]).toArray false) .ret)) := by kernel_rfl
theorem info114 : (Tryd.prog.info? 114).map (fun i => (i.zero.isSome, i.size)) = some (true, 2) := by kernel_rfl
theorem last_cells (base : Nat) (a : Act) (h : ∀ (j : Nat) (p : Int × List Int), keyTab[j]? = some p → a.eval (.tmp (2 * j + 2)) = aggAt (base + j) p) :
    Tryd.prog.builtSlice 114 112 (lastParts.map fun (i, x) => (i, a.eval x)).toList = some ((aggs base).flatMap fun v => v.cells.toList).toArray := by
  have hparts : (lastParts.map fun (i, x) => (i, a.eval x)).toList = ((aggs base).zipIdx 0).map fun x => (x.2, x.1) := by
    apply List.ext_getElem?
    intro j
    unfold lastParts
    simp only [Array.toList_map, List.getElem?_map, List.getElem?_zipIdx]
    by_cases hj : j < 112
    · have hk : j < keyTab.length := by rw [key_len]; exact hj
      rw [aggs_at base j keyTab[j] (List.getElem?_eq_getElem hk), List.getElem?_range hj]
      simp [h j keyTab[j] (List.getElem?_eq_getElem hk)]
    · rw [List.getElem?_eq_none (show (List.range 112).length ≤ j by rw [List.length_range]; omega), List.getElem?_eq_none (show (aggs base).length ≤ j by rw [aggs_length]; omega)]
      rfl
  rw [hparts]
  unfold Program.builtSlice
  have hi := info114
  cases hie : Tryd.prog.info? 114 with
  | none => rw [hie] at hi; cases hi
  | some ie =>
    rw [hie] at hi
    simp only [Option.map_some, Option.some.injEq, Prod.mk.injEq] at hi
    obtain ⟨hz, hs⟩ := hi
    obtain ⟨z, hz⟩ := Option.isSome_iff_exists.1 hz
    simp only [hz]
    rw [hs, if_neg (by omega)]
    refine Great.fill_whole (s := 2) (by omega) (aggs base) _ (fun v hv => ?_) (by rw [aggs_length]; simp)
    unfold aggs at hv
    obtain ⟨x, _, rfl⟩ := List.mem_map.1 hv
    rfl
/-- What the table is, as it lies in memory. -/
def TabAt (base : Nat) (w : World) : Prop := w.heap[base + 112]? = some (.cells ((aggs base).flatMap fun v => v.cells.toList).toArray 114 (0, 0)) ∧ ∀ (j : Nat) (p : Int × List Int), keyTab[j]? = some p → w.heap[base + j]? = some (.cells (p.2.map (Value.int .u8)).toArray 5 (0, 0))
set_option maxRecDepth 100000 in
set_option maxHeartbeats 4000000 in
theorem sequences_calls (w : World) : Calls Tryd.prog 84 #[] w fun e w' => e = .returned (.slice (some ⟨w.heap.size + 112, 0, none⟩) 112 112) ∧ TabAt w.heap.size w' ∧ w'.heap.size = w.heap.size + 113 ∧ Below w.heap.size w w' := by
  refine calls_of_wp Tryd.func84 body84 ?_
  have hsz : (Array.replicate (Tryd.f84.ntmps - (#[] : Array Value).size) undef).size = 226 := by rw [Array.size_replicate]; rfl
  generalize hfr : Array.replicate (Tryd.f84.ntmps - (#[] : Array Value).size) undef = fr at *
  clear hfr
  refine wp_seq (wp_region_list ?_)
  refine Great.wpList_readTo rfl (some 0) rfl (.slice none 0 0) rfl ?_
  refine wpList_nil ?_
  refine wp_seq (wp_region_list ?_)
  show wpList Tryd.prog _ _ (pairOps 1 keyTab ++ [last1, last2]) _ _
  refine pairs _ _ [last1, last2] w.heap.size keyTab 0 1 _ w rfl rfl (by simp [Act.put]; simpa using hsz) (by rw [key_len]; omega) key_small ?_
  intro a' w' ha' hd' hw' he ht hh hb
  simp only [Nat.add_zero] at hw' ht hh
  rw [key_len] at hw'
  refine Great.wpList_buildSliceTo rfl 111 114 112 lastParts rfl (w.heap.size + 112) hw' (some 225) rfl Tryd.underlying111 _ (last_cells w.heap.size a' (fun j p hj => by rw [show 2 * j + 2 = 1 + 2 * j + 1 by omega]; exact ht j p hj)) ?_
  have h1 : (a'.put (some 225) (.slice (some ⟨w.heap.size + 112, 0, none⟩) 112 112)).eval (.tmp 225) = .slice (some ⟨w.heap.size + 112, 0, none⟩) 112 112 := Act.eval_put_same a' 225 _ (by omega)
  refine Great.wpList_readTo rfl (some 0) rfl (.slice (some ⟨w.heap.size + 112, 0, none⟩) 112 112) ?_ ?_
  · show (execOp _ { last2 with op := .assign (.tmp 225) }).run Tryd.prog _ = _
    simp only [execOp, h1]
    rfl
  refine wpList_nil ?_
  refine wp_ret ?_
  have h2 : ((a'.put (some 225) (.slice (some ⟨w.heap.size + 112, 0, none⟩) 112 112)).put (some 0) (.slice (some ⟨w.heap.size + 112, 0, none⟩) 112 112)).eval (.tmp 0) = .slice (some ⟨w.heap.size + 112, 0, none⟩) 112 112 := Act.eval_put_same _ 0 _ (by simp only [Act.size_put]; omega)
  refine bodyPost_ret (results_tmp rfl _ _ _) (by simp only [Act.defers_put']; exact hd') ?_
  have hbb := hb.alloc hb.size (.cells ((aggs w.heap.size).flatMap fun v => v.cells.toList).toArray 114)
  have hnew := Go.heap_alloc_new w' (.cells ((aggs w.heap.size).flatMap fun v => v.cells.toList).toArray 114)
  rw [hw'] at hnew
  refine ⟨by rw [show ∀ (a : Act) (t : Nat), a.tmps.getD t undef = a.eval (.tmp t) from fun _ _ => rfl, h2], ⟨hnew, fun j p hj => ?_⟩, by simp; omega, hbb⟩
  have := hh j p hj
  exact (Below.heap_alloc w' _ _ (lt_of_block this)).trans this
end Go.Proofs.YthbdaoapjnofkaaDoor.H
