/- Texts as code points: what the conversions between strings and slices of runes do, for the printed walks of this seat. -/
import Derived.Test.YthbdaoapjnofkaaDoorQWAll
import Derived.Laws.Cover4
import Derived.Laws.IdiomStrings
namespace Go.Proofs.YthbdaoapjnofkaaDoor.R
open Go.RowKit Go.Proofs.YthbdaoapjnofkaaDoorW.PrintWords
set_option linter.unusedVariables false
/-- The code points of a text from place i on, at most b of them. -/
def runesAt (s : ByteArray) : Nat → Nat → List Int
  | 0, _ => []
  | b + 1, i => if i < s.size then (((Utf8.decode s i).1 : Nat) : Int) :: runesAt s b (i + (Utf8.decode s i).2) else []
def runesOf (s : ByteArray) : List Int := runesAt s s.size 0
theorem runesFrom_eq (s : ByteArray) : ∀ (b i : Nat) (acc : Array Value), Conv.runesFrom s b i acc = acc ++ ((runesAt s b i).map (Value.int .i32)).toArray
  | 0, _, acc => by simp [Conv.runesFrom, runesAt]
  | b + 1, i, acc => by
    unfold Conv.runesFrom runesAt
    by_cases h : i < s.size
    · rw [if_pos h, if_pos h]
      simp only
      rw [runesFrom_eq s b]
      simp
    · rw [if_neg h, if_neg h]; simp
theorem runesOf_size (s : ByteArray) : (Conv.runesFrom s s.size 0 #[]).size = (runesOf s).length := by
  rw [runesFrom_eq]; simp [runesOf]
theorem runesAt_length (s : ByteArray) : ∀ b i, (runesAt s b i).length ≤ b
  | 0, _ => by simp [runesAt]
  | b + 1, i => by
    unfold runesAt
    split
    · have := runesAt_length s b (i + (Utf8.decode s i).2); simp; omega
    · simp
theorem runesOf_length (s : ByteArray) : (runesOf s).length ≤ s.size := runesAt_length s _ _
section
variable {P : Program} {ops : Array Oper} {rest : List Oper} {o : Oper} {a : Act} {Q : Exit → Act → World → Prop}
theorem own_runes (W : World) (base e : Nat) (xs : List Int) (cap : Nat) (hc : xs.length ≤ cap) (hm : cap ≤ maxLen) (hbase : base ≤ W.heap.size) :
    (W.drew.alloc (.cells ((xs.map (Value.int .i32)).toArray ++ Array.replicate (cap - xs.length) (.int .i32 0)) e)).ownsRow base e 1 (.slice (some ⟨W.heap.size, 0, none⟩) xs.length cap) xs.length (xs.map (Value.int .i32)) := by
  refine ⟨by simp, .inr ⟨W.heap.size, cap, _, rfl, hbase, heap_alloc_new W.drew _, hc, hm, by simp; omega, ?_⟩⟩
  simp only [Array.toList_append]
  rw [List.take_append_of_le_length (by simp)]
  exact List.take_of_length_le (by simp)
/-- '[]rune(s)' in a plain region. -/
theorem R_runes {w0 W : World} (base e : Nat) (hgd : o.guard = none) {N : Tmp} (hd : o.dst = some N) (src dst : TypeId) (x : Operand) (ho : o.op = .convert src dst x) (s : ByteArray) (hx : a.eval x = .string s)
    (hs : P.underlying src = some .string) (ht : P.underlying dst = some (.slice e)) (he : P.underlying e = some (.int .i32)) {ok okp : Nat → Prop} (hok : ∀ k, okp k → ok k) (hfresh : ok W.heap.size)
    (hsz : (runesOf s).length ≤ 70368744177664) (HB : Below base w0 W) (hbase : base ≤ W.heap.size)
    (h : ∀ v1 w1, (Kd.int .i32).R e w1 base ok v1 (runesOf s) → Below base w0 w1 → W.grownBy w1 none → (∃ b, v1.ownBlock = some b ∧ W.heap.size ≤ b) → wpList P ops Q rest (a.put o.dst v1) w1) : wpList P ops Q (o :: rest) a W := by
  have hcap := grownCap_ge W (runesOf s).length 0 e
  have hmax := grownCap_le_maxLen W (runesOf s).length 0 e (by unfold maxLen; omega)
  have hrun : (execOp a.eval o).run P W = .ok (.value (.slice (some ⟨W.heap.size, 0, none⟩) (runesOf s).length (grownCap W (runesOf s).length 0 e))) (W.drew.alloc (.cells (((runesOf s).map (Value.int .i32)).toArray ++ Array.replicate (grownCap W (runesOf s).length 0 e - (runesOf s).length) (.int .i32 0)) e)) := by
    have hr := run_runes_of_string (P := P) W src dst e s hs ht he (by rw [runesOf_size]; exact hsz)
    rw [runesOf_size, runesFrom_eq] at hr
    simp only [Array.empty_append] at hr
    have e1 : runesAt s s.size 0 = runesOf s := rfl
    rw [e1] at hr
    simp [execOp, ho, hx, hr]
  have hown := own_runes W base e (runesOf s) _ hcap hmax hbase
  refine Kd.event_run hgd hrun (h _ _ ⟨fun k hk => ?_, (runesOf s).map (Value.int .i32), hown, ?_⟩ ((below_drew HB).alloc hbase _) ?_ ⟨W.heap.size, by simp [Value.ownBlock], Nat.le_refl _⟩)
  · have : W.heap.size = k := by simpa [Value.ownBlock] using hk
    subst this
    exact hfresh
  · refine ⟨by simp [Kd.int, Kd.scalar], fun j p hj => ?_⟩
    show (((runesOf s).map (Value.int .i32)).drop (j * 1)).take 1 = [Value.int .i32 p]
    obtain ⟨hjl, hp⟩ := List.getElem?_eq_some_iff.1 hj
    rw [Nat.mul_one, List.drop_eq_getElem_cons (by simpa using hjl)]
    simp [hp]
  · have h1 : W.grownBy W.drew none := ⟨rfl, rfl, rfl, Nat.le_refl _, fun _ _ _ => rfl⟩
    have h2 := World.grownBy_alloc W.drew (.cells (((runesOf s).map (Value.int .i32)).toArray ++ Array.replicate (grownCap W (runesOf s).length 0 e - (runesOf s).length) (.int .i32 0)) e) none
    exact ⟨h2.os.trans h1.os, h2.tape.trans h1.tape, h2.output.trans h1.output, Nat.le_trans h1.size h2.size, fun i hi hn => (h2.block i (Nat.lt_of_lt_of_le hi h1.size) hn).trans (h1.block i hi hn)⟩
end
/-- 'string(rs)' of a slice of runes that is read. -/
theorem C_runes {P : Program} {w : World} {A : Option Addr} {c : Nat} {src dst e : TypeId} {xs : List Int} (hs : P.underlying src = some (.slice e)) (he : P.underlying e = some (.int .i32)) (hd : P.underlying dst = some .string)
    (h : (Kd.int .i32).C w A xs.length xs) : (convert src dst (.slice A xs.length c)).run P w = .ok (.string (runesBytes xs)) w := by
  obtain ⟨_, _, hc⟩ := Kd.reads_of_C (d := (0 : Int)) (h1 := fun _ => rfl) h
  cases xs with
  | nil =>
    rw [run_convert_runes_string w src dst e _ _ _ hs he hd]
    cases A with
    | none => rfl
    | some ad =>
      have := run_convert_runes (P := P) w src dst e ad 0 c [] (Nat.le_refl _) hs he hd (fun j hj => by simp at hj)
      rw [run_convert_runes_string w src dst e _ _ _ hs he hd] at this
      simpa using this
  | cons x xs =>
    obtain ⟨ad, rfl, hcell⟩ := hc (by simp)
    have := run_convert_runes (P := P) w src dst e ad (x :: xs).length c (x :: xs) (Nat.le_refl _) hs he hd (fun j hj => hcell j hj)
    rwa [List.take_length] at this
end Go.Proofs.YthbdaoapjnofkaaDoor.R
