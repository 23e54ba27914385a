/- A text that is written has as many bytes as it had, and none that begins a sequence; a raw one is as it is: the pure statement behind the law FnWroteText; no condition. -/
import Derived.Test.YtanadaamipfmkaaDoorQPFnWroteTextx1
import Derived.Test.YtanadaamipfmkaaDoorQXPure
namespace Go.Proofs.YtanadaamipfmkaaDoor.Pure
open Go.RowKit Go.Proofs.YtanadaamipfmkaaDoor.R Go.Proofs.YtanadaamipfmkaaDoor.X Go.Proofs.YtanadaamipfmkaaDoor.PFnWroteText Go.Proofs.YtanadaamipfmkaaDoor.H Go.Proofs.YtanadaamipfmkaaDoorW.PrintWords Go.Proofs.YtanadaamipfmkaaDoorW.PrintLast
set_option linter.unusedVariables false
theorem bt_list (s : ByteArray) (i : Nat) (h : i < s.size) : bt s (i : Int) = (ints s)[i]'(by rw [ints_length]; exact h) := bt_ints s i h
/-- A byte as it is written. -/
def cl (x : Int) : Int := if x = 27 then 63 else x
def cleanL (s : ByteArray) : List Int := (ints s).map cl
theorem cleanL_length (s : ByteArray) : (cleanL s).length = s.size := by rw [cleanL, List.length_map, ints_length]
theorem cleanL_get (s : ByteArray) (i : Nat) (h : i < s.size) : (cleanL s)[i]'(by rw [cleanL_length]; exact h) = cl (bt s (i : Int)) := by
  rw [bt_list s i h]; simp [cleanL]
theorem one_eq (s : ByteArray) (i : Nat) (h : i < s.size) : (s.extract i (i + 1)).toList = (⟨#[27]⟩ : ByteArray).toList ↔ bt s (i : Int) = 27 := by
  have e : ints (s.extract i (i + 1)) = [bt s (i : Int)] := by
    rw [ints_extract, show i + 1 - i = 1 from by omega, List.drop_eq_getElem_cons (by rw [ints_length]; exact h), bt_list s i h]
    rfl
  rw [ByteArray.toList_eq, ByteArray.toList_eq]
  constructor
  · intro h1
    have e2 : ints (s.extract i (i + 1)) = ints ⟨#[27]⟩ := by unfold ints; rw [h1]
    rw [e, show ints (⟨#[27]⟩ : ByteArray) = [27] from rfl] at e2
    exact List.head_eq_of_cons_eq e2
  · intro h1
    rw [h1] at e
    have : s.extract i (i + 1) = ⟨#[27]⟩ := ints_inj e
    rw [this]
theorem clean_tells (s : ByteArray) (hs : s.size ≤ 1000) : Ev (fun k => PzzReplaceAll.goprompt_zzReplaceAll.f k s ⟨#[27]⟩ ⟨#[63]⟩) (strOfNums (cleanL s)) := by
  unfold PzzReplaceAll.goprompt_zzReplaceAll.f
  suffices h : ∀ d i : Nat, i + d = s.size → Ev (fun k => PzzReplaceAll.goprompt_zzReplaceAll.l0 k s ⟨#[27]⟩ ⟨#[63]⟩ ((cleanL s).take i) (i : Int)) (strOfNums (cleanL s)) by
    have := h s.size 0 (by omega)
    simpa using this
  have hl := cleanL_length s
  intro d
  induction d with
  | zero =>
    intro i hi
    refine Ev.step (fun k => by rw [PzzReplaceAll.goprompt_zzReplaceAll.l0]) (ev_ifn (by omega) (ev_some ?_))
    rw [List.take_of_length_le (by omega)]
  | succ d ih =>
    intro i hi
    have h := ih (i + 1) (by omega)
    rw [show ((i + 1 : Nat) : Int) = (i : Int) + 1 from by omega, List.take_succ_eq_append_getElem (by omega), cleanL_get s i (by omega)] at h
    have hlt : ((cleanL s).take i).length ≤ 1000 := by rw [List.length_take]; omega
    have e1 : ((⟨#[27]⟩ : ByteArray).size : Int) = 1 := rfl
    have e2 : (⟨#[63]⟩ : ByteArray).size = 1 := rfl
    refine Ev.step (fun k => by rw [PzzReplaceAll.goprompt_zzReplaceAll.l0, e1, e2, w64 (x := (i : Int) + 1) (by omega) (by omega), w64 (x := (s.size : Int) - (i : Int)) (by omega) (by omega), show ((i : Int) + 1).toNat = i + 1 from by omega, show ((i : Int)).toNat = i from by omega]) (ev_ifp (by omega) (ev_ifp (by omega) (ev_ifp (by omega) (ev_ifp (by omega) (ev_ifp (by omega) ?_)))))
    have ho := one_eq s i (by omega)
    by_cases h27 : bt s (i : Int) = 27
    · rw [h27, show cl 27 = 63 from rfl] at h
      exact ev_ifp (ho.2 h27) (ev_ifp (by omega) h)
    · rw [show cl (bt s (i : Int)) = bt s (i : Int) from if_neg h27] at h
      exact ev_ifn (fun e => h27 (ho.1 e)) (ev_ifp (by omega) h)
theorem nums_ints (l : List Int) (h : ∀ x ∈ l, 0 ≤ x ∧ x < 256) : ints (strOfNums l) = l := by
  unfold ints
  rw [strOfNums_data, List.map_map]
  refine (List.map_congr_left fun x hx => ?_).trans (List.map_id l)
  have := h x hx
  obtain ⟨n, rfl⟩ := Int.eq_ofNat_of_zero_le this.1
  simp only [Function.comp_apply, id_eq, Int.toNat_natCast, UInt8.toNat_ofNat']
  omega
theorem ints_bd (s : ByteArray) : ∀ x ∈ ints s, 0 ≤ x ∧ x < 256 := by
  intro x hx
  unfold ints at hx
  obtain ⟨b, _, rfl⟩ := List.mem_map.1 hx
  have := b.toNat_lt
  constructor <;> omega
theorem nums_of_ints (s : ByteArray) : strOfNums (ints s) = s := ints_inj (nums_ints _ (ints_bd s))
theorem clean_bd (s : ByteArray) : ∀ x ∈ cleanL s, 0 ≤ x ∧ x < 256 := by
  intro x hx
  unfold cleanL at hx
  obtain ⟨y, hy, rfl⟩ := List.mem_map.1 hx
  have := ints_bd s y hy
  unfold cl
  split <;> omega
theorem FnWroteText : laws_FnWroteText.Pure := by
  intro s hs
  refine Ev.rounds (r := true) ?_
  unfold laws_FnWroteText.f
  by_cases hz : (s.size : Int) > 2147483647
  · exact ev_ifp hz (Ev.now _)
  refine ev_ifn hz ?_
  have e0 : spec_UTF8.f s = some (utf8B s) := if_pos (by omega)
  rw [e0]
  simp only [Option.bind_some]
  by_cases hu : utf8B s = true
  · refine ev_ifp hu ?_
    have hsz := utf8_size hu
    obtain ⟨r, hr⟩ : ∃ r, r = strOfNums (cleanL s) := ⟨_, rfl⟩
    have hri : ints r = cleanL s := by rw [hr]; exact nums_ints _ (clean_bd s)
    have hrs : r.size = s.size := by rw [← ints_length, hri, cleanL_length]
    have hc := clean_tells s hsz
    rw [← hr] at hc
    have w1 : Ev (fun k => impl_Wrote.f k [(⟨1, 0, 0, s⟩ : S38)]) (r, true) := by
      unfold impl_Wrote.f outB
      refine ev_ifp rfl (ev_bind (a := ints r) (ev_ifp hsz (ev_ifp rfl (ev_bind hc (ev_ifp (by omega) (Ev.now _))))) ?_)
      rw [nums_of_ints]; exact Ev.now _
    have w2 : Ev (fun k => impl_Wrote.f k [(⟨2, 0, 0, s⟩ : S38)]) (s, true) := by
      unfold impl_Wrote.f outB
      refine ev_ifp rfl (ev_bind (a := ints s) (ev_ifp hsz (ev_ifn (by show ¬ ((2 : Int) = 1); omega) (ev_ifp rfl (Ev.now _)))) ?_)
      rw [nums_of_ints]; exact Ev.now _
    refine ev_bind w1 (ev_bind w2 (ev_ifp rfl (ev_ifp rfl (ev_ifp (by show (r.size : Int) = s.size; omega) ?_))))
    refine Ev.step (fun k => by rw [laws_FnWroteText.j0]) (ev_ifn (by simp) ?_)
    suffices h : ∀ d i : Nat, i + d = s.size → Ev (fun k => laws_FnWroteText.l0 k s r (i : Int)) true from h s.size 0 (by omega)
    intro d
    induction d with
    | zero => intro i hi; exact Ev.step (fun k => by rw [laws_FnWroteText.l0]) (ev_ifn (by omega) (Ev.now _))
    | succ d ih =>
      intro i hi
      have h := ih (i + 1) (by omega)
      rw [show ((i + 1 : Nat) : Int) = (i : Int) + 1 from by omega] at h
      have hb : bt r (i : Int) = cl (bt s (i : Int)) := by
        rw [bt_list r i (by omega), ← cleanL_get s i (by omega)]
        simp only [hri]
      refine Ev.step (fun k => by rw [laws_FnWroteText.l0, w64 (x := (i : Int) + 1) (by omega) (by omega)]) (ev_ifp (by omega) (ev_ifp (by omega) (ev_ifp (by omega) (ev_ifn ?_ ?_))))
      · rw [hb]; unfold cl; split <;> omega
      · by_cases h27 : bt s (i : Int) = 27
        · exact ev_ifp h27 h
        · exact ev_ifn h27 (ev_ifp (by rw [hb]; exact if_neg h27) h)
  · exact ev_ifn hu (Ev.now _)
end Go.Proofs.YtanadaamipfmkaaDoor.Pure
