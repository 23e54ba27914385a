/-
  No cell of these rows narrows 'for every input' (looked for: loops, veiled, ifaces, maps, wideKeys, modest, calm, conditions, laid).
  DERIVED. THE GIVEN ROWS OF THIS SEAT. 4 by the template 'for every input the law returns true; each argument reads behind the call as it read before'; 0 by the template 'total and deterministic' (their statements: YthbdaoapjnofkaaTotals.lean).
  GIVEN WITH THE SEED: the statements are not yours to turn. If you find one false, say at which input.
  Laid BY PROGRAM, IN A SANDBOX (cutbox-rows.mjs): the forced cells as the released guide's own fill.sh prints them over the translation 42d73ad615a5c342… (all of the seat's roots in one cut). By AI agents, Wed Nov 11 2026. No macro, syntax, notation, axiom, sorry.
-/
import Derived.Test.YthbdaoapjnofkaaChecked
import GoSem.Claim
import GoSem.ClaimJoined
import GoSem.ClaimMapViews
import Derived.JoinedTies
import Derived.KernelRfl
namespace Go.Proofs.Ythbdaoapjnofkaa
/- THE CELL 'sum', in the pinned program and in every row, IS THE sha256 OF THE DUMP (.gsa) THAT YthbdaoapjnofkaaProg.lean LOADS. Nothing in Lean hashes anything: it is a label: what it is worth is what the hold of that sum in a sandbox is worth. -/
noncomputable def Try.pinned : Pinned := { name := "ythbdaoapjnofkaa", sum := "42d73ad615a5c342c4058b5d2f9c6c4218e163720f88e42e842af39f497e84ed", checked := Try.checked }
namespace Rows
def none {H : Type} : Left H := { results := [], args := [] }

/-- 'laws.FnHistoryEnds': WHATEVER THE INPUT: true; the input reads as it did. -/
def fnHistoryEndsSpec : ChangeSpec := { name := "fnHistoryEnds", fn := fun _ => fun
  | [d1, d2] => { results := [.lit (.bool true)], args := [d1, d2] }
  | _ => none }
def fnHistoryEndsRow : OpenClaim := { program := "ythbdaoapjnofkaa", sum := "42d73ad615a5c342c4058b5d2f9c6c4218e163720f88e42e842af39f497e84ed", func := "given.example/pub-typebar/laws.FnHistoryEnds", spec := "fnHistoryEnds", apart := false }
def FnHistoryEndsSaid : Prop := fnHistoryEndsRow.holds Try.pinned (OpenSpec.ofChange fnHistoryEndsSpec)

/-- ITS FALSE NEIGHBOUR: 'it returns false'. Refute it at one input. -/
def fnHistoryEndsWrong : ChangeSpec := { name := "fnHistoryEnds", fn := fun _ => fun
  | [d1, d2] => { results := [.lit (.bool false)], args := [d1, d2] }
  | _ => none }
def FnHistoryEndsWrongFalsely : Prop := fnHistoryEndsRow.holds Try.pinned (OpenSpec.ofChange fnHistoryEndsWrong)

/-- 'laws.FnOlderNewer': WHATEVER THE INPUT: true; the input reads as it did. -/
def fnOlderNewerSpec : ChangeSpec := { name := "fnOlderNewer", fn := fun _ => fun
  | [d1, d2] => { results := [.lit (.bool true)], args := [d1, d2] }
  | _ => none }
def fnOlderNewerRow : OpenClaim := { program := "ythbdaoapjnofkaa", sum := "42d73ad615a5c342c4058b5d2f9c6c4218e163720f88e42e842af39f497e84ed", func := "given.example/pub-typebar/laws.FnOlderNewer", spec := "fnOlderNewer", apart := false }
def FnOlderNewerSaid : Prop := fnOlderNewerRow.holds Try.pinned (OpenSpec.ofChange fnOlderNewerSpec)

/-- ITS FALSE NEIGHBOUR: 'it returns false'. Refute it at one input. -/
def fnOlderNewerWrong : ChangeSpec := { name := "fnOlderNewer", fn := fun _ => fun
  | [d1, d2] => { results := [.lit (.bool false)], args := [d1, d2] }
  | _ => none }
def FnOlderNewerWrongFalsely : Prop := fnOlderNewerRow.holds Try.pinned (OpenSpec.ofChange fnOlderNewerWrong)

/-- 'laws.FnRowColumn': WHATEVER THE INPUT: true; the input reads as it did. -/
def fnRowColumnSpec : ChangeSpec := { name := "fnRowColumn", fn := fun _ => fun
  | [d] => { results := [.lit (.bool true)], args := [d] }
  | _ => none }
def fnRowColumnRow : OpenClaim := { program := "ythbdaoapjnofkaa", sum := "42d73ad615a5c342c4058b5d2f9c6c4218e163720f88e42e842af39f497e84ed", func := "given.example/pub-typebar/laws.FnRowColumn", spec := "fnRowColumn", unfollowed := true, recurses := true, apart := false }
def FnRowColumnSaid : Prop := fnRowColumnRow.holds Try.pinned (OpenSpec.ofChange fnRowColumnSpec)

/-- ITS FALSE NEIGHBOUR: 'it returns false'. Refute it at one input. -/
def fnRowColumnWrong : ChangeSpec := { name := "fnRowColumn", fn := fun _ => fun
  | [d] => { results := [.lit (.bool false)], args := [d] }
  | _ => none }
def FnRowColumnWrongFalsely : Prop := fnRowColumnRow.holds Try.pinned (OpenSpec.ofChange fnRowColumnWrong)

/-- 'laws.FnColoured': WHATEVER THE INPUT: true; the input reads as it did. -/
def fnColouredSpec : ChangeSpec := { name := "fnColoured", fn := fun _ => fun
  | [d1, d2, d3, d4] => { results := [.lit (.bool true)], args := [d1, d2, d3, d4] }
  | _ => none }
def fnColouredRow : OpenClaim := { program := "ythbdaoapjnofkaa", sum := "42d73ad615a5c342c4058b5d2f9c6c4218e163720f88e42e842af39f497e84ed", func := "given.example/pub-typebar/laws.FnColoured", spec := "fnColoured", apart := false }
def FnColouredSaid : Prop := fnColouredRow.holds Try.pinned (OpenSpec.ofChange fnColouredSpec)

/-- ITS FALSE NEIGHBOUR: 'it returns false'. Refute it at one input. -/
def fnColouredWrong : ChangeSpec := { name := "fnColoured", fn := fun _ => fun
  | [d1, d2, d3, d4] => { results := [.lit (.bool false)], args := [d1, d2, d3, d4] }
  | _ => none }
def FnColouredWrongFalsely : Prop := fnColouredRow.holds Try.pinned (OpenSpec.ofChange fnColouredWrong)

/- THE SECOND FORM. 'bulk': how many values and letters a reading holds, each counted each time it is reached (what is shared counts as often as it is met; a slice's spare places count too). A statement '..UptoSaid' is the law's where the arguments, and the package variables that the reading takes, are together of bulk at most 1048576: NARROWER than '..Said'. Prove '..Said' where nothing that the law and all that it calls make is longer than what came in: it says more and counts as full. Else prove '..UptoSaid'. A law counts once. -/
mutual
def uptoBulk {H : Type} : DataW H → Nat
  | .lit (.string bytes) => bytes.length + 1
  | .lit _ => 1
  | .nil => 1
  | .ptr d => uptoBulk d + 1
  | .slice elems spare => uptoBulkAll elems + uptoBulkAll spare + 1
  | .agg parts => uptoBulkAll parts + 1
  | .iface _ d => uptoBulk d + 1
  | .map entries => uptoBulkEntries entries + 1
  | .held _ => 1
def uptoBulkAll {H : Type} : List (DataW H) → Nat
  | [] => 0
  | d :: r => uptoBulk d + uptoBulkAll r
def uptoBulkEntries {H : Type} : List (Lit × DataW H) → Nat
  | [] => 0
  | x :: r => uptoBulkEntry x + uptoBulkEntries r
def uptoBulkEntry {H : Type} : Lit × DataW H → Nat
  | (.string bytes, d) => bytes.length + uptoBulk d + 1
  | (_, d) => uptoBulk d + 1
 end
def uptoSmall : (H : Type) → List (DataW H) → Bool := fun _ ds => decide (uptoBulkAll ds ≤ 1048576)
def OpenSpec.upto (s : _root_.Go.ChangeSpec) : _root_.Go.OpenSpec := { _root_.Go.OpenSpec.ofChange s with cond := some uptoSmall }

/-- 'laws.FnHistoryEnds', WHERE WHAT IT READS IS OF BULK AT MOST 1048576: true; the input reads as it did. -/
def fnHistoryEndsUptoRow : OpenClaim := { program := "ythbdaoapjnofkaa", sum := "42d73ad615a5c342c4058b5d2f9c6c4218e163720f88e42e842af39f497e84ed", func := "given.example/pub-typebar/laws.FnHistoryEnds", spec := "fnHistoryEnds", apart := false, narrowed := true }
def FnHistoryEndsUptoSaid : Prop := fnHistoryEndsUptoRow.holds Try.pinned (OpenSpec.upto fnHistoryEndsSpec)

/-- 'laws.FnOlderNewer', WHERE WHAT IT READS IS OF BULK AT MOST 1048576: true; the input reads as it did. -/
def fnOlderNewerUptoRow : OpenClaim := { program := "ythbdaoapjnofkaa", sum := "42d73ad615a5c342c4058b5d2f9c6c4218e163720f88e42e842af39f497e84ed", func := "given.example/pub-typebar/laws.FnOlderNewer", spec := "fnOlderNewer", apart := false, narrowed := true }
def FnOlderNewerUptoSaid : Prop := fnOlderNewerUptoRow.holds Try.pinned (OpenSpec.upto fnOlderNewerSpec)

/-- 'laws.FnRowColumn', WHERE WHAT IT READS IS OF BULK AT MOST 1048576: true; the input reads as it did. -/
def fnRowColumnUptoRow : OpenClaim := { program := "ythbdaoapjnofkaa", sum := "42d73ad615a5c342c4058b5d2f9c6c4218e163720f88e42e842af39f497e84ed", func := "given.example/pub-typebar/laws.FnRowColumn", spec := "fnRowColumn", unfollowed := true, recurses := true, apart := false, narrowed := true }
def FnRowColumnUptoSaid : Prop := fnRowColumnUptoRow.holds Try.pinned (OpenSpec.upto fnRowColumnSpec)

/-- 'laws.FnColoured', WHERE WHAT IT READS IS OF BULK AT MOST 1048576: true; the input reads as it did. -/
def fnColouredUptoRow : OpenClaim := { program := "ythbdaoapjnofkaa", sum := "42d73ad615a5c342c4058b5d2f9c6c4218e163720f88e42e842af39f497e84ed", func := "given.example/pub-typebar/laws.FnColoured", spec := "fnColoured", apart := false, narrowed := true }
def FnColouredUptoSaid : Prop := fnColouredUptoRow.holds Try.pinned (OpenSpec.upto fnColouredSpec)

end Rows
end Go.Proofs.Ythbdaoapjnofkaa
