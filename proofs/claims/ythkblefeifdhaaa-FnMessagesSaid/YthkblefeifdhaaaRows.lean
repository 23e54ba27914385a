/-
  No cell of these rows narrows 'for every input' (looked for: loops, veiled, ifaces, maps, wideKeys, modest, calm, conditions, laid).
  DERIVED. THE GIVEN ROWS OF THIS SEAT. 10 by the template 'for every input the law returns true; each argument reads behind the call as it read before'; 0 by the template 'total and deterministic' (their statements: YthkblefeifdhaaaTotals.lean).
  GIVEN WITH THE SEED: the statements are not yours to turn. If you find one false, say at which input.
  Laid BY PROGRAM, IN A SANDBOX (cutbox-rows.mjs): the forced cells as the released guide's own fill.sh prints them over the translation 4c4948fcdf98cd2e… (all of the seat's roots in one cut). By AI agents, Wed Nov 11 2026. No macro, syntax, notation, axiom, sorry.
-/
import Derived.Test.YthkblefeifdhaaaChecked
import GoSem.Claim
import GoSem.ClaimJoined
import GoSem.ClaimMapViews
import Derived.JoinedTies
import Derived.KernelRfl
namespace Go.Proofs.Ythkblefeifdhaaa
/- THE CELL 'sum', in the pinned program and in every row, IS THE sha256 OF THE DUMP (.gsa) THAT YthkblefeifdhaaaProg.lean LOADS. Nothing in Lean hashes anything: it is a label: what it is worth is what the hold of that sum in a sandbox is worth. -/
noncomputable def Try.pinned : Pinned := { name := "ythkblefeifdhaaa", sum := "4c4948fcdf98cd2eed58669b45e18ecf7905cfec76854ffabd3fadda00af59de", checked := Try.checked }
namespace Rows
def none {H : Type} : Left H := { results := [], args := [] }

/-- 'laws.FnPrintable': WHATEVER THE INPUT: true; the input reads as it did. -/
def fnPrintableSpec : ChangeSpec := { name := "fnPrintable", fn := fun _ => fun
  | [d] => { results := [.lit (.bool true)], args := [d] }
  | _ => none }
def fnPrintableRow : OpenClaim := { program := "ythkblefeifdhaaa", sum := "4c4948fcdf98cd2eed58669b45e18ecf7905cfec76854ffabd3fadda00af59de", func := "given.example/pub-typebar/laws.FnPrintable", spec := "fnPrintable", apart := false }
def FnPrintableSaid : Prop := fnPrintableRow.holds Try.pinned (OpenSpec.ofChange fnPrintableSpec)

/-- ITS FALSE NEIGHBOUR: 'it returns false'. Refute it at one input. -/
def fnPrintableWrong : ChangeSpec := { name := "fnPrintable", fn := fun _ => fun
  | [d] => { results := [.lit (.bool false)], args := [d] }
  | _ => none }
def FnPrintableWrongFalsely : Prop := fnPrintableRow.holds Try.pinned (OpenSpec.ofChange fnPrintableWrong)

/-- 'laws.FnBisect': WHATEVER THE INPUT: true; the input reads as it did. -/
def fnBisectSpec : ChangeSpec := { name := "fnBisect", fn := fun _ => fun
  | [d1, d2] => { results := [.lit (.bool true)], args := [d1, d2] }
  | _ => none }
def fnBisectRow : OpenClaim := { program := "ythkblefeifdhaaa", sum := "4c4948fcdf98cd2eed58669b45e18ecf7905cfec76854ffabd3fadda00af59de", func := "given.example/pub-typebar/laws.FnBisect", spec := "fnBisect", unfollowed := true, recurses := true, apart := false }
def FnBisectSaid : Prop := fnBisectRow.holds Try.pinned (OpenSpec.ofChange fnBisectSpec)

/-- ITS FALSE NEIGHBOUR: 'it returns false'. Refute it at one input. -/
def fnBisectWrong : ChangeSpec := { name := "fnBisect", fn := fun _ => fun
  | [d1, d2] => { results := [.lit (.bool false)], args := [d1, d2] }
  | _ => none }
def FnBisectWrongFalsely : Prop := fnBisectRow.holds Try.pinned (OpenSpec.ofChange fnBisectWrong)

/-- 'laws.FnWidthSum': WHATEVER THE INPUT: true; the input reads as it did. -/
def fnWidthSumSpec : ChangeSpec := { name := "fnWidthSum", fn := fun _ => fun
  | [d1, d2] => { results := [.lit (.bool true)], args := [d1, d2] }
  | _ => none }
def fnWidthSumRow : OpenClaim := { program := "ythkblefeifdhaaa", sum := "4c4948fcdf98cd2eed58669b45e18ecf7905cfec76854ffabd3fadda00af59de", func := "given.example/pub-typebar/laws.FnWidthSum", spec := "fnWidthSum", apart := false }
def FnWidthSumSaid : Prop := fnWidthSumRow.holds Try.pinned (OpenSpec.ofChange fnWidthSumSpec)

/-- ITS FALSE NEIGHBOUR: 'it returns false'. Refute it at one input. -/
def fnWidthSumWrong : ChangeSpec := { name := "fnWidthSum", fn := fun _ => fun
  | [d1, d2] => { results := [.lit (.bool false)], args := [d1, d2] }
  | _ => none }
def FnWidthSumWrongFalsely : Prop := fnWidthSumRow.holds Try.pinned (OpenSpec.ofChange fnWidthSumWrong)

/-- 'laws.FnMessages': WHATEVER THE INPUT: true; the input reads as it did. -/
def fnMessagesSpec : ChangeSpec := { name := "fnMessages", fn := fun _ => fun
  | [d1, d2] => { results := [.lit (.bool true)], args := [d1, d2] }
  | _ => none }
def fnMessagesRow : OpenClaim := { program := "ythkblefeifdhaaa", sum := "4c4948fcdf98cd2eed58669b45e18ecf7905cfec76854ffabd3fadda00af59de", func := "given.example/pub-typebar/laws.FnMessages", spec := "fnMessages", unfollowed := true, recurses := true, apart := false }
def FnMessagesSaid : Prop := fnMessagesRow.holds Try.pinned (OpenSpec.ofChange fnMessagesSpec)

/-- ITS FALSE NEIGHBOUR: 'it returns false'. Refute it at one input. -/
def fnMessagesWrong : ChangeSpec := { name := "fnMessages", fn := fun _ => fun
  | [d1, d2] => { results := [.lit (.bool false)], args := [d1, d2] }
  | _ => none }
def FnMessagesWrongFalsely : Prop := fnMessagesRow.holds Try.pinned (OpenSpec.ofChange fnMessagesWrong)

/-- 'laws.FnPosition': WHATEVER THE INPUT: true; the input reads as it did. -/
def fnPositionSpec : ChangeSpec := { name := "fnPosition", fn := fun _ => fun
  | [d1, d2] => { results := [.lit (.bool true)], args := [d1, d2] }
  | _ => none }
def fnPositionRow : OpenClaim := { program := "ythkblefeifdhaaa", sum := "4c4948fcdf98cd2eed58669b45e18ecf7905cfec76854ffabd3fadda00af59de", func := "given.example/pub-typebar/laws.FnPosition", spec := "fnPosition", unfollowed := true, recurses := true, apart := false }
def FnPositionSaid : Prop := fnPositionRow.holds Try.pinned (OpenSpec.ofChange fnPositionSpec)

/-- ITS FALSE NEIGHBOUR: 'it returns false'. Refute it at one input. -/
def fnPositionWrong : ChangeSpec := { name := "fnPosition", fn := fun _ => fun
  | [d1, d2] => { results := [.lit (.bool false)], args := [d1, d2] }
  | _ => none }
def FnPositionWrongFalsely : Prop := fnPositionRow.holds Try.pinned (OpenSpec.ofChange fnPositionWrong)

/-- 'laws.FnEscapeOf': WHATEVER THE INPUT: true; the input reads as it did. -/
def fnEscapeOfSpec : ChangeSpec := { name := "fnEscapeOf", fn := fun _ => fun
  | [d1, d2] => { results := [.lit (.bool true)], args := [d1, d2] }
  | _ => none }
def fnEscapeOfRow : OpenClaim := { program := "ythkblefeifdhaaa", sum := "4c4948fcdf98cd2eed58669b45e18ecf7905cfec76854ffabd3fadda00af59de", func := "given.example/pub-typebar/laws.FnEscapeOf", spec := "fnEscapeOf", apart := false }
def FnEscapeOfSaid : Prop := fnEscapeOfRow.holds Try.pinned (OpenSpec.ofChange fnEscapeOfSpec)

/-- ITS FALSE NEIGHBOUR: 'it returns false'. Refute it at one input. -/
def fnEscapeOfWrong : ChangeSpec := { name := "fnEscapeOf", fn := fun _ => fun
  | [d1, d2] => { results := [.lit (.bool false)], args := [d1, d2] }
  | _ => none }
def FnEscapeOfWrongFalsely : Prop := fnEscapeOfRow.holds Try.pinned (OpenSpec.ofChange fnEscapeOfWrong)

/-- 'laws.FnIndexBoth': WHATEVER THE INPUT: true; the input reads as it did. -/
def fnIndexBothSpec : ChangeSpec := { name := "fnIndexBoth", fn := fun _ => fun
  | [d1, d2] => { results := [.lit (.bool true)], args := [d1, d2] }
  | _ => none }
def fnIndexBothRow : OpenClaim := { program := "ythkblefeifdhaaa", sum := "4c4948fcdf98cd2eed58669b45e18ecf7905cfec76854ffabd3fadda00af59de", func := "given.example/pub-typebar/laws.FnIndexBoth", spec := "fnIndexBoth", apart := false }
def FnIndexBothSaid : Prop := fnIndexBothRow.holds Try.pinned (OpenSpec.ofChange fnIndexBothSpec)

/-- ITS FALSE NEIGHBOUR: 'it returns false'. Refute it at one input. -/
def fnIndexBothWrong : ChangeSpec := { name := "fnIndexBoth", fn := fun _ => fun
  | [d1, d2] => { results := [.lit (.bool false)], args := [d1, d2] }
  | _ => none }
def FnIndexBothWrongFalsely : Prop := fnIndexBothRow.holds Try.pinned (OpenSpec.ofChange fnIndexBothWrong)

/-- 'laws.FnShown': WHATEVER THE INPUT: true; the input reads as it did. -/
def fnShownSpec : ChangeSpec := { name := "fnShown", fn := fun _ => fun
  | [d1, d2, d3] => { results := [.lit (.bool true)], args := [d1, d2, d3] }
  | _ => none }
def fnShownRow : OpenClaim := { program := "ythkblefeifdhaaa", sum := "4c4948fcdf98cd2eed58669b45e18ecf7905cfec76854ffabd3fadda00af59de", func := "given.example/pub-typebar/laws.FnShown", spec := "fnShown", unfollowed := true, recurses := true, apart := false }
def FnShownSaid : Prop := fnShownRow.holds Try.pinned (OpenSpec.ofChange fnShownSpec)

/-- ITS FALSE NEIGHBOUR: 'it returns false'. Refute it at one input. -/
def fnShownWrong : ChangeSpec := { name := "fnShown", fn := fun _ => fun
  | [d1, d2, d3] => { results := [.lit (.bool false)], args := [d1, d2, d3] }
  | _ => none }
def FnShownWrongFalsely : Prop := fnShownRow.holds Try.pinned (OpenSpec.ofChange fnShownWrong)

/-- 'laws.FnWordPlaces': WHATEVER THE INPUT: true; the input reads as it did. -/
def fnWordPlacesSpec : ChangeSpec := { name := "fnWordPlaces", fn := fun _ => fun
  | [d] => { results := [.lit (.bool true)], args := [d] }
  | _ => none }
def fnWordPlacesRow : OpenClaim := { program := "ythkblefeifdhaaa", sum := "4c4948fcdf98cd2eed58669b45e18ecf7905cfec76854ffabd3fadda00af59de", func := "given.example/pub-typebar/laws.FnWordPlaces", spec := "fnWordPlaces", inPlace := ["internal/bytealg.IndexByteString"], apart := false }
def FnWordPlacesSaid : Prop := fnWordPlacesRow.holds Try.pinned (OpenSpec.ofChange fnWordPlacesSpec)

/-- ITS FALSE NEIGHBOUR: 'it returns false'. Refute it at one input. -/
def fnWordPlacesWrong : ChangeSpec := { name := "fnWordPlaces", fn := fun _ => fun
  | [d] => { results := [.lit (.bool false)], args := [d] }
  | _ => none }
def FnWordPlacesWrongFalsely : Prop := fnWordPlacesRow.holds Try.pinned (OpenSpec.ofChange fnWordPlacesWrong)

/-- 'laws.FnSelectedPick': WHATEVER THE INPUT: true; the input reads as it did. -/
def fnSelectedPickSpec : ChangeSpec := { name := "fnSelectedPick", fn := fun _ => fun
  | [d1, d2, d3] => { results := [.lit (.bool true)], args := [d1, d2, d3] }
  | _ => none }
def fnSelectedPickRow : OpenClaim := { program := "ythkblefeifdhaaa", sum := "4c4948fcdf98cd2eed58669b45e18ecf7905cfec76854ffabd3fadda00af59de", func := "given.example/pub-typebar/laws.FnSelectedPick", spec := "fnSelectedPick", unfollowed := true, recurses := true, apart := false }
def FnSelectedPickSaid : Prop := fnSelectedPickRow.holds Try.pinned (OpenSpec.ofChange fnSelectedPickSpec)

/-- ITS FALSE NEIGHBOUR: 'it returns false'. Refute it at one input. -/
def fnSelectedPickWrong : ChangeSpec := { name := "fnSelectedPick", fn := fun _ => fun
  | [d1, d2, d3] => { results := [.lit (.bool false)], args := [d1, d2, d3] }
  | _ => none }
def FnSelectedPickWrongFalsely : Prop := fnSelectedPickRow.holds Try.pinned (OpenSpec.ofChange fnSelectedPickWrong)

/- THE SECOND FORM. 'bulk': how many values and letters a reading holds, each counted each time it is reached (what is shared counts as often as it is met; a slice's spare places count too). A statement '..UptoSaid' is the law's where the arguments, and the package variables that the reading takes, are together of bulk at most 1048576: NARROWER than '..Said'. Prove '..Said' where nothing that the law and all that it calls make is longer than what came in: it says more and counts as full. Else prove '..UptoSaid'. A law counts once. -/
mutual
def uptoBulk {H : Type} : DataW H → Nat
  | .lit (.string bytes) => bytes.length + 1
  | .lit _ => 1
  | .nil => 1
  | .ptr d => uptoBulk d + 1
  | .slice elems spare => uptoBulkAll elems + uptoBulkAll spare + 1
  | .agg parts => uptoBulkAll parts + 1
  | .iface _ d => uptoBulk d + 1
  | .map entries => uptoBulkEntries entries + 1
  | .held _ => 1
def uptoBulkAll {H : Type} : List (DataW H) → Nat
  | [] => 0
  | d :: r => uptoBulk d + uptoBulkAll r
def uptoBulkEntries {H : Type} : List (Lit × DataW H) → Nat
  | [] => 0
  | x :: r => uptoBulkEntry x + uptoBulkEntries r
def uptoBulkEntry {H : Type} : Lit × DataW H → Nat
  | (.string bytes, d) => bytes.length + uptoBulk d + 1
  | (_, d) => uptoBulk d + 1
 end
def uptoSmall : (H : Type) → List (DataW H) → Bool := fun _ ds => decide (uptoBulkAll ds ≤ 1048576)
def OpenSpec.upto (s : _root_.Go.ChangeSpec) : _root_.Go.OpenSpec := { _root_.Go.OpenSpec.ofChange s with cond := some uptoSmall }

/-- 'laws.FnPrintable', WHERE WHAT IT READS IS OF BULK AT MOST 1048576: true; the input reads as it did. -/
def fnPrintableUptoRow : OpenClaim := { program := "ythkblefeifdhaaa", sum := "4c4948fcdf98cd2eed58669b45e18ecf7905cfec76854ffabd3fadda00af59de", func := "given.example/pub-typebar/laws.FnPrintable", spec := "fnPrintable", apart := false, narrowed := true }
def FnPrintableUptoSaid : Prop := fnPrintableUptoRow.holds Try.pinned (OpenSpec.upto fnPrintableSpec)

/-- 'laws.FnBisect', WHERE WHAT IT READS IS OF BULK AT MOST 1048576: true; the input reads as it did. -/
def fnBisectUptoRow : OpenClaim := { program := "ythkblefeifdhaaa", sum := "4c4948fcdf98cd2eed58669b45e18ecf7905cfec76854ffabd3fadda00af59de", func := "given.example/pub-typebar/laws.FnBisect", spec := "fnBisect", unfollowed := true, recurses := true, apart := false, narrowed := true }
def FnBisectUptoSaid : Prop := fnBisectUptoRow.holds Try.pinned (OpenSpec.upto fnBisectSpec)

/-- 'laws.FnWidthSum', WHERE WHAT IT READS IS OF BULK AT MOST 1048576: true; the input reads as it did. -/
def fnWidthSumUptoRow : OpenClaim := { program := "ythkblefeifdhaaa", sum := "4c4948fcdf98cd2eed58669b45e18ecf7905cfec76854ffabd3fadda00af59de", func := "given.example/pub-typebar/laws.FnWidthSum", spec := "fnWidthSum", apart := false, narrowed := true }
def FnWidthSumUptoSaid : Prop := fnWidthSumUptoRow.holds Try.pinned (OpenSpec.upto fnWidthSumSpec)

/-- 'laws.FnMessages', WHERE WHAT IT READS IS OF BULK AT MOST 1048576: true; the input reads as it did. -/
def fnMessagesUptoRow : OpenClaim := { program := "ythkblefeifdhaaa", sum := "4c4948fcdf98cd2eed58669b45e18ecf7905cfec76854ffabd3fadda00af59de", func := "given.example/pub-typebar/laws.FnMessages", spec := "fnMessages", unfollowed := true, recurses := true, apart := false, narrowed := true }
def FnMessagesUptoSaid : Prop := fnMessagesUptoRow.holds Try.pinned (OpenSpec.upto fnMessagesSpec)

/-- 'laws.FnPosition', WHERE WHAT IT READS IS OF BULK AT MOST 1048576: true; the input reads as it did. -/
def fnPositionUptoRow : OpenClaim := { program := "ythkblefeifdhaaa", sum := "4c4948fcdf98cd2eed58669b45e18ecf7905cfec76854ffabd3fadda00af59de", func := "given.example/pub-typebar/laws.FnPosition", spec := "fnPosition", unfollowed := true, recurses := true, apart := false, narrowed := true }
def FnPositionUptoSaid : Prop := fnPositionUptoRow.holds Try.pinned (OpenSpec.upto fnPositionSpec)

/-- 'laws.FnEscapeOf', WHERE WHAT IT READS IS OF BULK AT MOST 1048576: true; the input reads as it did. -/
def fnEscapeOfUptoRow : OpenClaim := { program := "ythkblefeifdhaaa", sum := "4c4948fcdf98cd2eed58669b45e18ecf7905cfec76854ffabd3fadda00af59de", func := "given.example/pub-typebar/laws.FnEscapeOf", spec := "fnEscapeOf", apart := false, narrowed := true }
def FnEscapeOfUptoSaid : Prop := fnEscapeOfUptoRow.holds Try.pinned (OpenSpec.upto fnEscapeOfSpec)

/-- 'laws.FnIndexBoth', WHERE WHAT IT READS IS OF BULK AT MOST 1048576: true; the input reads as it did. -/
def fnIndexBothUptoRow : OpenClaim := { program := "ythkblefeifdhaaa", sum := "4c4948fcdf98cd2eed58669b45e18ecf7905cfec76854ffabd3fadda00af59de", func := "given.example/pub-typebar/laws.FnIndexBoth", spec := "fnIndexBoth", apart := false, narrowed := true }
def FnIndexBothUptoSaid : Prop := fnIndexBothUptoRow.holds Try.pinned (OpenSpec.upto fnIndexBothSpec)

/-- 'laws.FnShown', WHERE WHAT IT READS IS OF BULK AT MOST 1048576: true; the input reads as it did. -/
def fnShownUptoRow : OpenClaim := { program := "ythkblefeifdhaaa", sum := "4c4948fcdf98cd2eed58669b45e18ecf7905cfec76854ffabd3fadda00af59de", func := "given.example/pub-typebar/laws.FnShown", spec := "fnShown", unfollowed := true, recurses := true, apart := false, narrowed := true }
def FnShownUptoSaid : Prop := fnShownUptoRow.holds Try.pinned (OpenSpec.upto fnShownSpec)

/-- 'laws.FnWordPlaces', WHERE WHAT IT READS IS OF BULK AT MOST 1048576: true; the input reads as it did. -/
def fnWordPlacesUptoRow : OpenClaim := { program := "ythkblefeifdhaaa", sum := "4c4948fcdf98cd2eed58669b45e18ecf7905cfec76854ffabd3fadda00af59de", func := "given.example/pub-typebar/laws.FnWordPlaces", spec := "fnWordPlaces", inPlace := ["internal/bytealg.IndexByteString"], apart := false, narrowed := true }
def FnWordPlacesUptoSaid : Prop := fnWordPlacesUptoRow.holds Try.pinned (OpenSpec.upto fnWordPlacesSpec)

/-- 'laws.FnSelectedPick', WHERE WHAT IT READS IS OF BULK AT MOST 1048576: true; the input reads as it did. -/
def fnSelectedPickUptoRow : OpenClaim := { program := "ythkblefeifdhaaa", sum := "4c4948fcdf98cd2eed58669b45e18ecf7905cfec76854ffabd3fadda00af59de", func := "given.example/pub-typebar/laws.FnSelectedPick", spec := "fnSelectedPick", unfollowed := true, recurses := true, apart := false, narrowed := true }
def FnSelectedPickUptoSaid : Prop := fnSelectedPickUptoRow.holds Try.pinned (OpenSpec.upto fnSelectedPickSpec)

end Rows
end Go.Proofs.Ythkblefeifdhaaa
