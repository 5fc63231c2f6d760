/-
  No cell of these rows narrows 'for every input' (looked for: loops, veiled, ifaces, maps, wideKeys, modest, calm, conditions, laid).
  DERIVED. THE GIVEN ROWS OF THIS SEAT. 10 by the template 'for every input the law returns true; each argument reads behind the call as it read before'; 0 by the template 'total and deterministic' (their statements: YtpkhmjfbldoegaaTotals.lean).
  GIVEN WITH THE SEED: the statements are not yours to turn. If you find one false, say at which input.
  Laid BY PROGRAM, IN A SANDBOX (cutbox-rows.mjs): the forced cells as the released guide's own fill.sh prints them over the translation 418867f2af557ad2… (all of the seat's roots in one cut). By AI agents, Wed Nov 11 2026. No macro, syntax, notation, axiom, sorry.
-/
import Derived.Test.YtpkhmjfbldoegaaChecked
import GoSem.Claim
import GoSem.ClaimJoined
import GoSem.ClaimMapViews
import Derived.JoinedTies
import Derived.KernelRfl
namespace Go.Proofs.Ytpkhmjfbldoegaa
/- THE CELL 'sum', in the pinned program and in every row, IS THE sha256 OF THE DUMP (.gsa) THAT YtpkhmjfbldoegaaProg.lean LOADS. Nothing in Lean hashes anything: it is a label: what it is worth is what the hold of that sum in a sandbox is worth. -/
noncomputable def Try.pinned : Pinned := { name := "ytpkhmjfbldoegaa", sum := "418867f2af557ad29def91ccce86c6266f855c46c3ae3aa905e16ebb880942d1", checked := Try.checked }
namespace Rows
def none {H : Type} : Left H := { results := [], args := [] }

/-- 'laws.FnExactSign': WHATEVER THE INPUT: true; the input reads as it did. -/
def fnExactSignSpec : ChangeSpec := { name := "fnExactSign", fn := fun _ => fun
  | [d1, d2] => { results := [.lit (.bool true)], args := [d1, d2] }
  | _ => none }
def fnExactSignRow : OpenClaim := { program := "ytpkhmjfbldoegaa", sum := "418867f2af557ad29def91ccce86c6266f855c46c3ae3aa905e16ebb880942d1", func := "loop.example/pub-complexquotients/laws.FnExactSign", spec := "fnExactSign", inPlace := ["math.Float64frombits", "math.Float64bits"], apart := false }
def FnExactSignSaid : Prop := fnExactSignRow.holds Try.pinned (OpenSpec.ofChange fnExactSignSpec)

/-- ITS FALSE NEIGHBOUR: 'it returns false'. Refute it at one input. -/
def fnExactSignWrong : ChangeSpec := { name := "fnExactSign", fn := fun _ => fun
  | [d1, d2] => { results := [.lit (.bool false)], args := [d1, d2] }
  | _ => none }
def FnExactSignWrongFalsely : Prop := fnExactSignRow.holds Try.pinned (OpenSpec.ofChange fnExactSignWrong)

/-- 'laws.FnExactKinds': WHATEVER THE INPUT: true; the input reads as it did. -/
def fnExactKindsSpec : ChangeSpec := { name := "fnExactKinds", fn := fun _ => fun
  | [d] => { results := [.lit (.bool true)], args := [d] }
  | _ => none }
def fnExactKindsRow : OpenClaim := { program := "ytpkhmjfbldoegaa", sum := "418867f2af557ad29def91ccce86c6266f855c46c3ae3aa905e16ebb880942d1", func := "loop.example/pub-complexquotients/laws.FnExactKinds", spec := "fnExactKinds", inPlace := ["math.Float64frombits"], apart := false }
def FnExactKindsSaid : Prop := fnExactKindsRow.holds Try.pinned (OpenSpec.ofChange fnExactKindsSpec)

/-- ITS FALSE NEIGHBOUR: 'it returns false'. Refute it at one input. -/
def fnExactKindsWrong : ChangeSpec := { name := "fnExactKinds", fn := fun _ => fun
  | [d] => { results := [.lit (.bool false)], args := [d] }
  | _ => none }
def FnExactKindsWrongFalsely : Prop := fnExactKindsRow.holds Try.pinned (OpenSpec.ofChange fnExactKindsWrong)

/-- 'laws.FnExactModf': WHATEVER THE INPUT: true; the input reads as it did. -/
def fnExactModfSpec : ChangeSpec := { name := "fnExactModf", fn := fun _ => fun
  | [d] => { results := [.lit (.bool true)], args := [d] }
  | _ => none }
def fnExactModfRow : OpenClaim := { program := "ytpkhmjfbldoegaa", sum := "418867f2af557ad29def91ccce86c6266f855c46c3ae3aa905e16ebb880942d1", func := "loop.example/pub-complexquotients/laws.FnExactModf", spec := "fnExactModf", inPlace := ["math.Float64frombits", "math.Float64bits"], recurses := true, apart := false }
def FnExactModfSaid : Prop := fnExactModfRow.holds Try.pinned (OpenSpec.ofChange fnExactModfSpec)

/-- ITS FALSE NEIGHBOUR: 'it returns false'. Refute it at one input. -/
def fnExactModfWrong : ChangeSpec := { name := "fnExactModf", fn := fun _ => fun
  | [d] => { results := [.lit (.bool false)], args := [d] }
  | _ => none }
def FnExactModfWrongFalsely : Prop := fnExactModfRow.holds Try.pinned (OpenSpec.ofChange fnExactModfWrong)

/-- 'laws.FnExactInfOne': WHATEVER THE INPUT: true; the input reads as it did. -/
def fnExactInfOneSpec : ChangeSpec := { name := "fnExactInfOne", fn := fun _ => fun
  | [d] => { results := [.lit (.bool true)], args := [d] }
  | _ => none }
def fnExactInfOneRow : OpenClaim := { program := "ytpkhmjfbldoegaa", sum := "418867f2af557ad29def91ccce86c6266f855c46c3ae3aa905e16ebb880942d1", func := "loop.example/pub-complexquotients/laws.FnExactInfOne", spec := "fnExactInfOne", inPlace := ["math.Float64bits", "math.Float64frombits"], apart := false }
def FnExactInfOneSaid : Prop := fnExactInfOneRow.holds Try.pinned (OpenSpec.ofChange fnExactInfOneSpec)

/-- ITS FALSE NEIGHBOUR: 'it returns false'. Refute it at one input. -/
def fnExactInfOneWrong : ChangeSpec := { name := "fnExactInfOne", fn := fun _ => fun
  | [d] => { results := [.lit (.bool false)], args := [d] }
  | _ => none }
def FnExactInfOneWrongFalsely : Prop := fnExactInfOneRow.holds Try.pinned (OpenSpec.ofChange fnExactInfOneWrong)

/-- 'laws.FnExactFloor': WHATEVER THE INPUT: true; the input reads as it did. -/
def fnExactFloorSpec : ChangeSpec := { name := "fnExactFloor", fn := fun _ => fun
  | [d] => { results := [.lit (.bool true)], args := [d] }
  | _ => none }
def fnExactFloorRow : OpenClaim := { program := "ytpkhmjfbldoegaa", sum := "418867f2af557ad29def91ccce86c6266f855c46c3ae3aa905e16ebb880942d1", func := "loop.example/pub-complexquotients/laws.FnExactFloor", spec := "fnExactFloor", inPlace := ["math.Float64frombits", "math.Float64bits"], recurses := true, apart := false }
def FnExactFloorSaid : Prop := fnExactFloorRow.holds Try.pinned (OpenSpec.ofChange fnExactFloorSpec)

/-- ITS FALSE NEIGHBOUR: 'it returns false'. Refute it at one input. -/
def fnExactFloorWrong : ChangeSpec := { name := "fnExactFloor", fn := fun _ => fun
  | [d] => { results := [.lit (.bool false)], args := [d] }
  | _ => none }
def FnExactFloorWrongFalsely : Prop := fnExactFloorRow.holds Try.pinned (OpenSpec.ofChange fnExactFloorWrong)

/-- 'laws.FnExactCeil': WHATEVER THE INPUT: true; the input reads as it did. -/
def fnExactCeilSpec : ChangeSpec := { name := "fnExactCeil", fn := fun _ => fun
  | [d] => { results := [.lit (.bool true)], args := [d] }
  | _ => none }
def fnExactCeilRow : OpenClaim := { program := "ytpkhmjfbldoegaa", sum := "418867f2af557ad29def91ccce86c6266f855c46c3ae3aa905e16ebb880942d1", func := "loop.example/pub-complexquotients/laws.FnExactCeil", spec := "fnExactCeil", inPlace := ["math.Float64frombits", "math.Float64bits"], recurses := true, apart := false }
def FnExactCeilSaid : Prop := fnExactCeilRow.holds Try.pinned (OpenSpec.ofChange fnExactCeilSpec)

/-- ITS FALSE NEIGHBOUR: 'it returns false'. Refute it at one input. -/
def fnExactCeilWrong : ChangeSpec := { name := "fnExactCeil", fn := fun _ => fun
  | [d] => { results := [.lit (.bool false)], args := [d] }
  | _ => none }
def FnExactCeilWrongFalsely : Prop := fnExactCeilRow.holds Try.pinned (OpenSpec.ofChange fnExactCeilWrong)

/-- 'laws.FnFloorCeil': WHATEVER THE INPUT: true; the input reads as it did. -/
def fnFloorCeilSpec : ChangeSpec := { name := "fnFloorCeil", fn := fun _ => fun
  | [d] => { results := [.lit (.bool true)], args := [d] }
  | _ => none }
def fnFloorCeilRow : OpenClaim := { program := "ytpkhmjfbldoegaa", sum := "418867f2af557ad29def91ccce86c6266f855c46c3ae3aa905e16ebb880942d1", func := "loop.example/pub-complexquotients/laws.FnFloorCeil", spec := "fnFloorCeil", inPlace := ["math.Float64frombits", "math.Float64bits"], recurses := true, apart := false }
def FnFloorCeilSaid : Prop := fnFloorCeilRow.holds Try.pinned (OpenSpec.ofChange fnFloorCeilSpec)

/-- ITS FALSE NEIGHBOUR: 'it returns false'. Refute it at one input. -/
def fnFloorCeilWrong : ChangeSpec := { name := "fnFloorCeil", fn := fun _ => fun
  | [d] => { results := [.lit (.bool false)], args := [d] }
  | _ => none }
def FnFloorCeilWrongFalsely : Prop := fnFloorCeilRow.holds Try.pinned (OpenSpec.ofChange fnFloorCeilWrong)

/-- 'laws.FnFloorMonotone': WHATEVER THE INPUT: true; the input reads as it did. -/
def fnFloorMonotoneSpec : ChangeSpec := { name := "fnFloorMonotone", fn := fun _ => fun
  | [d1, d2] => { results := [.lit (.bool true)], args := [d1, d2] }
  | _ => none }
def fnFloorMonotoneRow : OpenClaim := { program := "ytpkhmjfbldoegaa", sum := "418867f2af557ad29def91ccce86c6266f855c46c3ae3aa905e16ebb880942d1", func := "loop.example/pub-complexquotients/laws.FnFloorMonotone", spec := "fnFloorMonotone", inPlace := ["math.Float64frombits", "math.Float64bits"], recurses := true, apart := false }
def FnFloorMonotoneSaid : Prop := fnFloorMonotoneRow.holds Try.pinned (OpenSpec.ofChange fnFloorMonotoneSpec)

/-- ITS FALSE NEIGHBOUR: 'it returns false'. Refute it at one input. -/
def fnFloorMonotoneWrong : ChangeSpec := { name := "fnFloorMonotone", fn := fun _ => fun
  | [d1, d2] => { results := [.lit (.bool false)], args := [d1, d2] }
  | _ => none }
def FnFloorMonotoneWrongFalsely : Prop := fnFloorMonotoneRow.holds Try.pinned (OpenSpec.ofChange fnFloorMonotoneWrong)

/-- 'laws.FnFloorBounds': WHATEVER THE INPUT: true; the input reads as it did. -/
def fnFloorBoundsSpec : ChangeSpec := { name := "fnFloorBounds", fn := fun _ => fun
  | [d] => { results := [.lit (.bool true)], args := [d] }
  | _ => none }
def fnFloorBoundsRow : OpenClaim := { program := "ytpkhmjfbldoegaa", sum := "418867f2af557ad29def91ccce86c6266f855c46c3ae3aa905e16ebb880942d1", func := "loop.example/pub-complexquotients/laws.FnFloorBounds", spec := "fnFloorBounds", inPlace := ["math.Float64frombits", "math.Float64bits"], recurses := true, apart := false }
def FnFloorBoundsSaid : Prop := fnFloorBoundsRow.holds Try.pinned (OpenSpec.ofChange fnFloorBoundsSpec)

/-- ITS FALSE NEIGHBOUR: 'it returns false'. Refute it at one input. -/
def fnFloorBoundsWrong : ChangeSpec := { name := "fnFloorBounds", fn := fun _ => fun
  | [d] => { results := [.lit (.bool false)], args := [d] }
  | _ => none }
def FnFloorBoundsWrongFalsely : Prop := fnFloorBoundsRow.holds Try.pinned (OpenSpec.ofChange fnFloorBoundsWrong)

/-- 'laws.FnModfSum': WHATEVER THE INPUT: true; the input reads as it did. -/
def fnModfSumSpec : ChangeSpec := { name := "fnModfSum", fn := fun _ => fun
  | [d] => { results := [.lit (.bool true)], args := [d] }
  | _ => none }
def fnModfSumRow : OpenClaim := { program := "ytpkhmjfbldoegaa", sum := "418867f2af557ad29def91ccce86c6266f855c46c3ae3aa905e16ebb880942d1", func := "loop.example/pub-complexquotients/laws.FnModfSum", spec := "fnModfSum", inPlace := ["math.Float64frombits", "math.Float64bits"], recurses := true, apart := false }
def FnModfSumSaid : Prop := fnModfSumRow.holds Try.pinned (OpenSpec.ofChange fnModfSumSpec)

/-- ITS FALSE NEIGHBOUR: 'it returns false'. Refute it at one input. -/
def fnModfSumWrong : ChangeSpec := { name := "fnModfSum", fn := fun _ => fun
  | [d] => { results := [.lit (.bool false)], args := [d] }
  | _ => none }
def FnModfSumWrongFalsely : Prop := fnModfSumRow.holds Try.pinned (OpenSpec.ofChange fnModfSumWrong)

/- THE SECOND FORM. 'bulk': how many values and letters a reading holds, each counted each time it is reached (what is shared counts as often as it is met; a slice's spare places count too). A statement '..UptoSaid' is the law's where the arguments, and the package variables that the reading takes, are together of bulk at most 1048576: NARROWER than '..Said'. Prove '..Said' where nothing that the law and all that it calls make is longer than what came in: it says more and counts as full. Else prove '..UptoSaid'. A law counts once. -/
mutual
def uptoBulk {H : Type} : DataW H → Nat
  | .lit (.string bytes) => bytes.length + 1
  | .lit _ => 1
  | .nil => 1
  | .ptr d => uptoBulk d + 1
  | .slice elems spare => uptoBulkAll elems + uptoBulkAll spare + 1
  | .agg parts => uptoBulkAll parts + 1
  | .iface _ d => uptoBulk d + 1
  | .map entries => uptoBulkEntries entries + 1
  | .held _ => 1
def uptoBulkAll {H : Type} : List (DataW H) → Nat
  | [] => 0
  | d :: r => uptoBulk d + uptoBulkAll r
def uptoBulkEntries {H : Type} : List (Lit × DataW H) → Nat
  | [] => 0
  | x :: r => uptoBulkEntry x + uptoBulkEntries r
def uptoBulkEntry {H : Type} : Lit × DataW H → Nat
  | (.string bytes, d) => bytes.length + uptoBulk d + 1
  | (_, d) => uptoBulk d + 1
 end
def uptoSmall : (H : Type) → List (DataW H) → Bool := fun _ ds => decide (uptoBulkAll ds ≤ 1048576)
def OpenSpec.upto (s : _root_.Go.ChangeSpec) : _root_.Go.OpenSpec := { _root_.Go.OpenSpec.ofChange s with cond := some uptoSmall }

/-- 'laws.FnExactSign', WHERE WHAT IT READS IS OF BULK AT MOST 1048576: true; the input reads as it did. -/
def fnExactSignUptoRow : OpenClaim := { program := "ytpkhmjfbldoegaa", sum := "418867f2af557ad29def91ccce86c6266f855c46c3ae3aa905e16ebb880942d1", func := "loop.example/pub-complexquotients/laws.FnExactSign", spec := "fnExactSign", inPlace := ["math.Float64frombits", "math.Float64bits"], apart := false, narrowed := true }
def FnExactSignUptoSaid : Prop := fnExactSignUptoRow.holds Try.pinned (OpenSpec.upto fnExactSignSpec)

/-- 'laws.FnExactKinds', WHERE WHAT IT READS IS OF BULK AT MOST 1048576: true; the input reads as it did. -/
def fnExactKindsUptoRow : OpenClaim := { program := "ytpkhmjfbldoegaa", sum := "418867f2af557ad29def91ccce86c6266f855c46c3ae3aa905e16ebb880942d1", func := "loop.example/pub-complexquotients/laws.FnExactKinds", spec := "fnExactKinds", inPlace := ["math.Float64frombits"], apart := false, narrowed := true }
def FnExactKindsUptoSaid : Prop := fnExactKindsUptoRow.holds Try.pinned (OpenSpec.upto fnExactKindsSpec)

/-- 'laws.FnExactModf', WHERE WHAT IT READS IS OF BULK AT MOST 1048576: true; the input reads as it did. -/
def fnExactModfUptoRow : OpenClaim := { program := "ytpkhmjfbldoegaa", sum := "418867f2af557ad29def91ccce86c6266f855c46c3ae3aa905e16ebb880942d1", func := "loop.example/pub-complexquotients/laws.FnExactModf", spec := "fnExactModf", inPlace := ["math.Float64frombits", "math.Float64bits"], recurses := true, apart := false, narrowed := true }
def FnExactModfUptoSaid : Prop := fnExactModfUptoRow.holds Try.pinned (OpenSpec.upto fnExactModfSpec)

/-- 'laws.FnExactInfOne', WHERE WHAT IT READS IS OF BULK AT MOST 1048576: true; the input reads as it did. -/
def fnExactInfOneUptoRow : OpenClaim := { program := "ytpkhmjfbldoegaa", sum := "418867f2af557ad29def91ccce86c6266f855c46c3ae3aa905e16ebb880942d1", func := "loop.example/pub-complexquotients/laws.FnExactInfOne", spec := "fnExactInfOne", inPlace := ["math.Float64bits", "math.Float64frombits"], apart := false, narrowed := true }
def FnExactInfOneUptoSaid : Prop := fnExactInfOneUptoRow.holds Try.pinned (OpenSpec.upto fnExactInfOneSpec)

/-- 'laws.FnExactFloor', WHERE WHAT IT READS IS OF BULK AT MOST 1048576: true; the input reads as it did. -/
def fnExactFloorUptoRow : OpenClaim := { program := "ytpkhmjfbldoegaa", sum := "418867f2af557ad29def91ccce86c6266f855c46c3ae3aa905e16ebb880942d1", func := "loop.example/pub-complexquotients/laws.FnExactFloor", spec := "fnExactFloor", inPlace := ["math.Float64frombits", "math.Float64bits"], recurses := true, apart := false, narrowed := true }
def FnExactFloorUptoSaid : Prop := fnExactFloorUptoRow.holds Try.pinned (OpenSpec.upto fnExactFloorSpec)

/-- 'laws.FnExactCeil', WHERE WHAT IT READS IS OF BULK AT MOST 1048576: true; the input reads as it did. -/
def fnExactCeilUptoRow : OpenClaim := { program := "ytpkhmjfbldoegaa", sum := "418867f2af557ad29def91ccce86c6266f855c46c3ae3aa905e16ebb880942d1", func := "loop.example/pub-complexquotients/laws.FnExactCeil", spec := "fnExactCeil", inPlace := ["math.Float64frombits", "math.Float64bits"], recurses := true, apart := false, narrowed := true }
def FnExactCeilUptoSaid : Prop := fnExactCeilUptoRow.holds Try.pinned (OpenSpec.upto fnExactCeilSpec)

/-- 'laws.FnFloorCeil', WHERE WHAT IT READS IS OF BULK AT MOST 1048576: true; the input reads as it did. -/
def fnFloorCeilUptoRow : OpenClaim := { program := "ytpkhmjfbldoegaa", sum := "418867f2af557ad29def91ccce86c6266f855c46c3ae3aa905e16ebb880942d1", func := "loop.example/pub-complexquotients/laws.FnFloorCeil", spec := "fnFloorCeil", inPlace := ["math.Float64frombits", "math.Float64bits"], recurses := true, apart := false, narrowed := true }
def FnFloorCeilUptoSaid : Prop := fnFloorCeilUptoRow.holds Try.pinned (OpenSpec.upto fnFloorCeilSpec)

/-- 'laws.FnFloorMonotone', WHERE WHAT IT READS IS OF BULK AT MOST 1048576: true; the input reads as it did. -/
def fnFloorMonotoneUptoRow : OpenClaim := { program := "ytpkhmjfbldoegaa", sum := "418867f2af557ad29def91ccce86c6266f855c46c3ae3aa905e16ebb880942d1", func := "loop.example/pub-complexquotients/laws.FnFloorMonotone", spec := "fnFloorMonotone", inPlace := ["math.Float64frombits", "math.Float64bits"], recurses := true, apart := false, narrowed := true }
def FnFloorMonotoneUptoSaid : Prop := fnFloorMonotoneUptoRow.holds Try.pinned (OpenSpec.upto fnFloorMonotoneSpec)

/-- 'laws.FnFloorBounds', WHERE WHAT IT READS IS OF BULK AT MOST 1048576: true; the input reads as it did. -/
def fnFloorBoundsUptoRow : OpenClaim := { program := "ytpkhmjfbldoegaa", sum := "418867f2af557ad29def91ccce86c6266f855c46c3ae3aa905e16ebb880942d1", func := "loop.example/pub-complexquotients/laws.FnFloorBounds", spec := "fnFloorBounds", inPlace := ["math.Float64frombits", "math.Float64bits"], recurses := true, apart := false, narrowed := true }
def FnFloorBoundsUptoSaid : Prop := fnFloorBoundsUptoRow.holds Try.pinned (OpenSpec.upto fnFloorBoundsSpec)

/-- 'laws.FnModfSum', WHERE WHAT IT READS IS OF BULK AT MOST 1048576: true; the input reads as it did. -/
def fnModfSumUptoRow : OpenClaim := { program := "ytpkhmjfbldoegaa", sum := "418867f2af557ad29def91ccce86c6266f855c46c3ae3aa905e16ebb880942d1", func := "loop.example/pub-complexquotients/laws.FnModfSum", spec := "fnModfSum", inPlace := ["math.Float64frombits", "math.Float64bits"], recurses := true, apart := false, narrowed := true }
def FnModfSumUptoSaid : Prop := fnModfSumUptoRow.holds Try.pinned (OpenSpec.upto fnModfSumSpec)

end Rows
end Go.Proofs.Ytpkhmjfbldoegaa
