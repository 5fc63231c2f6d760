/-
  No cell of these rows narrows 'for every input' (looked for: loops, veiled, ifaces, maps, wideKeys, modest, calm, conditions, laid).
  DERIVED. THE GIVEN ROWS OF THIS SEAT. 8 by the template 'for every input the law returns true; each argument reads behind the call as it read before'; 0 by the template 'total and deterministic' (their statements: YthfhaflbjclmfaaTotals.lean).
  GIVEN WITH THE SEED: the statements are not yours to turn. If you find one false, say at which input.
  Laid BY PROGRAM, IN A SANDBOX (cutbox-rows.mjs): the forced cells as the released guide's own fill.sh prints them over the translation c81e38ebba041a2d… (all of the seat's roots in one cut). By AI agents, Wed Nov 11 2026. No macro, syntax, notation, axiom, sorry.
-/
import Derived.Test.YthfhaflbjclmfaaChecked
import GoSem.Claim
import GoSem.ClaimJoined
import GoSem.ClaimMapViews
import Derived.JoinedTies
import Derived.KernelRfl
namespace Go.Proofs.Ythfhaflbjclmfaa
/- THE CELL 'sum', in the pinned program and in every row, IS THE sha256 OF THE DUMP (.gsa) THAT YthfhaflbjclmfaaProg.lean LOADS. Nothing in Lean hashes anything: it is a label: what it is worth is what the hold of that sum in a sandbox is worth. -/
noncomputable def Try.pinned : Pinned := { name := "ythfhaflbjclmfaa", sum := "c81e38ebba041a2d3fd65d44835ce16e89c9a1ec6a133ca8fb9c899223503d9b", checked := Try.checked }
namespace Rows
def none {H : Type} : Left H := { results := [], args := [] }

/-- 'laws.FnDivGo': WHATEVER THE INPUT: true; the input reads as it did. -/
def fnDivGoSpec : ChangeSpec := { name := "fnDivGo", fn := fun _ => fun
  | [d1, d2, d3, d4] => { results := [.lit (.bool true)], args := [d1, d2, d3, d4] }
  | _ => none }
def fnDivGoRow : OpenClaim := { program := "ythfhaflbjclmfaa", sum := "c81e38ebba041a2d3fd65d44835ce16e89c9a1ec6a133ca8fb9c899223503d9b", func := "loop.example/pub-complexquotients/laws.FnDivGo", spec := "fnDivGo", inPlace := ["math.Float64frombits", "math.Float64bits"], apart := false }
def FnDivGoSaid : Prop := fnDivGoRow.holds Try.pinned (OpenSpec.ofChange fnDivGoSpec)

/-- ITS FALSE NEIGHBOUR: 'it returns false'. Refute it at one input. -/
def fnDivGoWrong : ChangeSpec := { name := "fnDivGo", fn := fun _ => fun
  | [d1, d2, d3, d4] => { results := [.lit (.bool false)], args := [d1, d2, d3, d4] }
  | _ => none }
def FnDivGoWrongFalsely : Prop := fnDivGoRow.holds Try.pinned (OpenSpec.ofChange fnDivGoWrong)

/-- 'laws.FnDivConjugate': WHATEVER THE INPUT: true; the input reads as it did. -/
def fnDivConjugateSpec : ChangeSpec := { name := "fnDivConjugate", fn := fun _ => fun
  | [d1, d2, d3, d4] => { results := [.lit (.bool true)], args := [d1, d2, d3, d4] }
  | _ => none }
def fnDivConjugateRow : OpenClaim := { program := "ythfhaflbjclmfaa", sum := "c81e38ebba041a2d3fd65d44835ce16e89c9a1ec6a133ca8fb9c899223503d9b", func := "loop.example/pub-complexquotients/laws.FnDivConjugate", spec := "fnDivConjugate", inPlace := ["math.Float64frombits", "math.Float64bits"], apart := false }
def FnDivConjugateSaid : Prop := fnDivConjugateRow.holds Try.pinned (OpenSpec.ofChange fnDivConjugateSpec)

/-- ITS FALSE NEIGHBOUR: 'it returns false'. Refute it at one input. -/
def fnDivConjugateWrong : ChangeSpec := { name := "fnDivConjugate", fn := fun _ => fun
  | [d1, d2, d3, d4] => { results := [.lit (.bool false)], args := [d1, d2, d3, d4] }
  | _ => none }
def FnDivConjugateWrongFalsely : Prop := fnDivConjugateRow.holds Try.pinned (OpenSpec.ofChange fnDivConjugateWrong)

/-- 'laws.FnDivImaginary': WHATEVER THE INPUT: true; the input reads as it did. -/
def fnDivImaginarySpec : ChangeSpec := { name := "fnDivImaginary", fn := fun _ => fun
  | [d1, d2, d3] => { results := [.lit (.bool true)], args := [d1, d2, d3] }
  | _ => none }
def fnDivImaginaryRow : OpenClaim := { program := "ythfhaflbjclmfaa", sum := "c81e38ebba041a2d3fd65d44835ce16e89c9a1ec6a133ca8fb9c899223503d9b", func := "loop.example/pub-complexquotients/laws.FnDivImaginary", spec := "fnDivImaginary", inPlace := ["math.Float64frombits", "math.Float64bits"], apart := false }
def FnDivImaginarySaid : Prop := fnDivImaginaryRow.holds Try.pinned (OpenSpec.ofChange fnDivImaginarySpec)

/-- ITS FALSE NEIGHBOUR: 'it returns false'. Refute it at one input. -/
def fnDivImaginaryWrong : ChangeSpec := { name := "fnDivImaginary", fn := fun _ => fun
  | [d1, d2, d3] => { results := [.lit (.bool false)], args := [d1, d2, d3] }
  | _ => none }
def FnDivImaginaryWrongFalsely : Prop := fnDivImaginaryRow.holds Try.pinned (OpenSpec.ofChange fnDivImaginaryWrong)

/-- 'laws.FnDivNegative': WHATEVER THE INPUT: true; the input reads as it did. -/
def fnDivNegativeSpec : ChangeSpec := { name := "fnDivNegative", fn := fun _ => fun
  | [d1, d2, d3, d4] => { results := [.lit (.bool true)], args := [d1, d2, d3, d4] }
  | _ => none }
def fnDivNegativeRow : OpenClaim := { program := "ythfhaflbjclmfaa", sum := "c81e38ebba041a2d3fd65d44835ce16e89c9a1ec6a133ca8fb9c899223503d9b", func := "loop.example/pub-complexquotients/laws.FnDivNegative", spec := "fnDivNegative", inPlace := ["math.Float64frombits", "math.Float64bits"], apart := false }
def FnDivNegativeSaid : Prop := fnDivNegativeRow.holds Try.pinned (OpenSpec.ofChange fnDivNegativeSpec)

/-- ITS FALSE NEIGHBOUR: 'it returns false'. Refute it at one input. -/
def fnDivNegativeWrong : ChangeSpec := { name := "fnDivNegative", fn := fun _ => fun
  | [d1, d2, d3, d4] => { results := [.lit (.bool false)], args := [d1, d2, d3, d4] }
  | _ => none }
def FnDivNegativeWrongFalsely : Prop := fnDivNegativeRow.holds Try.pinned (OpenSpec.ofChange fnDivNegativeWrong)

/-- 'laws.FnDivOne': WHATEVER THE INPUT: true; the input reads as it did. -/
def fnDivOneSpec : ChangeSpec := { name := "fnDivOne", fn := fun _ => fun
  | [d1, d2] => { results := [.lit (.bool true)], args := [d1, d2] }
  | _ => none }
def fnDivOneRow : OpenClaim := { program := "ythfhaflbjclmfaa", sum := "c81e38ebba041a2d3fd65d44835ce16e89c9a1ec6a133ca8fb9c899223503d9b", func := "loop.example/pub-complexquotients/laws.FnDivOne", spec := "fnDivOne", inPlace := ["math.Float64frombits", "math.Float64bits"], apart := false }
def FnDivOneSaid : Prop := fnDivOneRow.holds Try.pinned (OpenSpec.ofChange fnDivOneSpec)

/-- ITS FALSE NEIGHBOUR: 'it returns false'. Refute it at one input. -/
def fnDivOneWrong : ChangeSpec := { name := "fnDivOne", fn := fun _ => fun
  | [d1, d2] => { results := [.lit (.bool false)], args := [d1, d2] }
  | _ => none }
def FnDivOneWrongFalsely : Prop := fnDivOneRow.holds Try.pinned (OpenSpec.ofChange fnDivOneWrong)

/-- 'laws.FnDivReal': WHATEVER THE INPUT: true; the input reads as it did. -/
def fnDivRealSpec : ChangeSpec := { name := "fnDivReal", fn := fun _ => fun
  | [d1, d2, d3] => { results := [.lit (.bool true)], args := [d1, d2, d3] }
  | _ => none }
def fnDivRealRow : OpenClaim := { program := "ythfhaflbjclmfaa", sum := "c81e38ebba041a2d3fd65d44835ce16e89c9a1ec6a133ca8fb9c899223503d9b", func := "loop.example/pub-complexquotients/laws.FnDivReal", spec := "fnDivReal", inPlace := ["math.Float64frombits", "math.Float64bits"], apart := false }
def FnDivRealSaid : Prop := fnDivRealRow.holds Try.pinned (OpenSpec.ofChange fnDivRealSpec)

/-- ITS FALSE NEIGHBOUR: 'it returns false'. Refute it at one input. -/
def fnDivRealWrong : ChangeSpec := { name := "fnDivReal", fn := fun _ => fun
  | [d1, d2, d3] => { results := [.lit (.bool false)], args := [d1, d2, d3] }
  | _ => none }
def FnDivRealWrongFalsely : Prop := fnDivRealRow.holds Try.pinned (OpenSpec.ofChange fnDivRealWrong)

/-- 'laws.FnDivScale': WHATEVER THE INPUT: true; the input reads as it did. -/
def fnDivScaleSpec : ChangeSpec := { name := "fnDivScale", fn := fun _ => fun
  | [d1, d2, d3, d4, d5] => { results := [.lit (.bool true)], args := [d1, d2, d3, d4, d5] }
  | _ => none }
def fnDivScaleRow : OpenClaim := { program := "ythfhaflbjclmfaa", sum := "c81e38ebba041a2d3fd65d44835ce16e89c9a1ec6a133ca8fb9c899223503d9b", func := "loop.example/pub-complexquotients/laws.FnDivScale", spec := "fnDivScale", inPlace := ["math.Float64frombits", "math.Float64bits"], apart := false }
def FnDivScaleSaid : Prop := fnDivScaleRow.holds Try.pinned (OpenSpec.ofChange fnDivScaleSpec)

/-- ITS FALSE NEIGHBOUR: 'it returns false'. Refute it at one input. -/
def fnDivScaleWrong : ChangeSpec := { name := "fnDivScale", fn := fun _ => fun
  | [d1, d2, d3, d4, d5] => { results := [.lit (.bool false)], args := [d1, d2, d3, d4, d5] }
  | _ => none }
def FnDivScaleWrongFalsely : Prop := fnDivScaleRow.holds Try.pinned (OpenSpec.ofChange fnDivScaleWrong)

/-- 'laws.FnDivInfinite': WHATEVER THE INPUT: true; the input reads as it did. -/
def fnDivInfiniteSpec : ChangeSpec := { name := "fnDivInfinite", fn := fun _ => fun
  | [d1, d2, d3, d4] => { results := [.lit (.bool true)], args := [d1, d2, d3, d4] }
  | _ => none }
def fnDivInfiniteRow : OpenClaim := { program := "ythfhaflbjclmfaa", sum := "c81e38ebba041a2d3fd65d44835ce16e89c9a1ec6a133ca8fb9c899223503d9b", func := "loop.example/pub-complexquotients/laws.FnDivInfinite", spec := "fnDivInfinite", inPlace := ["math.Float64frombits", "math.Float64bits"], apart := false }
def FnDivInfiniteSaid : Prop := fnDivInfiniteRow.holds Try.pinned (OpenSpec.ofChange fnDivInfiniteSpec)

/-- ITS FALSE NEIGHBOUR: 'it returns false'. Refute it at one input. -/
def fnDivInfiniteWrong : ChangeSpec := { name := "fnDivInfinite", fn := fun _ => fun
  | [d1, d2, d3, d4] => { results := [.lit (.bool false)], args := [d1, d2, d3, d4] }
  | _ => none }
def FnDivInfiniteWrongFalsely : Prop := fnDivInfiniteRow.holds Try.pinned (OpenSpec.ofChange fnDivInfiniteWrong)

/- THE SECOND FORM. 'bulk': how many values and letters a reading holds, each counted each time it is reached (what is shared counts as often as it is met; a slice's spare places count too). A statement '..UptoSaid' is the law's where the arguments, and the package variables that the reading takes, are together of bulk at most 1048576: NARROWER than '..Said'. Prove '..Said' where nothing that the law and all that it calls make is longer than what came in: it says more and counts as full. Else prove '..UptoSaid'. A law counts once. -/
mutual
def uptoBulk {H : Type} : DataW H → Nat
  | .lit (.string bytes) => bytes.length + 1
  | .lit _ => 1
  | .nil => 1
  | .ptr d => uptoBulk d + 1
  | .slice elems spare => uptoBulkAll elems + uptoBulkAll spare + 1
  | .agg parts => uptoBulkAll parts + 1
  | .iface _ d => uptoBulk d + 1
  | .map entries => uptoBulkEntries entries + 1
  | .held _ => 1
def uptoBulkAll {H : Type} : List (DataW H) → Nat
  | [] => 0
  | d :: r => uptoBulk d + uptoBulkAll r
def uptoBulkEntries {H : Type} : List (Lit × DataW H) → Nat
  | [] => 0
  | x :: r => uptoBulkEntry x + uptoBulkEntries r
def uptoBulkEntry {H : Type} : Lit × DataW H → Nat
  | (.string bytes, d) => bytes.length + uptoBulk d + 1
  | (_, d) => uptoBulk d + 1
 end
def uptoSmall : (H : Type) → List (DataW H) → Bool := fun _ ds => decide (uptoBulkAll ds ≤ 1048576)
def OpenSpec.upto (s : _root_.Go.ChangeSpec) : _root_.Go.OpenSpec := { _root_.Go.OpenSpec.ofChange s with cond := some uptoSmall }

/-- 'laws.FnDivGo', WHERE WHAT IT READS IS OF BULK AT MOST 1048576: true; the input reads as it did. -/
def fnDivGoUptoRow : OpenClaim := { program := "ythfhaflbjclmfaa", sum := "c81e38ebba041a2d3fd65d44835ce16e89c9a1ec6a133ca8fb9c899223503d9b", func := "loop.example/pub-complexquotients/laws.FnDivGo", spec := "fnDivGo", inPlace := ["math.Float64frombits", "math.Float64bits"], apart := false, narrowed := true }
def FnDivGoUptoSaid : Prop := fnDivGoUptoRow.holds Try.pinned (OpenSpec.upto fnDivGoSpec)

/-- 'laws.FnDivConjugate', WHERE WHAT IT READS IS OF BULK AT MOST 1048576: true; the input reads as it did. -/
def fnDivConjugateUptoRow : OpenClaim := { program := "ythfhaflbjclmfaa", sum := "c81e38ebba041a2d3fd65d44835ce16e89c9a1ec6a133ca8fb9c899223503d9b", func := "loop.example/pub-complexquotients/laws.FnDivConjugate", spec := "fnDivConjugate", inPlace := ["math.Float64frombits", "math.Float64bits"], apart := false, narrowed := true }
def FnDivConjugateUptoSaid : Prop := fnDivConjugateUptoRow.holds Try.pinned (OpenSpec.upto fnDivConjugateSpec)

/-- 'laws.FnDivImaginary', WHERE WHAT IT READS IS OF BULK AT MOST 1048576: true; the input reads as it did. -/
def fnDivImaginaryUptoRow : OpenClaim := { program := "ythfhaflbjclmfaa", sum := "c81e38ebba041a2d3fd65d44835ce16e89c9a1ec6a133ca8fb9c899223503d9b", func := "loop.example/pub-complexquotients/laws.FnDivImaginary", spec := "fnDivImaginary", inPlace := ["math.Float64frombits", "math.Float64bits"], apart := false, narrowed := true }
def FnDivImaginaryUptoSaid : Prop := fnDivImaginaryUptoRow.holds Try.pinned (OpenSpec.upto fnDivImaginarySpec)

/-- 'laws.FnDivNegative', WHERE WHAT IT READS IS OF BULK AT MOST 1048576: true; the input reads as it did. -/
def fnDivNegativeUptoRow : OpenClaim := { program := "ythfhaflbjclmfaa", sum := "c81e38ebba041a2d3fd65d44835ce16e89c9a1ec6a133ca8fb9c899223503d9b", func := "loop.example/pub-complexquotients/laws.FnDivNegative", spec := "fnDivNegative", inPlace := ["math.Float64frombits", "math.Float64bits"], apart := false, narrowed := true }
def FnDivNegativeUptoSaid : Prop := fnDivNegativeUptoRow.holds Try.pinned (OpenSpec.upto fnDivNegativeSpec)

/-- 'laws.FnDivOne', WHERE WHAT IT READS IS OF BULK AT MOST 1048576: true; the input reads as it did. -/
def fnDivOneUptoRow : OpenClaim := { program := "ythfhaflbjclmfaa", sum := "c81e38ebba041a2d3fd65d44835ce16e89c9a1ec6a133ca8fb9c899223503d9b", func := "loop.example/pub-complexquotients/laws.FnDivOne", spec := "fnDivOne", inPlace := ["math.Float64frombits", "math.Float64bits"], apart := false, narrowed := true }
def FnDivOneUptoSaid : Prop := fnDivOneUptoRow.holds Try.pinned (OpenSpec.upto fnDivOneSpec)

/-- 'laws.FnDivReal', WHERE WHAT IT READS IS OF BULK AT MOST 1048576: true; the input reads as it did. -/
def fnDivRealUptoRow : OpenClaim := { program := "ythfhaflbjclmfaa", sum := "c81e38ebba041a2d3fd65d44835ce16e89c9a1ec6a133ca8fb9c899223503d9b", func := "loop.example/pub-complexquotients/laws.FnDivReal", spec := "fnDivReal", inPlace := ["math.Float64frombits", "math.Float64bits"], apart := false, narrowed := true }
def FnDivRealUptoSaid : Prop := fnDivRealUptoRow.holds Try.pinned (OpenSpec.upto fnDivRealSpec)

/-- 'laws.FnDivScale', WHERE WHAT IT READS IS OF BULK AT MOST 1048576: true; the input reads as it did. -/
def fnDivScaleUptoRow : OpenClaim := { program := "ythfhaflbjclmfaa", sum := "c81e38ebba041a2d3fd65d44835ce16e89c9a1ec6a133ca8fb9c899223503d9b", func := "loop.example/pub-complexquotients/laws.FnDivScale", spec := "fnDivScale", inPlace := ["math.Float64frombits", "math.Float64bits"], apart := false, narrowed := true }
def FnDivScaleUptoSaid : Prop := fnDivScaleUptoRow.holds Try.pinned (OpenSpec.upto fnDivScaleSpec)

/-- 'laws.FnDivInfinite', WHERE WHAT IT READS IS OF BULK AT MOST 1048576: true; the input reads as it did. -/
def fnDivInfiniteUptoRow : OpenClaim := { program := "ythfhaflbjclmfaa", sum := "c81e38ebba041a2d3fd65d44835ce16e89c9a1ec6a133ca8fb9c899223503d9b", func := "loop.example/pub-complexquotients/laws.FnDivInfinite", spec := "fnDivInfinite", inPlace := ["math.Float64frombits", "math.Float64bits"], apart := false, narrowed := true }
def FnDivInfiniteUptoSaid : Prop := fnDivInfiniteUptoRow.holds Try.pinned (OpenSpec.upto fnDivInfiniteSpec)

end Rows
end Go.Proofs.Ythfhaflbjclmfaa
