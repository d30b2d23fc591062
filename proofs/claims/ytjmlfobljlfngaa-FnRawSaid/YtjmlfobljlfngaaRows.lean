/-
  No cell of these rows narrows 'for every input' (looked for: loops, veiled, ifaces, maps, wideKeys, modest, calm, conditions, laid).
  DERIVED. THE GIVEN ROWS OF THIS SEAT. 12 by the template 'for every input the law returns true; each argument reads behind the call as it read before'; 0 by the template 'total and deterministic' (their statements: YtjmlfobljlfngaaTotals.lean).
  GIVEN WITH THE SEED: the statements are not yours to turn. If you find one false, say at which input.
  Laid BY PROGRAM, IN A SANDBOX (cutbox-rows.mjs): the forced cells as the released guide's own fill.sh prints them over the translation 4fd6f3969ec792fd… (all of the seat's roots in one cut). By AI agents, Wed Nov 11 2026. No macro, syntax, notation, axiom, sorry.
-/
import Derived.Test.YtjmlfobljlfngaaChecked
import GoSem.Claim
import GoSem.ClaimJoined
import GoSem.ClaimMapViews
import Derived.JoinedTies
import Derived.KernelRfl
namespace Go.Proofs.Ytjmlfobljlfngaa
/- THE CELL 'sum', in the pinned program and in every row, IS THE sha256 OF THE DUMP (.gsa) THAT YtjmlfobljlfngaaProg.lean LOADS. Nothing in Lean hashes anything: it is a label: what it is worth is what the hold of that sum in a sandbox is worth. -/
noncomputable def Try.pinned : Pinned := { name := "ytjmlfobljlfngaa", sum := "4fd6f3969ec792fdcfa6b729016f3c0739f30bf4a3cd1a9b967b234f7fc5e98d", checked := Try.checked }
namespace Rows
def none {H : Type} : Left H := { results := [], args := [] }

/-- 'laws.FnValue': WHATEVER THE INPUT: true; the input reads as it did. -/
def fnValueSpec : ChangeSpec := { name := "fnValue", fn := fun _ => fun
  | [d1, d2] => { results := [.lit (.bool true)], args := [d1, d2] }
  | _ => none }
def fnValueRow : OpenClaim := { program := "ytjmlfobljlfngaa", sum := "4fd6f3969ec792fdcfa6b729016f3c0739f30bf4a3cd1a9b967b234f7fc5e98d", func := "loop.example/pub-g03067/laws.FnValue", spec := "fnValue", apart := false }
def FnValueSaid : Prop := fnValueRow.holds Try.pinned (OpenSpec.ofChange fnValueSpec)

/-- ITS FALSE NEIGHBOUR: 'it returns false'. Refute it at one input. -/
def fnValueWrong : ChangeSpec := { name := "fnValue", fn := fun _ => fun
  | [d1, d2] => { results := [.lit (.bool false)], args := [d1, d2] }
  | _ => none }
def FnValueWrongFalsely : Prop := fnValueRow.holds Try.pinned (OpenSpec.ofChange fnValueWrong)

/-- 'laws.FnLimits': WHATEVER THE INPUT: true; the input reads as it did. -/
def fnLimitsSpec : ChangeSpec := { name := "fnLimits", fn := fun _ => fun
  | [d] => { results := [.lit (.bool true)], args := [d] }
  | _ => none }
def fnLimitsRow : OpenClaim := { program := "ytjmlfobljlfngaa", sum := "4fd6f3969ec792fdcfa6b729016f3c0739f30bf4a3cd1a9b967b234f7fc5e98d", func := "loop.example/pub-g03067/laws.FnLimits", spec := "fnLimits", apart := false }
def FnLimitsSaid : Prop := fnLimitsRow.holds Try.pinned (OpenSpec.ofChange fnLimitsSpec)

/-- ITS FALSE NEIGHBOUR: 'it returns false'. Refute it at one input. -/
def fnLimitsWrong : ChangeSpec := { name := "fnLimits", fn := fun _ => fun
  | [d] => { results := [.lit (.bool false)], args := [d] }
  | _ => none }
def FnLimitsWrongFalsely : Prop := fnLimitsRow.holds Try.pinned (OpenSpec.ofChange fnLimitsWrong)

/-- 'laws.FnValid': WHATEVER THE INPUT: true; the input reads as it did. -/
def fnValidSpec : ChangeSpec := { name := "fnValid", fn := fun _ => fun
  | [d] => { results := [.lit (.bool true)], args := [d] }
  | _ => none }
def fnValidRow : OpenClaim := { program := "ytjmlfobljlfngaa", sum := "4fd6f3969ec792fdcfa6b729016f3c0739f30bf4a3cd1a9b967b234f7fc5e98d", func := "loop.example/pub-g03067/laws.FnValid", spec := "fnValid", apart := false }
def FnValidSaid : Prop := fnValidRow.holds Try.pinned (OpenSpec.ofChange fnValidSpec)

/-- ITS FALSE NEIGHBOUR: 'it returns false'. Refute it at one input. -/
def fnValidWrong : ChangeSpec := { name := "fnValid", fn := fun _ => fun
  | [d] => { results := [.lit (.bool false)], args := [d] }
  | _ => none }
def FnValidWrongFalsely : Prop := fnValidRow.holds Try.pinned (OpenSpec.ofChange fnValidWrong)

/-- 'laws.FnBit': WHATEVER THE INPUT: true; the input reads as it did. -/
def fnBitSpec : ChangeSpec := { name := "fnBit", fn := fun _ => fun
  | [d1, d2, d3] => { results := [.lit (.bool true)], args := [d1, d2, d3] }
  | _ => none }
def fnBitRow : OpenClaim := { program := "ytjmlfobljlfngaa", sum := "4fd6f3969ec792fdcfa6b729016f3c0739f30bf4a3cd1a9b967b234f7fc5e98d", func := "loop.example/pub-g03067/laws.FnBit", spec := "fnBit", apart := false }
def FnBitSaid : Prop := fnBitRow.holds Try.pinned (OpenSpec.ofChange fnBitSpec)

/-- ITS FALSE NEIGHBOUR: 'it returns false'. Refute it at one input. -/
def fnBitWrong : ChangeSpec := { name := "fnBit", fn := fun _ => fun
  | [d1, d2, d3] => { results := [.lit (.bool false)], args := [d1, d2, d3] }
  | _ => none }
def FnBitWrongFalsely : Prop := fnBitRow.holds Try.pinned (OpenSpec.ofChange fnBitWrong)

/-- 'laws.FnRange': WHATEVER THE INPUT: true; the input reads as it did. -/
def fnRangeSpec : ChangeSpec := { name := "fnRange", fn := fun _ => fun
  | [d1, d2, d3, d4] => { results := [.lit (.bool true)], args := [d1, d2, d3, d4] }
  | _ => none }
def fnRangeRow : OpenClaim := { program := "ytjmlfobljlfngaa", sum := "4fd6f3969ec792fdcfa6b729016f3c0739f30bf4a3cd1a9b967b234f7fc5e98d", func := "loop.example/pub-g03067/laws.FnRange", spec := "fnRange", apart := false }
def FnRangeSaid : Prop := fnRangeRow.holds Try.pinned (OpenSpec.ofChange fnRangeSpec)

/-- ITS FALSE NEIGHBOUR: 'it returns false'. Refute it at one input. -/
def fnRangeWrong : ChangeSpec := { name := "fnRange", fn := fun _ => fun
  | [d1, d2, d3, d4] => { results := [.lit (.bool false)], args := [d1, d2, d3, d4] }
  | _ => none }
def FnRangeWrongFalsely : Prop := fnRangeRow.holds Try.pinned (OpenSpec.ofChange fnRangeWrong)

/-- 'laws.FnPack': WHATEVER THE INPUT: true; the input reads as it did. -/
def fnPackSpec : ChangeSpec := { name := "fnPack", fn := fun _ => fun
  | [d1, d2] => { results := [.lit (.bool true)], args := [d1, d2] }
  | _ => none }
def fnPackRow : OpenClaim := { program := "ytjmlfobljlfngaa", sum := "4fd6f3969ec792fdcfa6b729016f3c0739f30bf4a3cd1a9b967b234f7fc5e98d", func := "loop.example/pub-g03067/laws.FnPack", spec := "fnPack", apart := false }
def FnPackSaid : Prop := fnPackRow.holds Try.pinned (OpenSpec.ofChange fnPackSpec)

/-- ITS FALSE NEIGHBOUR: 'it returns false'. Refute it at one input. -/
def fnPackWrong : ChangeSpec := { name := "fnPack", fn := fun _ => fun
  | [d1, d2] => { results := [.lit (.bool false)], args := [d1, d2] }
  | _ => none }
def FnPackWrongFalsely : Prop := fnPackRow.holds Try.pinned (OpenSpec.ofChange fnPackWrong)

/-- 'laws.FnSaturated': WHATEVER THE INPUT: true; the input reads as it did. -/
def fnSaturatedSpec : ChangeSpec := { name := "fnSaturated", fn := fun _ => fun
  | [d1, d2, d3] => { results := [.lit (.bool true)], args := [d1, d2, d3] }
  | _ => none }
def fnSaturatedRow : OpenClaim := { program := "ytjmlfobljlfngaa", sum := "4fd6f3969ec792fdcfa6b729016f3c0739f30bf4a3cd1a9b967b234f7fc5e98d", func := "loop.example/pub-g03067/laws.FnSaturated", spec := "fnSaturated", apart := false }
def FnSaturatedSaid : Prop := fnSaturatedRow.holds Try.pinned (OpenSpec.ofChange fnSaturatedSpec)

/-- ITS FALSE NEIGHBOUR: 'it returns false'. Refute it at one input. -/
def fnSaturatedWrong : ChangeSpec := { name := "fnSaturated", fn := fun _ => fun
  | [d1, d2, d3] => { results := [.lit (.bool false)], args := [d1, d2, d3] }
  | _ => none }
def FnSaturatedWrongFalsely : Prop := fnSaturatedRow.holds Try.pinned (OpenSpec.ofChange fnSaturatedWrong)

/-- 'laws.FnBits': WHATEVER THE INPUT: true; the input reads as it did. -/
def fnBitsSpec : ChangeSpec := { name := "fnBits", fn := fun _ => fun
  | [d1, d2, d3, d4] => { results := [.lit (.bool true)], args := [d1, d2, d3, d4] }
  | _ => none }
def fnBitsRow : OpenClaim := { program := "ytjmlfobljlfngaa", sum := "4fd6f3969ec792fdcfa6b729016f3c0739f30bf4a3cd1a9b967b234f7fc5e98d", func := "loop.example/pub-g03067/laws.FnBits", spec := "fnBits", apart := false }
def FnBitsSaid : Prop := fnBitsRow.holds Try.pinned (OpenSpec.ofChange fnBitsSpec)

/-- ITS FALSE NEIGHBOUR: 'it returns false'. Refute it at one input. -/
def fnBitsWrong : ChangeSpec := { name := "fnBits", fn := fun _ => fun
  | [d1, d2, d3, d4] => { results := [.lit (.bool false)], args := [d1, d2, d3, d4] }
  | _ => none }
def FnBitsWrongFalsely : Prop := fnBitsRow.holds Try.pinned (OpenSpec.ofChange fnBitsWrong)

/-- 'laws.FnApart': WHATEVER THE INPUT: true; the input reads as it did. -/
def fnApartSpec : ChangeSpec := { name := "fnApart", fn := fun _ => fun
  | [d1, d2, d3, d4, d5, d6, d7, d8, d9] => { results := [.lit (.bool true)], args := [d1, d2, d3, d4, d5, d6, d7, d8, d9] }
  | _ => none }
def fnApartRow : OpenClaim := { program := "ytjmlfobljlfngaa", sum := "4fd6f3969ec792fdcfa6b729016f3c0739f30bf4a3cd1a9b967b234f7fc5e98d", func := "loop.example/pub-g03067/laws.FnApart", spec := "fnApart", apart := false }
def FnApartSaid : Prop := fnApartRow.holds Try.pinned (OpenSpec.ofChange fnApartSpec)

/-- ITS FALSE NEIGHBOUR: 'it returns false'. Refute it at one input. -/
def fnApartWrong : ChangeSpec := { name := "fnApart", fn := fun _ => fun
  | [d1, d2, d3, d4, d5, d6, d7, d8, d9] => { results := [.lit (.bool false)], args := [d1, d2, d3, d4, d5, d6, d7, d8, d9] }
  | _ => none }
def FnApartWrongFalsely : Prop := fnApartRow.holds Try.pinned (OpenSpec.ofChange fnApartWrong)

/-- 'laws.FnSetBits': WHATEVER THE INPUT: true; the input reads as it did. -/
def fnSetBitsSpec : ChangeSpec := { name := "fnSetBits", fn := fun _ => fun
  | [d1, d2, d3, d4, d5] => { results := [.lit (.bool true)], args := [d1, d2, d3, d4, d5] }
  | _ => none }
def fnSetBitsRow : OpenClaim := { program := "ytjmlfobljlfngaa", sum := "4fd6f3969ec792fdcfa6b729016f3c0739f30bf4a3cd1a9b967b234f7fc5e98d", func := "loop.example/pub-g03067/laws.FnSetBits", spec := "fnSetBits", apart := false }
def FnSetBitsSaid : Prop := fnSetBitsRow.holds Try.pinned (OpenSpec.ofChange fnSetBitsSpec)

/-- ITS FALSE NEIGHBOUR: 'it returns false'. Refute it at one input. -/
def fnSetBitsWrong : ChangeSpec := { name := "fnSetBits", fn := fun _ => fun
  | [d1, d2, d3, d4, d5] => { results := [.lit (.bool false)], args := [d1, d2, d3, d4, d5] }
  | _ => none }
def FnSetBitsWrongFalsely : Prop := fnSetBitsRow.holds Try.pinned (OpenSpec.ofChange fnSetBitsWrong)

/-- 'laws.FnSetSigned': WHATEVER THE INPUT: true; the input reads as it did. -/
def fnSetSignedSpec : ChangeSpec := { name := "fnSetSigned", fn := fun _ => fun
  | [d1, d2, d3, d4, d5] => { results := [.lit (.bool true)], args := [d1, d2, d3, d4, d5] }
  | _ => none }
def fnSetSignedRow : OpenClaim := { program := "ytjmlfobljlfngaa", sum := "4fd6f3969ec792fdcfa6b729016f3c0739f30bf4a3cd1a9b967b234f7fc5e98d", func := "loop.example/pub-g03067/laws.FnSetSigned", spec := "fnSetSigned", apart := false }
def FnSetSignedSaid : Prop := fnSetSignedRow.holds Try.pinned (OpenSpec.ofChange fnSetSignedSpec)

/-- ITS FALSE NEIGHBOUR: 'it returns false'. Refute it at one input. -/
def fnSetSignedWrong : ChangeSpec := { name := "fnSetSigned", fn := fun _ => fun
  | [d1, d2, d3, d4, d5] => { results := [.lit (.bool false)], args := [d1, d2, d3, d4, d5] }
  | _ => none }
def FnSetSignedWrongFalsely : Prop := fnSetSignedRow.holds Try.pinned (OpenSpec.ofChange fnSetSignedWrong)

/-- 'laws.FnRaw': WHATEVER THE INPUT: true; the input reads as it did. -/
def fnRawSpec : ChangeSpec := { name := "fnRaw", fn := fun _ => fun
  | [d1, d2, d3, d4] => { results := [.lit (.bool true)], args := [d1, d2, d3, d4] }
  | _ => none }
def fnRawRow : OpenClaim := { program := "ytjmlfobljlfngaa", sum := "4fd6f3969ec792fdcfa6b729016f3c0739f30bf4a3cd1a9b967b234f7fc5e98d", func := "loop.example/pub-g03067/laws.FnRaw", spec := "fnRaw", apart := false }
def FnRawSaid : Prop := fnRawRow.holds Try.pinned (OpenSpec.ofChange fnRawSpec)

/-- ITS FALSE NEIGHBOUR: 'it returns false'. Refute it at one input. -/
def fnRawWrong : ChangeSpec := { name := "fnRaw", fn := fun _ => fun
  | [d1, d2, d3, d4] => { results := [.lit (.bool false)], args := [d1, d2, d3, d4] }
  | _ => none }
def FnRawWrongFalsely : Prop := fnRawRow.holds Try.pinned (OpenSpec.ofChange fnRawWrong)

/- THE SECOND FORM. 'bulk': how many values and letters a reading holds, each counted each time it is reached (what is shared counts as often as it is met; a slice's spare places count too). A statement '..UptoSaid' is the law's where the arguments, and the package variables that the reading takes, are together of bulk at most 1048576: NARROWER than '..Said'. Prove '..Said' where nothing that the law and all that it calls make is longer than what came in: it says more and counts as full. Else prove '..UptoSaid'. A law counts once. -/
mutual
def uptoBulk {H : Type} : DataW H → Nat
  | .lit (.string bytes) => bytes.length + 1
  | .lit _ => 1
  | .nil => 1
  | .ptr d => uptoBulk d + 1
  | .slice elems spare => uptoBulkAll elems + uptoBulkAll spare + 1
  | .agg parts => uptoBulkAll parts + 1
  | .iface _ d => uptoBulk d + 1
  | .map entries => uptoBulkEntries entries + 1
  | .held _ => 1
def uptoBulkAll {H : Type} : List (DataW H) → Nat
  | [] => 0
  | d :: r => uptoBulk d + uptoBulkAll r
def uptoBulkEntries {H : Type} : List (Lit × DataW H) → Nat
  | [] => 0
  | x :: r => uptoBulkEntry x + uptoBulkEntries r
def uptoBulkEntry {H : Type} : Lit × DataW H → Nat
  | (.string bytes, d) => bytes.length + uptoBulk d + 1
  | (_, d) => uptoBulk d + 1
 end
def uptoSmall : (H : Type) → List (DataW H) → Bool := fun _ ds => decide (uptoBulkAll ds ≤ 1048576)
def OpenSpec.upto (s : _root_.Go.ChangeSpec) : _root_.Go.OpenSpec := { _root_.Go.OpenSpec.ofChange s with cond := some uptoSmall }

/-- 'laws.FnValue', WHERE WHAT IT READS IS OF BULK AT MOST 1048576: true; the input reads as it did. -/
def fnValueUptoRow : OpenClaim := { program := "ytjmlfobljlfngaa", sum := "4fd6f3969ec792fdcfa6b729016f3c0739f30bf4a3cd1a9b967b234f7fc5e98d", func := "loop.example/pub-g03067/laws.FnValue", spec := "fnValue", apart := false, narrowed := true }
def FnValueUptoSaid : Prop := fnValueUptoRow.holds Try.pinned (OpenSpec.upto fnValueSpec)

/-- 'laws.FnLimits', WHERE WHAT IT READS IS OF BULK AT MOST 1048576: true; the input reads as it did. -/
def fnLimitsUptoRow : OpenClaim := { program := "ytjmlfobljlfngaa", sum := "4fd6f3969ec792fdcfa6b729016f3c0739f30bf4a3cd1a9b967b234f7fc5e98d", func := "loop.example/pub-g03067/laws.FnLimits", spec := "fnLimits", apart := false, narrowed := true }
def FnLimitsUptoSaid : Prop := fnLimitsUptoRow.holds Try.pinned (OpenSpec.upto fnLimitsSpec)

/-- 'laws.FnValid', WHERE WHAT IT READS IS OF BULK AT MOST 1048576: true; the input reads as it did. -/
def fnValidUptoRow : OpenClaim := { program := "ytjmlfobljlfngaa", sum := "4fd6f3969ec792fdcfa6b729016f3c0739f30bf4a3cd1a9b967b234f7fc5e98d", func := "loop.example/pub-g03067/laws.FnValid", spec := "fnValid", apart := false, narrowed := true }
def FnValidUptoSaid : Prop := fnValidUptoRow.holds Try.pinned (OpenSpec.upto fnValidSpec)

/-- 'laws.FnBit', WHERE WHAT IT READS IS OF BULK AT MOST 1048576: true; the input reads as it did. -/
def fnBitUptoRow : OpenClaim := { program := "ytjmlfobljlfngaa", sum := "4fd6f3969ec792fdcfa6b729016f3c0739f30bf4a3cd1a9b967b234f7fc5e98d", func := "loop.example/pub-g03067/laws.FnBit", spec := "fnBit", apart := false, narrowed := true }
def FnBitUptoSaid : Prop := fnBitUptoRow.holds Try.pinned (OpenSpec.upto fnBitSpec)

/-- 'laws.FnRange', WHERE WHAT IT READS IS OF BULK AT MOST 1048576: true; the input reads as it did. -/
def fnRangeUptoRow : OpenClaim := { program := "ytjmlfobljlfngaa", sum := "4fd6f3969ec792fdcfa6b729016f3c0739f30bf4a3cd1a9b967b234f7fc5e98d", func := "loop.example/pub-g03067/laws.FnRange", spec := "fnRange", apart := false, narrowed := true }
def FnRangeUptoSaid : Prop := fnRangeUptoRow.holds Try.pinned (OpenSpec.upto fnRangeSpec)

/-- 'laws.FnPack', WHERE WHAT IT READS IS OF BULK AT MOST 1048576: true; the input reads as it did. -/
def fnPackUptoRow : OpenClaim := { program := "ytjmlfobljlfngaa", sum := "4fd6f3969ec792fdcfa6b729016f3c0739f30bf4a3cd1a9b967b234f7fc5e98d", func := "loop.example/pub-g03067/laws.FnPack", spec := "fnPack", apart := false, narrowed := true }
def FnPackUptoSaid : Prop := fnPackUptoRow.holds Try.pinned (OpenSpec.upto fnPackSpec)

/-- 'laws.FnSaturated', WHERE WHAT IT READS IS OF BULK AT MOST 1048576: true; the input reads as it did. -/
def fnSaturatedUptoRow : OpenClaim := { program := "ytjmlfobljlfngaa", sum := "4fd6f3969ec792fdcfa6b729016f3c0739f30bf4a3cd1a9b967b234f7fc5e98d", func := "loop.example/pub-g03067/laws.FnSaturated", spec := "fnSaturated", apart := false, narrowed := true }
def FnSaturatedUptoSaid : Prop := fnSaturatedUptoRow.holds Try.pinned (OpenSpec.upto fnSaturatedSpec)

/-- 'laws.FnBits', WHERE WHAT IT READS IS OF BULK AT MOST 1048576: true; the input reads as it did. -/
def fnBitsUptoRow : OpenClaim := { program := "ytjmlfobljlfngaa", sum := "4fd6f3969ec792fdcfa6b729016f3c0739f30bf4a3cd1a9b967b234f7fc5e98d", func := "loop.example/pub-g03067/laws.FnBits", spec := "fnBits", apart := false, narrowed := true }
def FnBitsUptoSaid : Prop := fnBitsUptoRow.holds Try.pinned (OpenSpec.upto fnBitsSpec)

/-- 'laws.FnApart', WHERE WHAT IT READS IS OF BULK AT MOST 1048576: true; the input reads as it did. -/
def fnApartUptoRow : OpenClaim := { program := "ytjmlfobljlfngaa", sum := "4fd6f3969ec792fdcfa6b729016f3c0739f30bf4a3cd1a9b967b234f7fc5e98d", func := "loop.example/pub-g03067/laws.FnApart", spec := "fnApart", apart := false, narrowed := true }
def FnApartUptoSaid : Prop := fnApartUptoRow.holds Try.pinned (OpenSpec.upto fnApartSpec)

/-- 'laws.FnSetBits', WHERE WHAT IT READS IS OF BULK AT MOST 1048576: true; the input reads as it did. -/
def fnSetBitsUptoRow : OpenClaim := { program := "ytjmlfobljlfngaa", sum := "4fd6f3969ec792fdcfa6b729016f3c0739f30bf4a3cd1a9b967b234f7fc5e98d", func := "loop.example/pub-g03067/laws.FnSetBits", spec := "fnSetBits", apart := false, narrowed := true }
def FnSetBitsUptoSaid : Prop := fnSetBitsUptoRow.holds Try.pinned (OpenSpec.upto fnSetBitsSpec)

/-- 'laws.FnSetSigned', WHERE WHAT IT READS IS OF BULK AT MOST 1048576: true; the input reads as it did. -/
def fnSetSignedUptoRow : OpenClaim := { program := "ytjmlfobljlfngaa", sum := "4fd6f3969ec792fdcfa6b729016f3c0739f30bf4a3cd1a9b967b234f7fc5e98d", func := "loop.example/pub-g03067/laws.FnSetSigned", spec := "fnSetSigned", apart := false, narrowed := true }
def FnSetSignedUptoSaid : Prop := fnSetSignedUptoRow.holds Try.pinned (OpenSpec.upto fnSetSignedSpec)

/-- 'laws.FnRaw', WHERE WHAT IT READS IS OF BULK AT MOST 1048576: true; the input reads as it did. -/
def fnRawUptoRow : OpenClaim := { program := "ytjmlfobljlfngaa", sum := "4fd6f3969ec792fdcfa6b729016f3c0739f30bf4a3cd1a9b967b234f7fc5e98d", func := "loop.example/pub-g03067/laws.FnRaw", spec := "fnRaw", apart := false, narrowed := true }
def FnRawUptoSaid : Prop := fnRawUptoRow.holds Try.pinned (OpenSpec.upto fnRawSpec)

end Rows
end Go.Proofs.Ytjmlfobljlfngaa
