/-
  No cell of these rows narrows 'for every input' (looked for: loops, veiled, ifaces, maps, wideKeys, modest, calm, conditions, laid).
  DERIVED. THE GIVEN ROWS OF THIS SEAT. 10 by the template 'for every input the law returns true; each argument reads behind the call as it read before'; 0 by the template 'total and deterministic' (their statements: YthckboojmljeiaaTotals.lean).
  GIVEN WITH THE SEED: the statements are not yours to turn. If you find one false, say at which input.
  Laid BY PROGRAM, IN A SANDBOX (cutbox-rows.mjs): the forced cells as the released guide's own fill.sh prints them over the translation 013372a963b87438… (all of the seat's roots in one cut). By AI agents, Wed Nov 11 2026. No macro, syntax, notation, axiom, sorry.
-/
import Derived.Test.YthckboojmljeiaaChecked
import GoSem.Claim
import GoSem.ClaimJoined
import GoSem.ClaimMapViews
import Derived.JoinedTies
import Derived.KernelRfl
namespace Go.Proofs.Ythckboojmljeiaa
/- THE CELL 'sum', in the pinned program and in every row, IS THE sha256 OF THE DUMP (.gsa) THAT YthckboojmljeiaaProg.lean LOADS. Nothing in Lean hashes anything: it is a label: what it is worth is what the hold of that sum in a sandbox is worth. -/
noncomputable def Try.pinned : Pinned := { name := "ythckboojmljeiaa", sum := "013372a963b87438b7dc5d6f5e9a0f1c177050d3faa820597cb7261f3ba540a7", checked := Try.checked }
namespace Rows
def none {H : Type} : Left H := { results := [], args := [] }

/-- 'laws.FnExactNumber': WHATEVER THE INPUT: true; the input reads as it did. -/
def fnExactNumberSpec : ChangeSpec := { name := "fnExactNumber", fn := fun _ => fun
  | [d] => { results := [.lit (.bool true)], args := [d] }
  | _ => none }
def fnExactNumberRow : OpenClaim := { program := "ythckboojmljeiaa", sum := "013372a963b87438b7dc5d6f5e9a0f1c177050d3faa820597cb7261f3ba540a7", func := "loop.example/pub-digitsandbytes/laws.FnExactNumber", spec := "fnExactNumber", apart := false }
def FnExactNumberSaid : Prop := fnExactNumberRow.holds Try.pinned (OpenSpec.ofChange fnExactNumberSpec)

/-- ITS FALSE NEIGHBOUR: 'it returns false'. Refute it at one input. -/
def fnExactNumberWrong : ChangeSpec := { name := "fnExactNumber", fn := fun _ => fun
  | [d] => { results := [.lit (.bool false)], args := [d] }
  | _ => none }
def FnExactNumberWrongFalsely : Prop := fnExactNumberRow.holds Try.pinned (OpenSpec.ofChange fnExactNumberWrong)

/-- 'laws.FnExactStore': WHATEVER THE INPUT: true; the input reads as it did. -/
def fnExactStoreSpec : ChangeSpec := { name := "fnExactStore", fn := fun _ => fun
  | [d1, d2, d3] => { results := [.lit (.bool true)], args := [d1, d2, d3] }
  | _ => none }
def fnExactStoreRow : OpenClaim := { program := "ythckboojmljeiaa", sum := "013372a963b87438b7dc5d6f5e9a0f1c177050d3faa820597cb7261f3ba540a7", func := "loop.example/pub-digitsandbytes/laws.FnExactStore", spec := "fnExactStore", apart := false }
def FnExactStoreSaid : Prop := fnExactStoreRow.holds Try.pinned (OpenSpec.ofChange fnExactStoreSpec)

/-- ITS FALSE NEIGHBOUR: 'it returns false'. Refute it at one input. -/
def fnExactStoreWrong : ChangeSpec := { name := "fnExactStore", fn := fun _ => fun
  | [d1, d2, d3] => { results := [.lit (.bool false)], args := [d1, d2, d3] }
  | _ => none }
def FnExactStoreWrongFalsely : Prop := fnExactStoreRow.holds Try.pinned (OpenSpec.ofChange fnExactStoreWrong)

/-- 'laws.FnStoreBack': WHATEVER THE INPUT: true; the input reads as it did. -/
def fnStoreBackSpec : ChangeSpec := { name := "fnStoreBack", fn := fun _ => fun
  | [d1, d2, d3] => { results := [.lit (.bool true)], args := [d1, d2, d3] }
  | _ => none }
def fnStoreBackRow : OpenClaim := { program := "ythckboojmljeiaa", sum := "013372a963b87438b7dc5d6f5e9a0f1c177050d3faa820597cb7261f3ba540a7", func := "loop.example/pub-digitsandbytes/laws.FnStoreBack", spec := "fnStoreBack", apart := false }
def FnStoreBackSaid : Prop := fnStoreBackRow.holds Try.pinned (OpenSpec.ofChange fnStoreBackSpec)

/-- ITS FALSE NEIGHBOUR: 'it returns false'. Refute it at one input. -/
def fnStoreBackWrong : ChangeSpec := { name := "fnStoreBack", fn := fun _ => fun
  | [d1, d2, d3] => { results := [.lit (.bool false)], args := [d1, d2, d3] }
  | _ => none }
def FnStoreBackWrongFalsely : Prop := fnStoreBackRow.holds Try.pinned (OpenSpec.ofChange fnStoreBackWrong)

/-- 'laws.FnExactNumberWords': WHATEVER THE INPUT: true; the input reads as it did. -/
def fnExactNumberWordsSpec : ChangeSpec := { name := "fnExactNumberWords", fn := fun _ => fun
  | [d] => { results := [.lit (.bool true)], args := [d] }
  | _ => none }
def fnExactNumberWordsRow : OpenClaim := { program := "ythckboojmljeiaa", sum := "013372a963b87438b7dc5d6f5e9a0f1c177050d3faa820597cb7261f3ba540a7", func := "loop.example/pub-digitsandbytes/laws.FnExactNumberWords", spec := "fnExactNumberWords", inPlace := ["math/bits.Add64", "math/bits.Sub64"], recurses := true, apart := false }
def FnExactNumberWordsSaid : Prop := fnExactNumberWordsRow.holds Try.pinned (OpenSpec.ofChange fnExactNumberWordsSpec)

/-- ITS FALSE NEIGHBOUR: 'it returns false'. Refute it at one input. -/
def fnExactNumberWordsWrong : ChangeSpec := { name := "fnExactNumberWords", fn := fun _ => fun
  | [d] => { results := [.lit (.bool false)], args := [d] }
  | _ => none }
def FnExactNumberWordsWrongFalsely : Prop := fnExactNumberWordsRow.holds Try.pinned (OpenSpec.ofChange fnExactNumberWordsWrong)

/-- 'laws.FnBytesBack': WHATEVER THE INPUT: true; the input reads as it did. -/
def fnBytesBackSpec : ChangeSpec := { name := "fnBytesBack", fn := fun _ => fun
  | [d1, d2] => { results := [.lit (.bool true)], args := [d1, d2] }
  | _ => none }
def fnBytesBackRow : OpenClaim := { program := "ythckboojmljeiaa", sum := "013372a963b87438b7dc5d6f5e9a0f1c177050d3faa820597cb7261f3ba540a7", func := "loop.example/pub-digitsandbytes/laws.FnBytesBack", spec := "fnBytesBack", inPlace := ["math/bits.Add64", "math/bits.Sub64"], recurses := true, apart := false }
def FnBytesBackSaid : Prop := fnBytesBackRow.holds Try.pinned (OpenSpec.ofChange fnBytesBackSpec)

/-- ITS FALSE NEIGHBOUR: 'it returns false'. Refute it at one input. -/
def fnBytesBackWrong : ChangeSpec := { name := "fnBytesBack", fn := fun _ => fun
  | [d1, d2] => { results := [.lit (.bool false)], args := [d1, d2] }
  | _ => none }
def FnBytesBackWrongFalsely : Prop := fnBytesBackRow.holds Try.pinned (OpenSpec.ofChange fnBytesBackWrong)

/-- 'laws.FnApart': WHATEVER THE INPUT: true; the input reads as it did. -/
def fnApartSpec : ChangeSpec := { name := "fnApart", fn := fun _ => fun
  | [d1, d2] => { results := [.lit (.bool true)], args := [d1, d2] }
  | _ => none }
def fnApartRow : OpenClaim := { program := "ythckboojmljeiaa", sum := "013372a963b87438b7dc5d6f5e9a0f1c177050d3faa820597cb7261f3ba540a7", func := "loop.example/pub-digitsandbytes/laws.FnApart", spec := "fnApart", inPlace := ["math/bits.Sub64", "math/bits.Add64"], recurses := true, apart := false }
def FnApartSaid : Prop := fnApartRow.holds Try.pinned (OpenSpec.ofChange fnApartSpec)

/-- ITS FALSE NEIGHBOUR: 'it returns false'. Refute it at one input. -/
def fnApartWrong : ChangeSpec := { name := "fnApart", fn := fun _ => fun
  | [d1, d2] => { results := [.lit (.bool false)], args := [d1, d2] }
  | _ => none }
def FnApartWrongFalsely : Prop := fnApartRow.holds Try.pinned (OpenSpec.ofChange fnApartWrong)

/-- 'laws.FnExactApart': WHATEVER THE INPUT: true; the input reads as it did. -/
def fnExactApartSpec : ChangeSpec := { name := "fnExactApart", fn := fun _ => fun
  | [d1, d2] => { results := [.lit (.bool true)], args := [d1, d2] }
  | _ => none }
def fnExactApartRow : OpenClaim := { program := "ythckboojmljeiaa", sum := "013372a963b87438b7dc5d6f5e9a0f1c177050d3faa820597cb7261f3ba540a7", func := "loop.example/pub-digitsandbytes/laws.FnExactApart", spec := "fnExactApart", inPlace := ["math/bits.Sub64", "math/bits.Add64"], recurses := true, apart := false }
def FnExactApartSaid : Prop := fnExactApartRow.holds Try.pinned (OpenSpec.ofChange fnExactApartSpec)

/-- ITS FALSE NEIGHBOUR: 'it returns false'. Refute it at one input. -/
def fnExactApartWrong : ChangeSpec := { name := "fnExactApart", fn := fun _ => fun
  | [d1, d2] => { results := [.lit (.bool false)], args := [d1, d2] }
  | _ => none }
def FnExactApartWrongFalsely : Prop := fnExactApartRow.holds Try.pinned (OpenSpec.ofChange fnExactApartWrong)

/-- 'laws.FnSigned': WHATEVER THE INPUT: true; the input reads as it did. -/
def fnSignedSpec : ChangeSpec := { name := "fnSigned", fn := fun _ => fun
  | [d1, d2, d3] => { results := [.lit (.bool true)], args := [d1, d2, d3] }
  | _ => none }
def fnSignedRow : OpenClaim := { program := "ythckboojmljeiaa", sum := "013372a963b87438b7dc5d6f5e9a0f1c177050d3faa820597cb7261f3ba540a7", func := "loop.example/pub-digitsandbytes/laws.FnSigned", spec := "fnSigned", inPlace := ["math/bits.Sub64", "math/bits.Add64"], recurses := true, apart := false }
def FnSignedSaid : Prop := fnSignedRow.holds Try.pinned (OpenSpec.ofChange fnSignedSpec)

/-- ITS FALSE NEIGHBOUR: 'it returns false'. Refute it at one input. -/
def fnSignedWrong : ChangeSpec := { name := "fnSigned", fn := fun _ => fun
  | [d1, d2, d3] => { results := [.lit (.bool false)], args := [d1, d2, d3] }
  | _ => none }
def FnSignedWrongFalsely : Prop := fnSignedRow.holds Try.pinned (OpenSpec.ofChange fnSignedWrong)

/-- 'laws.FnSignedMany': WHATEVER THE INPUT: true; the input reads as it did. -/
def fnSignedManySpec : ChangeSpec := { name := "fnSignedMany", fn := fun _ => fun
  | [d1, d2, d3] => { results := [.lit (.bool true)], args := [d1, d2, d3] }
  | _ => none }
def fnSignedManyRow : OpenClaim := { program := "ythckboojmljeiaa", sum := "013372a963b87438b7dc5d6f5e9a0f1c177050d3faa820597cb7261f3ba540a7", func := "loop.example/pub-digitsandbytes/laws.FnSignedMany", spec := "fnSignedMany", inPlace := ["math/bits.Sub64", "math/bits.Add64"], recurses := true, apart := false }
def FnSignedManySaid : Prop := fnSignedManyRow.holds Try.pinned (OpenSpec.ofChange fnSignedManySpec)

/-- ITS FALSE NEIGHBOUR: 'it returns false'. Refute it at one input. -/
def fnSignedManyWrong : ChangeSpec := { name := "fnSignedMany", fn := fun _ => fun
  | [d1, d2, d3] => { results := [.lit (.bool false)], args := [d1, d2, d3] }
  | _ => none }
def FnSignedManyWrongFalsely : Prop := fnSignedManyRow.holds Try.pinned (OpenSpec.ofChange fnSignedManyWrong)

/-- 'laws.FnExactStoreWords': WHATEVER THE INPUT: true; the input reads as it did. -/
def fnExactStoreWordsSpec : ChangeSpec := { name := "fnExactStoreWords", fn := fun _ => fun
  | [d1, d2] => { results := [.lit (.bool true)], args := [d1, d2] }
  | _ => none }
def fnExactStoreWordsRow : OpenClaim := { program := "ythckboojmljeiaa", sum := "013372a963b87438b7dc5d6f5e9a0f1c177050d3faa820597cb7261f3ba540a7", func := "loop.example/pub-digitsandbytes/laws.FnExactStoreWords", spec := "fnExactStoreWords", inPlace := ["math/bits.Add64", "math/bits.Sub64"], recurses := true, apart := false }
def FnExactStoreWordsSaid : Prop := fnExactStoreWordsRow.holds Try.pinned (OpenSpec.ofChange fnExactStoreWordsSpec)

/-- ITS FALSE NEIGHBOUR: 'it returns false'. Refute it at one input. -/
def fnExactStoreWordsWrong : ChangeSpec := { name := "fnExactStoreWords", fn := fun _ => fun
  | [d1, d2] => { results := [.lit (.bool false)], args := [d1, d2] }
  | _ => none }
def FnExactStoreWordsWrongFalsely : Prop := fnExactStoreWordsRow.holds Try.pinned (OpenSpec.ofChange fnExactStoreWordsWrong)

/- THE SECOND FORM. 'bulk': how many values and letters a reading holds, each counted each time it is reached (what is shared counts as often as it is met; a slice's spare places count too). A statement '..UptoSaid' is the law's where the arguments, and the package variables that the reading takes, are together of bulk at most 1048576: NARROWER than '..Said'. Prove '..Said' where nothing that the law and all that it calls make is longer than what came in: it says more and counts as full. Else prove '..UptoSaid'. A law counts once. -/
mutual
def uptoBulk {H : Type} : DataW H → Nat
  | .lit (.string bytes) => bytes.length + 1
  | .lit _ => 1
  | .nil => 1
  | .ptr d => uptoBulk d + 1
  | .slice elems spare => uptoBulkAll elems + uptoBulkAll spare + 1
  | .agg parts => uptoBulkAll parts + 1
  | .iface _ d => uptoBulk d + 1
  | .map entries => uptoBulkEntries entries + 1
  | .held _ => 1
def uptoBulkAll {H : Type} : List (DataW H) → Nat
  | [] => 0
  | d :: r => uptoBulk d + uptoBulkAll r
def uptoBulkEntries {H : Type} : List (Lit × DataW H) → Nat
  | [] => 0
  | x :: r => uptoBulkEntry x + uptoBulkEntries r
def uptoBulkEntry {H : Type} : Lit × DataW H → Nat
  | (.string bytes, d) => bytes.length + uptoBulk d + 1
  | (_, d) => uptoBulk d + 1
 end
def uptoSmall : (H : Type) → List (DataW H) → Bool := fun _ ds => decide (uptoBulkAll ds ≤ 1048576)
def OpenSpec.upto (s : _root_.Go.ChangeSpec) : _root_.Go.OpenSpec := { _root_.Go.OpenSpec.ofChange s with cond := some uptoSmall }

/-- 'laws.FnExactNumber', WHERE WHAT IT READS IS OF BULK AT MOST 1048576: true; the input reads as it did. -/
def fnExactNumberUptoRow : OpenClaim := { program := "ythckboojmljeiaa", sum := "013372a963b87438b7dc5d6f5e9a0f1c177050d3faa820597cb7261f3ba540a7", func := "loop.example/pub-digitsandbytes/laws.FnExactNumber", spec := "fnExactNumber", apart := false, narrowed := true }
def FnExactNumberUptoSaid : Prop := fnExactNumberUptoRow.holds Try.pinned (OpenSpec.upto fnExactNumberSpec)

/-- 'laws.FnExactStore', WHERE WHAT IT READS IS OF BULK AT MOST 1048576: true; the input reads as it did. -/
def fnExactStoreUptoRow : OpenClaim := { program := "ythckboojmljeiaa", sum := "013372a963b87438b7dc5d6f5e9a0f1c177050d3faa820597cb7261f3ba540a7", func := "loop.example/pub-digitsandbytes/laws.FnExactStore", spec := "fnExactStore", apart := false, narrowed := true }
def FnExactStoreUptoSaid : Prop := fnExactStoreUptoRow.holds Try.pinned (OpenSpec.upto fnExactStoreSpec)

/-- 'laws.FnStoreBack', WHERE WHAT IT READS IS OF BULK AT MOST 1048576: true; the input reads as it did. -/
def fnStoreBackUptoRow : OpenClaim := { program := "ythckboojmljeiaa", sum := "013372a963b87438b7dc5d6f5e9a0f1c177050d3faa820597cb7261f3ba540a7", func := "loop.example/pub-digitsandbytes/laws.FnStoreBack", spec := "fnStoreBack", apart := false, narrowed := true }
def FnStoreBackUptoSaid : Prop := fnStoreBackUptoRow.holds Try.pinned (OpenSpec.upto fnStoreBackSpec)

/-- 'laws.FnExactNumberWords', WHERE WHAT IT READS IS OF BULK AT MOST 1048576: true; the input reads as it did. -/
def fnExactNumberWordsUptoRow : OpenClaim := { program := "ythckboojmljeiaa", sum := "013372a963b87438b7dc5d6f5e9a0f1c177050d3faa820597cb7261f3ba540a7", func := "loop.example/pub-digitsandbytes/laws.FnExactNumberWords", spec := "fnExactNumberWords", inPlace := ["math/bits.Add64", "math/bits.Sub64"], recurses := true, apart := false, narrowed := true }
def FnExactNumberWordsUptoSaid : Prop := fnExactNumberWordsUptoRow.holds Try.pinned (OpenSpec.upto fnExactNumberWordsSpec)

/-- 'laws.FnBytesBack', WHERE WHAT IT READS IS OF BULK AT MOST 1048576: true; the input reads as it did. -/
def fnBytesBackUptoRow : OpenClaim := { program := "ythckboojmljeiaa", sum := "013372a963b87438b7dc5d6f5e9a0f1c177050d3faa820597cb7261f3ba540a7", func := "loop.example/pub-digitsandbytes/laws.FnBytesBack", spec := "fnBytesBack", inPlace := ["math/bits.Add64", "math/bits.Sub64"], recurses := true, apart := false, narrowed := true }
def FnBytesBackUptoSaid : Prop := fnBytesBackUptoRow.holds Try.pinned (OpenSpec.upto fnBytesBackSpec)

/-- 'laws.FnApart', WHERE WHAT IT READS IS OF BULK AT MOST 1048576: true; the input reads as it did. -/
def fnApartUptoRow : OpenClaim := { program := "ythckboojmljeiaa", sum := "013372a963b87438b7dc5d6f5e9a0f1c177050d3faa820597cb7261f3ba540a7", func := "loop.example/pub-digitsandbytes/laws.FnApart", spec := "fnApart", inPlace := ["math/bits.Sub64", "math/bits.Add64"], recurses := true, apart := false, narrowed := true }
def FnApartUptoSaid : Prop := fnApartUptoRow.holds Try.pinned (OpenSpec.upto fnApartSpec)

/-- 'laws.FnExactApart', WHERE WHAT IT READS IS OF BULK AT MOST 1048576: true; the input reads as it did. -/
def fnExactApartUptoRow : OpenClaim := { program := "ythckboojmljeiaa", sum := "013372a963b87438b7dc5d6f5e9a0f1c177050d3faa820597cb7261f3ba540a7", func := "loop.example/pub-digitsandbytes/laws.FnExactApart", spec := "fnExactApart", inPlace := ["math/bits.Sub64", "math/bits.Add64"], recurses := true, apart := false, narrowed := true }
def FnExactApartUptoSaid : Prop := fnExactApartUptoRow.holds Try.pinned (OpenSpec.upto fnExactApartSpec)

/-- 'laws.FnSigned', WHERE WHAT IT READS IS OF BULK AT MOST 1048576: true; the input reads as it did. -/
def fnSignedUptoRow : OpenClaim := { program := "ythckboojmljeiaa", sum := "013372a963b87438b7dc5d6f5e9a0f1c177050d3faa820597cb7261f3ba540a7", func := "loop.example/pub-digitsandbytes/laws.FnSigned", spec := "fnSigned", inPlace := ["math/bits.Sub64", "math/bits.Add64"], recurses := true, apart := false, narrowed := true }
def FnSignedUptoSaid : Prop := fnSignedUptoRow.holds Try.pinned (OpenSpec.upto fnSignedSpec)

/-- 'laws.FnSignedMany', WHERE WHAT IT READS IS OF BULK AT MOST 1048576: true; the input reads as it did. -/
def fnSignedManyUptoRow : OpenClaim := { program := "ythckboojmljeiaa", sum := "013372a963b87438b7dc5d6f5e9a0f1c177050d3faa820597cb7261f3ba540a7", func := "loop.example/pub-digitsandbytes/laws.FnSignedMany", spec := "fnSignedMany", inPlace := ["math/bits.Sub64", "math/bits.Add64"], recurses := true, apart := false, narrowed := true }
def FnSignedManyUptoSaid : Prop := fnSignedManyUptoRow.holds Try.pinned (OpenSpec.upto fnSignedManySpec)

/-- 'laws.FnExactStoreWords', WHERE WHAT IT READS IS OF BULK AT MOST 1048576: true; the input reads as it did. -/
def fnExactStoreWordsUptoRow : OpenClaim := { program := "ythckboojmljeiaa", sum := "013372a963b87438b7dc5d6f5e9a0f1c177050d3faa820597cb7261f3ba540a7", func := "loop.example/pub-digitsandbytes/laws.FnExactStoreWords", spec := "fnExactStoreWords", inPlace := ["math/bits.Add64", "math/bits.Sub64"], recurses := true, apart := false, narrowed := true }
def FnExactStoreWordsUptoSaid : Prop := fnExactStoreWordsUptoRow.holds Try.pinned (OpenSpec.upto fnExactStoreWordsSpec)

end Rows
end Go.Proofs.Ythckboojmljeiaa
