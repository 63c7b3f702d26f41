/-
  No cell of these rows narrows 'for every input' (looked for: loops, veiled, ifaces, maps, wideKeys, modest, calm, conditions, laid).
  DERIVED. THE GIVEN ROWS OF THIS SEAT. 4 by the template 'for every input the law returns true; each argument reads behind the call as it read before'; 0 by the template 'total and deterministic' (their statements: YtnjpamcjmlmeiaaTotals.lean).
  GIVEN WITH THE SEED: the statements are not yours to turn. If you find one false, say at which input.
  Laid BY PROGRAM, IN A SANDBOX (cutbox-rows.mjs): the forced cells as the released guide's own fill.sh prints them over the translation 283d88e5ad9f526c… (all of the seat's roots in one cut). By AI agents, Wed Nov 11 2026. No macro, syntax, notation, axiom, sorry.
-/
import Derived.Test.YtnjpamcjmlmeiaaChecked
import GoSem.Claim
import GoSem.ClaimJoined
import GoSem.ClaimMapViews
import Derived.JoinedTies
import Derived.KernelRfl
namespace Go.Proofs.Ytnjpamcjmlmeiaa
/- THE CELL 'sum', in the pinned program and in every row, IS THE sha256 OF THE DUMP (.gsa) THAT YtnjpamcjmlmeiaaProg.lean LOADS. Nothing in Lean hashes anything: it is a label: what it is worth is what the hold of that sum in a sandbox is worth. -/
noncomputable def Try.pinned : Pinned := { name := "ytnjpamcjmlmeiaa", sum := "283d88e5ad9f526cae547310d6c9f8df780acc06cec6d10a3108a4a825f348e8", checked := Try.checked }
namespace Rows
def none {H : Type} : Left H := { results := [], args := [] }

/-- 'laws.FnExactHex': WHATEVER THE INPUT: true; the input reads as it did. -/
def fnExactHexSpec : ChangeSpec := { name := "fnExactHex", fn := fun _ => fun
  | [d] => { results := [.lit (.bool true)], args := [d] }
  | _ => none }
def fnExactHexRow : OpenClaim := { program := "ytnjpamcjmlmeiaa", sum := "283d88e5ad9f526cae547310d6c9f8df780acc06cec6d10a3108a4a825f348e8", func := "loop.example/pub-digitsandbytes/laws.FnExactHex", spec := "fnExactHex", apart := false }
def FnExactHexSaid : Prop := fnExactHexRow.holds Try.pinned (OpenSpec.ofChange fnExactHexSpec)

/-- ITS FALSE NEIGHBOUR: 'it returns false'. Refute it at one input. -/
def fnExactHexWrong : ChangeSpec := { name := "fnExactHex", fn := fun _ => fun
  | [d] => { results := [.lit (.bool false)], args := [d] }
  | _ => none }
def FnExactHexWrongFalsely : Prop := fnExactHexRow.holds Try.pinned (OpenSpec.ofChange fnExactHexWrong)

/-- 'laws.FnExactHexWords': WHATEVER THE INPUT: true; the input reads as it did. -/
def fnExactHexWordsSpec : ChangeSpec := { name := "fnExactHexWords", fn := fun _ => fun
  | [d] => { results := [.lit (.bool true)], args := [d] }
  | _ => none }
def fnExactHexWordsRow : OpenClaim := { program := "ytnjpamcjmlmeiaa", sum := "283d88e5ad9f526cae547310d6c9f8df780acc06cec6d10a3108a4a825f348e8", func := "loop.example/pub-digitsandbytes/laws.FnExactHexWords", spec := "fnExactHexWords", apart := false }
def FnExactHexWordsSaid : Prop := fnExactHexWordsRow.holds Try.pinned (OpenSpec.ofChange fnExactHexWordsSpec)

/-- ITS FALSE NEIGHBOUR: 'it returns false'. Refute it at one input. -/
def fnExactHexWordsWrong : ChangeSpec := { name := "fnExactHexWords", fn := fun _ => fun
  | [d] => { results := [.lit (.bool false)], args := [d] }
  | _ => none }
def FnExactHexWordsWrongFalsely : Prop := fnExactHexWordsRow.holds Try.pinned (OpenSpec.ofChange fnExactHexWordsWrong)

/-- 'laws.FnExactWords': WHATEVER THE INPUT: true; the input reads as it did. -/
def fnExactWordsSpec : ChangeSpec := { name := "fnExactWords", fn := fun _ => fun
  | [d] => { results := [.lit (.bool true)], args := [d] }
  | _ => none }
def fnExactWordsRow : OpenClaim := { program := "ytnjpamcjmlmeiaa", sum := "283d88e5ad9f526cae547310d6c9f8df780acc06cec6d10a3108a4a825f348e8", func := "loop.example/pub-digitsandbytes/laws.FnExactWords", spec := "fnExactWords", apart := false }
def FnExactWordsSaid : Prop := fnExactWordsRow.holds Try.pinned (OpenSpec.ofChange fnExactWordsSpec)

/-- ITS FALSE NEIGHBOUR: 'it returns false'. Refute it at one input. -/
def fnExactWordsWrong : ChangeSpec := { name := "fnExactWords", fn := fun _ => fun
  | [d] => { results := [.lit (.bool false)], args := [d] }
  | _ => none }
def FnExactWordsWrongFalsely : Prop := fnExactWordsRow.holds Try.pinned (OpenSpec.ofChange fnExactWordsWrong)

/-- 'laws.FnExactBytes': WHATEVER THE INPUT: true; the input reads as it did. -/
def fnExactBytesSpec : ChangeSpec := { name := "fnExactBytes", fn := fun _ => fun
  | [d1, d2] => { results := [.lit (.bool true)], args := [d1, d2] }
  | _ => none }
def fnExactBytesRow : OpenClaim := { program := "ytnjpamcjmlmeiaa", sum := "283d88e5ad9f526cae547310d6c9f8df780acc06cec6d10a3108a4a825f348e8", func := "loop.example/pub-digitsandbytes/laws.FnExactBytes", spec := "fnExactBytes", apart := false }
def FnExactBytesSaid : Prop := fnExactBytesRow.holds Try.pinned (OpenSpec.ofChange fnExactBytesSpec)

/-- ITS FALSE NEIGHBOUR: 'it returns false'. Refute it at one input. -/
def fnExactBytesWrong : ChangeSpec := { name := "fnExactBytes", fn := fun _ => fun
  | [d1, d2] => { results := [.lit (.bool false)], args := [d1, d2] }
  | _ => none }
def FnExactBytesWrongFalsely : Prop := fnExactBytesRow.holds Try.pinned (OpenSpec.ofChange fnExactBytesWrong)

/- THE SECOND FORM. 'bulk': how many values and letters a reading holds, each counted each time it is reached (what is shared counts as often as it is met; a slice's spare places count too). A statement '..UptoSaid' is the law's where the arguments, and the package variables that the reading takes, are together of bulk at most 1048576: NARROWER than '..Said'. Prove '..Said' where nothing that the law and all that it calls make is longer than what came in: it says more and counts as full. Else prove '..UptoSaid'. A law counts once. -/
mutual
def uptoBulk {H : Type} : DataW H → Nat
  | .lit (.string bytes) => bytes.length + 1
  | .lit _ => 1
  | .nil => 1
  | .ptr d => uptoBulk d + 1
  | .slice elems spare => uptoBulkAll elems + uptoBulkAll spare + 1
  | .agg parts => uptoBulkAll parts + 1
  | .iface _ d => uptoBulk d + 1
  | .map entries => uptoBulkEntries entries + 1
  | .held _ => 1
def uptoBulkAll {H : Type} : List (DataW H) → Nat
  | [] => 0
  | d :: r => uptoBulk d + uptoBulkAll r
def uptoBulkEntries {H : Type} : List (Lit × DataW H) → Nat
  | [] => 0
  | x :: r => uptoBulkEntry x + uptoBulkEntries r
def uptoBulkEntry {H : Type} : Lit × DataW H → Nat
  | (.string bytes, d) => bytes.length + uptoBulk d + 1
  | (_, d) => uptoBulk d + 1
 end
def uptoSmall : (H : Type) → List (DataW H) → Bool := fun _ ds => decide (uptoBulkAll ds ≤ 1048576)
def OpenSpec.upto (s : _root_.Go.ChangeSpec) : _root_.Go.OpenSpec := { _root_.Go.OpenSpec.ofChange s with cond := some uptoSmall }

/-- 'laws.FnExactHex', WHERE WHAT IT READS IS OF BULK AT MOST 1048576: true; the input reads as it did. -/
def fnExactHexUptoRow : OpenClaim := { program := "ytnjpamcjmlmeiaa", sum := "283d88e5ad9f526cae547310d6c9f8df780acc06cec6d10a3108a4a825f348e8", func := "loop.example/pub-digitsandbytes/laws.FnExactHex", spec := "fnExactHex", apart := false, narrowed := true }
def FnExactHexUptoSaid : Prop := fnExactHexUptoRow.holds Try.pinned (OpenSpec.upto fnExactHexSpec)

/-- 'laws.FnExactHexWords', WHERE WHAT IT READS IS OF BULK AT MOST 1048576: true; the input reads as it did. -/
def fnExactHexWordsUptoRow : OpenClaim := { program := "ytnjpamcjmlmeiaa", sum := "283d88e5ad9f526cae547310d6c9f8df780acc06cec6d10a3108a4a825f348e8", func := "loop.example/pub-digitsandbytes/laws.FnExactHexWords", spec := "fnExactHexWords", apart := false, narrowed := true }
def FnExactHexWordsUptoSaid : Prop := fnExactHexWordsUptoRow.holds Try.pinned (OpenSpec.upto fnExactHexWordsSpec)

/-- 'laws.FnExactWords', WHERE WHAT IT READS IS OF BULK AT MOST 1048576: true; the input reads as it did. -/
def fnExactWordsUptoRow : OpenClaim := { program := "ytnjpamcjmlmeiaa", sum := "283d88e5ad9f526cae547310d6c9f8df780acc06cec6d10a3108a4a825f348e8", func := "loop.example/pub-digitsandbytes/laws.FnExactWords", spec := "fnExactWords", apart := false, narrowed := true }
def FnExactWordsUptoSaid : Prop := fnExactWordsUptoRow.holds Try.pinned (OpenSpec.upto fnExactWordsSpec)

/-- 'laws.FnExactBytes', WHERE WHAT IT READS IS OF BULK AT MOST 1048576: true; the input reads as it did. -/
def fnExactBytesUptoRow : OpenClaim := { program := "ytnjpamcjmlmeiaa", sum := "283d88e5ad9f526cae547310d6c9f8df780acc06cec6d10a3108a4a825f348e8", func := "loop.example/pub-digitsandbytes/laws.FnExactBytes", spec := "fnExactBytes", apart := false, narrowed := true }
def FnExactBytesUptoSaid : Prop := fnExactBytesUptoRow.holds Try.pinned (OpenSpec.upto fnExactBytesSpec)

end Rows
end Go.Proofs.Ytnjpamcjmlmeiaa
