/-
  No cell of these rows narrows 'for every input' (looked for: loops, veiled, ifaces, maps, wideKeys, modest, calm, conditions, laid).
  DERIVED. THE GIVEN ROWS OF THIS SEAT. 5 by the template 'for every input the law returns true; each argument reads behind the call as it read before'; 0 by the template 'total and deterministic' (their statements: YtcncniomjkjamaaTotals.lean).
  GIVEN WITH THE SEED: the statements are not yours to turn. If you find one false, say at which input.
  Laid BY PROGRAM, IN A SANDBOX (cutbox-rows.mjs): the forced cells as the released guide's own fill.sh prints them over the translation 276be621898235ca… (all of the seat's roots in one cut). By AI agents, Wed Nov 11 2026. No macro, syntax, notation, axiom, sorry.
-/
import Derived.Test.YtcncniomjkjamaaChecked
import GoSem.Claim
import GoSem.ClaimJoined
import GoSem.ClaimMapViews
import Derived.JoinedTies
import Derived.KernelRfl
namespace Go.Proofs.Ytcncniomjkjamaa
/- THE CELL 'sum', in the pinned program and in every row, IS THE sha256 OF THE DUMP (.gsa) THAT YtcncniomjkjamaaProg.lean LOADS. Nothing in Lean hashes anything: it is a label: what it is worth is what the hold of that sum in a sandbox is worth. -/
noncomputable def Try.pinned : Pinned := { name := "ytcncniomjkjamaa", sum := "276be621898235caabb5c58126c8414694980fef36387cdcc0ac07af046714c1", checked := Try.checked }
namespace Rows
def none {H : Type} : Left H := { results := [], args := [] }

/-- 'laws.FnAVName': WHATEVER THE INPUT: true; the input reads as it did. -/
def fnAVNameSpec : ChangeSpec := { name := "fnAVName", fn := fun _ => fun
  | [d1, d2] => { results := [.lit (.bool true)], args := [d1, d2] }
  | _ => none }
def fnAVNameRow : OpenClaim := { program := "ytcncniomjkjamaa", sum := "276be621898235caabb5c58126c8414694980fef36387cdcc0ac07af046714c1", func := "given.example/pub-whitesmith/laws.FnAVName", spec := "fnAVName", apart := false }
def FnAVNameSaid : Prop := fnAVNameRow.holds Try.pinned (OpenSpec.ofChange fnAVNameSpec)

/-- ITS FALSE NEIGHBOUR: 'it returns false'. Refute it at one input. -/
def fnAVNameWrong : ChangeSpec := { name := "fnAVName", fn := fun _ => fun
  | [d1, d2] => { results := [.lit (.bool false)], args := [d1, d2] }
  | _ => none }
def FnAVNameWrongFalsely : Prop := fnAVNameRow.holds Try.pinned (OpenSpec.ofChange fnAVNameWrong)

/-- 'laws.FnWRFloats': WHATEVER THE INPUT: true; the input reads as it did. -/
def fnWRFloatsSpec : ChangeSpec := { name := "fnWRFloats", fn := fun _ => fun
  | [d1, d2, d3] => { results := [.lit (.bool true)], args := [d1, d2, d3] }
  | _ => none }
def fnWRFloatsRow : OpenClaim := { program := "ytcncniomjkjamaa", sum := "276be621898235caabb5c58126c8414694980fef36387cdcc0ac07af046714c1", func := "given.example/pub-whitesmith/laws.FnWRFloats", spec := "fnWRFloats", inPlace := ["math.Float64frombits", "math.Float64bits", "math.Float32frombits", "math.Float32bits"], unfollowed := true, recurses := true, apart := false }
def FnWRFloatsSaid : Prop := fnWRFloatsRow.holds Try.pinned (OpenSpec.ofChange fnWRFloatsSpec)

/-- ITS FALSE NEIGHBOUR: 'it returns false'. Refute it at one input. -/
def fnWRFloatsWrong : ChangeSpec := { name := "fnWRFloats", fn := fun _ => fun
  | [d1, d2, d3] => { results := [.lit (.bool false)], args := [d1, d2, d3] }
  | _ => none }
def FnWRFloatsWrongFalsely : Prop := fnWRFloatsRow.holds Try.pinned (OpenSpec.ofChange fnWRFloatsWrong)

/-- 'laws.FnABLongs': WHATEVER THE INPUT: true; the input reads as it did. -/
def fnABLongsSpec : ChangeSpec := { name := "fnABLongs", fn := fun _ => fun
  | [d1, d2] => { results := [.lit (.bool true)], args := [d1, d2] }
  | _ => none }
def fnABLongsRow : OpenClaim := { program := "ytcncniomjkjamaa", sum := "276be621898235caabb5c58126c8414694980fef36387cdcc0ac07af046714c1", func := "given.example/pub-whitesmith/laws.FnABLongs", spec := "fnABLongs", unfollowed := true, recurses := true, apart := false }
def FnABLongsSaid : Prop := fnABLongsRow.holds Try.pinned (OpenSpec.ofChange fnABLongsSpec)

/-- ITS FALSE NEIGHBOUR: 'it returns false'. Refute it at one input. -/
def fnABLongsWrong : ChangeSpec := { name := "fnABLongs", fn := fun _ => fun
  | [d1, d2] => { results := [.lit (.bool false)], args := [d1, d2] }
  | _ => none }
def FnABLongsWrongFalsely : Prop := fnABLongsRow.holds Try.pinned (OpenSpec.ofChange fnABLongsWrong)

/-- 'laws.FnWRTexts': WHATEVER THE INPUT: true; the input reads as it did. -/
def fnWRTextsSpec : ChangeSpec := { name := "fnWRTexts", fn := fun _ => fun
  | [d1, d2] => { results := [.lit (.bool true)], args := [d1, d2] }
  | _ => none }
def fnWRTextsRow : OpenClaim := { program := "ytcncniomjkjamaa", sum := "276be621898235caabb5c58126c8414694980fef36387cdcc0ac07af046714c1", func := "given.example/pub-whitesmith/laws.FnWRTexts", spec := "fnWRTexts", unfollowed := true, recurses := true, apart := false }
def FnWRTextsSaid : Prop := fnWRTextsRow.holds Try.pinned (OpenSpec.ofChange fnWRTextsSpec)

/-- ITS FALSE NEIGHBOUR: 'it returns false'. Refute it at one input. -/
def fnWRTextsWrong : ChangeSpec := { name := "fnWRTexts", fn := fun _ => fun
  | [d1, d2] => { results := [.lit (.bool false)], args := [d1, d2] }
  | _ => none }
def FnWRTextsWrongFalsely : Prop := fnWRTextsRow.holds Try.pinned (OpenSpec.ofChange fnWRTextsWrong)

/-- 'laws.FnWRNumbers': WHATEVER THE INPUT: true; the input reads as it did. -/
def fnWRNumbersSpec : ChangeSpec := { name := "fnWRNumbers", fn := fun _ => fun
  | [d1, d2, d3, d4] => { results := [.lit (.bool true)], args := [d1, d2, d3, d4] }
  | _ => none }
def fnWRNumbersRow : OpenClaim := { program := "ytcncniomjkjamaa", sum := "276be621898235caabb5c58126c8414694980fef36387cdcc0ac07af046714c1", func := "given.example/pub-whitesmith/laws.FnWRNumbers", spec := "fnWRNumbers", unfollowed := true, recurses := true, apart := false }
def FnWRNumbersSaid : Prop := fnWRNumbersRow.holds Try.pinned (OpenSpec.ofChange fnWRNumbersSpec)

/-- ITS FALSE NEIGHBOUR: 'it returns false'. Refute it at one input. -/
def fnWRNumbersWrong : ChangeSpec := { name := "fnWRNumbers", fn := fun _ => fun
  | [d1, d2, d3, d4] => { results := [.lit (.bool false)], args := [d1, d2, d3, d4] }
  | _ => none }
def FnWRNumbersWrongFalsely : Prop := fnWRNumbersRow.holds Try.pinned (OpenSpec.ofChange fnWRNumbersWrong)

/- THE SECOND FORM. 'bulk': how many values and letters a reading holds, each counted each time it is reached (what is shared counts as often as it is met; a slice's spare places count too). A statement '..UptoSaid' is the law's where the arguments, and the package variables that the reading takes, are together of bulk at most 1048576: NARROWER than '..Said'. Prove '..Said' where nothing that the law and all that it calls make is longer than what came in: it says more and counts as full. Else prove '..UptoSaid'. A law counts once. -/
mutual
def uptoBulk {H : Type} : DataW H → Nat
  | .lit (.string bytes) => bytes.length + 1
  | .lit _ => 1
  | .nil => 1
  | .ptr d => uptoBulk d + 1
  | .slice elems spare => uptoBulkAll elems + uptoBulkAll spare + 1
  | .agg parts => uptoBulkAll parts + 1
  | .iface _ d => uptoBulk d + 1
  | .map entries => uptoBulkEntries entries + 1
  | .held _ => 1
def uptoBulkAll {H : Type} : List (DataW H) → Nat
  | [] => 0
  | d :: r => uptoBulk d + uptoBulkAll r
def uptoBulkEntries {H : Type} : List (Lit × DataW H) → Nat
  | [] => 0
  | x :: r => uptoBulkEntry x + uptoBulkEntries r
def uptoBulkEntry {H : Type} : Lit × DataW H → Nat
  | (.string bytes, d) => bytes.length + uptoBulk d + 1
  | (_, d) => uptoBulk d + 1
 end
def uptoSmall : (H : Type) → List (DataW H) → Bool := fun _ ds => decide (uptoBulkAll ds ≤ 1048576)
def OpenSpec.upto (s : _root_.Go.ChangeSpec) : _root_.Go.OpenSpec := { _root_.Go.OpenSpec.ofChange s with cond := some uptoSmall }

/-- 'laws.FnAVName', WHERE WHAT IT READS IS OF BULK AT MOST 1048576: true; the input reads as it did. -/
def fnAVNameUptoRow : OpenClaim := { program := "ytcncniomjkjamaa", sum := "276be621898235caabb5c58126c8414694980fef36387cdcc0ac07af046714c1", func := "given.example/pub-whitesmith/laws.FnAVName", spec := "fnAVName", apart := false, narrowed := true }
def FnAVNameUptoSaid : Prop := fnAVNameUptoRow.holds Try.pinned (OpenSpec.upto fnAVNameSpec)

/-- 'laws.FnWRFloats', WHERE WHAT IT READS IS OF BULK AT MOST 1048576: true; the input reads as it did. -/
def fnWRFloatsUptoRow : OpenClaim := { program := "ytcncniomjkjamaa", sum := "276be621898235caabb5c58126c8414694980fef36387cdcc0ac07af046714c1", func := "given.example/pub-whitesmith/laws.FnWRFloats", spec := "fnWRFloats", inPlace := ["math.Float64frombits", "math.Float64bits", "math.Float32frombits", "math.Float32bits"], unfollowed := true, recurses := true, apart := false, narrowed := true }
def FnWRFloatsUptoSaid : Prop := fnWRFloatsUptoRow.holds Try.pinned (OpenSpec.upto fnWRFloatsSpec)

/-- 'laws.FnABLongs', WHERE WHAT IT READS IS OF BULK AT MOST 1048576: true; the input reads as it did. -/
def fnABLongsUptoRow : OpenClaim := { program := "ytcncniomjkjamaa", sum := "276be621898235caabb5c58126c8414694980fef36387cdcc0ac07af046714c1", func := "given.example/pub-whitesmith/laws.FnABLongs", spec := "fnABLongs", unfollowed := true, recurses := true, apart := false, narrowed := true }
def FnABLongsUptoSaid : Prop := fnABLongsUptoRow.holds Try.pinned (OpenSpec.upto fnABLongsSpec)

/-- 'laws.FnWRTexts', WHERE WHAT IT READS IS OF BULK AT MOST 1048576: true; the input reads as it did. -/
def fnWRTextsUptoRow : OpenClaim := { program := "ytcncniomjkjamaa", sum := "276be621898235caabb5c58126c8414694980fef36387cdcc0ac07af046714c1", func := "given.example/pub-whitesmith/laws.FnWRTexts", spec := "fnWRTexts", unfollowed := true, recurses := true, apart := false, narrowed := true }
def FnWRTextsUptoSaid : Prop := fnWRTextsUptoRow.holds Try.pinned (OpenSpec.upto fnWRTextsSpec)

/-- 'laws.FnWRNumbers', WHERE WHAT IT READS IS OF BULK AT MOST 1048576: true; the input reads as it did. -/
def fnWRNumbersUptoRow : OpenClaim := { program := "ytcncniomjkjamaa", sum := "276be621898235caabb5c58126c8414694980fef36387cdcc0ac07af046714c1", func := "given.example/pub-whitesmith/laws.FnWRNumbers", spec := "fnWRNumbers", unfollowed := true, recurses := true, apart := false, narrowed := true }
def FnWRNumbersUptoSaid : Prop := fnWRNumbersUptoRow.holds Try.pinned (OpenSpec.upto fnWRNumbersSpec)

end Rows
end Go.Proofs.Ytcncniomjkjamaa
