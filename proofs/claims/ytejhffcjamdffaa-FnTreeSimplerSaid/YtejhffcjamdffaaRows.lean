/-
  NARROWER THAN 'FOR EVERY INPUT', by the rows' own cells (each row's printed sentence says how): FnTreeGroups: loops · FnTreeNames: loops · FnTreeSame: loops · FnTreeSimpler: loops.
  DERIVED. THE GIVEN ROWS OF THIS SEAT. 11 by the template 'for every input the law returns true; each argument reads behind the call as it read before'; 0 by the template 'total and deterministic' (their statements: YtejhffcjamdffaaTotals.lean).
  GIVEN WITH THE SEED: the statements are not yours to turn. If you find one false, say at which input.
  Laid BY PROGRAM, IN A SANDBOX (cutbox-rows.mjs): the forced cells as the released guide's own fill.sh prints them over the translation 713a67419013475e… (all of the seat's roots in one cut). By AI agents, Wed Nov 11 2026. No macro, syntax, notation, axiom, sorry.
-/
import Derived.Test.YtejhffcjamdffaaChecked
import GoSem.Claim
import GoSem.ClaimJoined
import GoSem.ClaimMapViews
import Derived.JoinedTies
import Derived.KernelRfl
namespace Go.Proofs.Ytejhffcjamdffaa
/- THE CELL 'sum', in the pinned program and in every row, IS THE sha256 OF THE DUMP (.gsa) THAT YtejhffcjamdffaaProg.lean LOADS. Nothing in Lean hashes anything: it is a label: what it is worth is what the hold of that sum in a sandbox is worth. -/
noncomputable def Try.pinned : Pinned := { name := "ytejhffcjamdffaa", sum := "713a67419013475efeaba11416558ca848448c43310de4fdc6fe2a25263a5923", checked := Try.checked }
namespace Rows
def none {H : Type} : Left H := { results := [], args := [] }

/-- 'laws.FnWord': WHATEVER THE INPUT: true; the input reads as it did. -/
def fnWordSpec : ChangeSpec := { name := "fnWord", fn := fun _ => fun
  | [d] => { results := [.lit (.bool true)], args := [d] }
  | _ => none }
def fnWordRow : OpenClaim := { program := "ytejhffcjamdffaa", sum := "713a67419013475efeaba11416558ca848448c43310de4fdc6fe2a25263a5923", func := "loop.example/pub-g03126/laws.FnWord", spec := "fnWord", apart := false }
def FnWordSaid : Prop := fnWordRow.holds Try.pinned (OpenSpec.ofChange fnWordSpec)

/-- ITS FALSE NEIGHBOUR: 'it returns false'. Refute it at one input. -/
def fnWordWrong : ChangeSpec := { name := "fnWord", fn := fun _ => fun
  | [d] => { results := [.lit (.bool false)], args := [d] }
  | _ => none }
def FnWordWrongFalsely : Prop := fnWordRow.holds Try.pinned (OpenSpec.ofChange fnWordWrong)

/-- 'laws.FnContext': WHATEVER THE INPUT: true; the input reads as it did. -/
def fnContextSpec : ChangeSpec := { name := "fnContext", fn := fun _ => fun
  | [d1, d2] => { results := [.lit (.bool true)], args := [d1, d2] }
  | _ => none }
def fnContextRow : OpenClaim := { program := "ytejhffcjamdffaa", sum := "713a67419013475efeaba11416558ca848448c43310de4fdc6fe2a25263a5923", func := "loop.example/pub-g03126/laws.FnContext", spec := "fnContext", apart := false }
def FnContextSaid : Prop := fnContextRow.holds Try.pinned (OpenSpec.ofChange fnContextSpec)

/-- ITS FALSE NEIGHBOUR: 'it returns false'. Refute it at one input. -/
def fnContextWrong : ChangeSpec := { name := "fnContext", fn := fun _ => fun
  | [d1, d2] => { results := [.lit (.bool false)], args := [d1, d2] }
  | _ => none }
def FnContextWrongFalsely : Prop := fnContextRow.holds Try.pinned (OpenSpec.ofChange fnContextWrong)

/-- 'laws.FnTakesNothing': WHATEVER THE INPUT: true; the input reads as it did. -/
def fnTakesNothingSpec : ChangeSpec := { name := "fnTakesNothing", fn := fun _ => fun
  | [d1, d2, d3] => { results := [.lit (.bool true)], args := [d1, d2, d3] }
  | _ => none }
def fnTakesNothingRow : OpenClaim := { program := "ytejhffcjamdffaa", sum := "713a67419013475efeaba11416558ca848448c43310de4fdc6fe2a25263a5923", func := "loop.example/pub-g03126/laws.FnTakesNothing", spec := "fnTakesNothing", apart := false }
def FnTakesNothingSaid : Prop := fnTakesNothingRow.holds Try.pinned (OpenSpec.ofChange fnTakesNothingSpec)

/-- ITS FALSE NEIGHBOUR: 'it returns false'. Refute it at one input. -/
def fnTakesNothingWrong : ChangeSpec := { name := "fnTakesNothing", fn := fun _ => fun
  | [d1, d2, d3] => { results := [.lit (.bool false)], args := [d1, d2, d3] }
  | _ => none }
def FnTakesNothingWrongFalsely : Prop := fnTakesNothingRow.holds Try.pinned (OpenSpec.ofChange fnTakesNothingWrong)

/-- 'laws.FnProgramConds': WHATEVER THE INPUT: true; the input reads as it did. -/
def fnProgramCondsSpec : ChangeSpec := { name := "fnProgramConds", fn := fun _ => fun
  | [d1, d2] => { results := [.lit (.bool true)], args := [d1, d2] }
  | _ => none }
def fnProgramCondsRow : OpenClaim := { program := "ytejhffcjamdffaa", sum := "713a67419013475efeaba11416558ca848448c43310de4fdc6fe2a25263a5923", func := "loop.example/pub-g03126/laws.FnProgramConds", spec := "fnProgramConds", apart := false }
def FnProgramCondsSaid : Prop := fnProgramCondsRow.holds Try.pinned (OpenSpec.ofChange fnProgramCondsSpec)

/-- ITS FALSE NEIGHBOUR: 'it returns false'. Refute it at one input. -/
def fnProgramCondsWrong : ChangeSpec := { name := "fnProgramConds", fn := fun _ => fun
  | [d1, d2] => { results := [.lit (.bool false)], args := [d1, d2] }
  | _ => none }
def FnProgramCondsWrongFalsely : Prop := fnProgramCondsRow.holds Try.pinned (OpenSpec.ofChange fnProgramCondsWrong)

/-- 'laws.FnTreeGroups': WHATEVER THE INPUT: true; the input reads as it did. -/
def fnTreeGroupsSpec : ChangeSpec := { name := "fnTreeGroups", fn := fun _ => fun
  | [d] => { results := [.lit (.bool true)], args := [d] }
  | _ => none }
def fnTreeGroupsRow : OpenClaim := { program := "ytejhffcjamdffaa", sum := "713a67419013475efeaba11416558ca848448c43310de4fdc6fe2a25263a5923", func := "loop.example/pub-g03126/laws.FnTreeGroups", spec := "fnTreeGroups", unfollowed := true, recurses := true, loops := true, apart := false }
def FnTreeGroupsSaid : Prop := fnTreeGroupsRow.holds Try.pinned (OpenSpec.ofChange fnTreeGroupsSpec)

/-- ITS FALSE NEIGHBOUR: 'it returns false'. Refute it at one input. -/
def fnTreeGroupsWrong : ChangeSpec := { name := "fnTreeGroups", fn := fun _ => fun
  | [d] => { results := [.lit (.bool false)], args := [d] }
  | _ => none }
def FnTreeGroupsWrongFalsely : Prop := fnTreeGroupsRow.holds Try.pinned (OpenSpec.ofChange fnTreeGroupsWrong)

/-- 'laws.FnProgramCond': WHATEVER THE INPUT: true; the input reads as it did. -/
def fnProgramCondSpec : ChangeSpec := { name := "fnProgramCond", fn := fun _ => fun
  | [d1, d2, d3, d4] => { results := [.lit (.bool true)], args := [d1, d2, d3, d4] }
  | _ => none }
def fnProgramCondRow : OpenClaim := { program := "ytejhffcjamdffaa", sum := "713a67419013475efeaba11416558ca848448c43310de4fdc6fe2a25263a5923", func := "loop.example/pub-g03126/laws.FnProgramCond", spec := "fnProgramCond", unfollowed := true, recurses := true, apart := false }
def FnProgramCondSaid : Prop := fnProgramCondRow.holds Try.pinned (OpenSpec.ofChange fnProgramCondSpec)

/-- ITS FALSE NEIGHBOUR: 'it returns false'. Refute it at one input. -/
def fnProgramCondWrong : ChangeSpec := { name := "fnProgramCond", fn := fun _ => fun
  | [d1, d2, d3, d4] => { results := [.lit (.bool false)], args := [d1, d2, d3, d4] }
  | _ => none }
def FnProgramCondWrongFalsely : Prop := fnProgramCondRow.holds Try.pinned (OpenSpec.ofChange fnProgramCondWrong)

/-- 'laws.FnTreeNames': WHATEVER THE INPUT: true; the input reads as it did. -/
def fnTreeNamesSpec : ChangeSpec := { name := "fnTreeNames", fn := fun _ => fun
  | [d] => { results := [.lit (.bool true)], args := [d] }
  | _ => none }
def fnTreeNamesRow : OpenClaim := { program := "ytejhffcjamdffaa", sum := "713a67419013475efeaba11416558ca848448c43310de4fdc6fe2a25263a5923", func := "loop.example/pub-g03126/laws.FnTreeNames", spec := "fnTreeNames", unfollowed := true, recurses := true, loops := true, apart := false }
def FnTreeNamesSaid : Prop := fnTreeNamesRow.holds Try.pinned (OpenSpec.ofChange fnTreeNamesSpec)

/-- ITS FALSE NEIGHBOUR: 'it returns false'. Refute it at one input. -/
def fnTreeNamesWrong : ChangeSpec := { name := "fnTreeNames", fn := fun _ => fun
  | [d] => { results := [.lit (.bool false)], args := [d] }
  | _ => none }
def FnTreeNamesWrongFalsely : Prop := fnTreeNamesRow.holds Try.pinned (OpenSpec.ofChange fnTreeNamesWrong)

/-- 'laws.FnTreeSame': WHATEVER THE INPUT: true; the input reads as it did. -/
def fnTreeSameSpec : ChangeSpec := { name := "fnTreeSame", fn := fun _ => fun
  | [d1, d2] => { results := [.lit (.bool true)], args := [d1, d2] }
  | _ => none }
def fnTreeSameRow : OpenClaim := { program := "ytejhffcjamdffaa", sum := "713a67419013475efeaba11416558ca848448c43310de4fdc6fe2a25263a5923", func := "loop.example/pub-g03126/laws.FnTreeSame", spec := "fnTreeSame", unfollowed := true, recurses := true, loops := true, apart := false }
def FnTreeSameSaid : Prop := fnTreeSameRow.holds Try.pinned (OpenSpec.ofChange fnTreeSameSpec)

/-- ITS FALSE NEIGHBOUR: 'it returns false'. Refute it at one input. -/
def fnTreeSameWrong : ChangeSpec := { name := "fnTreeSame", fn := fun _ => fun
  | [d1, d2] => { results := [.lit (.bool false)], args := [d1, d2] }
  | _ => none }
def FnTreeSameWrongFalsely : Prop := fnTreeSameRow.holds Try.pinned (OpenSpec.ofChange fnTreeSameWrong)

/-- 'laws.FnProgramLiteral': WHATEVER THE INPUT: true; the input reads as it did. -/
def fnProgramLiteralSpec : ChangeSpec := { name := "fnProgramLiteral", fn := fun _ => fun
  | [d] => { results := [.lit (.bool true)], args := [d] }
  | _ => none }
def fnProgramLiteralRow : OpenClaim := { program := "ytejhffcjamdffaa", sum := "713a67419013475efeaba11416558ca848448c43310de4fdc6fe2a25263a5923", func := "loop.example/pub-g03126/laws.FnProgramLiteral", spec := "fnProgramLiteral", inPlace := ["internal/abi.NoEscape"], unfollowed := true, recurses := true, apart := false }
def FnProgramLiteralSaid : Prop := fnProgramLiteralRow.holds Try.pinned (OpenSpec.ofChange fnProgramLiteralSpec)

/-- ITS FALSE NEIGHBOUR: 'it returns false'. Refute it at one input. -/
def fnProgramLiteralWrong : ChangeSpec := { name := "fnProgramLiteral", fn := fun _ => fun
  | [d] => { results := [.lit (.bool false)], args := [d] }
  | _ => none }
def FnProgramLiteralWrongFalsely : Prop := fnProgramLiteralRow.holds Try.pinned (OpenSpec.ofChange fnProgramLiteralWrong)

/-- 'laws.FnProgramPrefix': WHATEVER THE INPUT: true; the input reads as it did. -/
def fnProgramPrefixSpec : ChangeSpec := { name := "fnProgramPrefix", fn := fun _ => fun
  | [d1, d2, d3, d4] => { results := [.lit (.bool true)], args := [d1, d2, d3, d4] }
  | _ => none }
def fnProgramPrefixRow : OpenClaim := { program := "ytejhffcjamdffaa", sum := "713a67419013475efeaba11416558ca848448c43310de4fdc6fe2a25263a5923", func := "loop.example/pub-g03126/laws.FnProgramPrefix", spec := "fnProgramPrefix", inPlace := ["internal/abi.NoEscape"], unfollowed := true, recurses := true, apart := false }
def FnProgramPrefixSaid : Prop := fnProgramPrefixRow.holds Try.pinned (OpenSpec.ofChange fnProgramPrefixSpec)

/-- ITS FALSE NEIGHBOUR: 'it returns false'. Refute it at one input. -/
def fnProgramPrefixWrong : ChangeSpec := { name := "fnProgramPrefix", fn := fun _ => fun
  | [d1, d2, d3, d4] => { results := [.lit (.bool false)], args := [d1, d2, d3, d4] }
  | _ => none }
def FnProgramPrefixWrongFalsely : Prop := fnProgramPrefixRow.holds Try.pinned (OpenSpec.ofChange fnProgramPrefixWrong)

/-- 'laws.FnTreeSimpler': WHATEVER THE INPUT: true; the input reads as it did. -/
def fnTreeSimplerSpec : ChangeSpec := { name := "fnTreeSimpler", fn := fun _ => fun
  | [d] => { results := [.lit (.bool true)], args := [d] }
  | _ => none }
def fnTreeSimplerRow : OpenClaim := { program := "ytejhffcjamdffaa", sum := "713a67419013475efeaba11416558ca848448c43310de4fdc6fe2a25263a5923", func := "loop.example/pub-g03126/laws.FnTreeSimpler", spec := "fnTreeSimpler", unfollowed := true, recurses := true, loops := true, apart := false }
def FnTreeSimplerSaid : Prop := fnTreeSimplerRow.holds Try.pinned (OpenSpec.ofChange fnTreeSimplerSpec)

/-- ITS FALSE NEIGHBOUR: 'it returns false'. Refute it at one input. -/
def fnTreeSimplerWrong : ChangeSpec := { name := "fnTreeSimpler", fn := fun _ => fun
  | [d] => { results := [.lit (.bool false)], args := [d] }
  | _ => none }
def FnTreeSimplerWrongFalsely : Prop := fnTreeSimplerRow.holds Try.pinned (OpenSpec.ofChange fnTreeSimplerWrong)

/- THE SECOND FORM. 'bulk': how many values and letters a reading holds, each counted each time it is reached (what is shared counts as often as it is met; a slice's spare places count too). A statement '..UptoSaid' is the law's where the arguments, and the package variables that the reading takes, are together of bulk at most 1048576: NARROWER than '..Said'. Prove '..Said' where nothing that the law and all that it calls make is longer than what came in: it says more and counts as full. Else prove '..UptoSaid'. A law counts once. -/
mutual
def uptoBulk {H : Type} : DataW H → Nat
  | .lit (.string bytes) => bytes.length + 1
  | .lit _ => 1
  | .nil => 1
  | .ptr d => uptoBulk d + 1
  | .slice elems spare => uptoBulkAll elems + uptoBulkAll spare + 1
  | .agg parts => uptoBulkAll parts + 1
  | .iface _ d => uptoBulk d + 1
  | .map entries => uptoBulkEntries entries + 1
  | .held _ => 1
def uptoBulkAll {H : Type} : List (DataW H) → Nat
  | [] => 0
  | d :: r => uptoBulk d + uptoBulkAll r
def uptoBulkEntries {H : Type} : List (Lit × DataW H) → Nat
  | [] => 0
  | x :: r => uptoBulkEntry x + uptoBulkEntries r
def uptoBulkEntry {H : Type} : Lit × DataW H → Nat
  | (.string bytes, d) => bytes.length + uptoBulk d + 1
  | (_, d) => uptoBulk d + 1
 end
def uptoSmall : (H : Type) → List (DataW H) → Bool := fun _ ds => decide (uptoBulkAll ds ≤ 1048576)
def OpenSpec.upto (s : _root_.Go.ChangeSpec) : _root_.Go.OpenSpec := { _root_.Go.OpenSpec.ofChange s with cond := some uptoSmall }

/-- 'laws.FnWord', WHERE WHAT IT READS IS OF BULK AT MOST 1048576: true; the input reads as it did. -/
def fnWordUptoRow : OpenClaim := { program := "ytejhffcjamdffaa", sum := "713a67419013475efeaba11416558ca848448c43310de4fdc6fe2a25263a5923", func := "loop.example/pub-g03126/laws.FnWord", spec := "fnWord", apart := false, narrowed := true }
def FnWordUptoSaid : Prop := fnWordUptoRow.holds Try.pinned (OpenSpec.upto fnWordSpec)

/-- 'laws.FnContext', WHERE WHAT IT READS IS OF BULK AT MOST 1048576: true; the input reads as it did. -/
def fnContextUptoRow : OpenClaim := { program := "ytejhffcjamdffaa", sum := "713a67419013475efeaba11416558ca848448c43310de4fdc6fe2a25263a5923", func := "loop.example/pub-g03126/laws.FnContext", spec := "fnContext", apart := false, narrowed := true }
def FnContextUptoSaid : Prop := fnContextUptoRow.holds Try.pinned (OpenSpec.upto fnContextSpec)

/-- 'laws.FnTakesNothing', WHERE WHAT IT READS IS OF BULK AT MOST 1048576: true; the input reads as it did. -/
def fnTakesNothingUptoRow : OpenClaim := { program := "ytejhffcjamdffaa", sum := "713a67419013475efeaba11416558ca848448c43310de4fdc6fe2a25263a5923", func := "loop.example/pub-g03126/laws.FnTakesNothing", spec := "fnTakesNothing", apart := false, narrowed := true }
def FnTakesNothingUptoSaid : Prop := fnTakesNothingUptoRow.holds Try.pinned (OpenSpec.upto fnTakesNothingSpec)

/-- 'laws.FnProgramConds', WHERE WHAT IT READS IS OF BULK AT MOST 1048576: true; the input reads as it did. -/
def fnProgramCondsUptoRow : OpenClaim := { program := "ytejhffcjamdffaa", sum := "713a67419013475efeaba11416558ca848448c43310de4fdc6fe2a25263a5923", func := "loop.example/pub-g03126/laws.FnProgramConds", spec := "fnProgramConds", apart := false, narrowed := true }
def FnProgramCondsUptoSaid : Prop := fnProgramCondsUptoRow.holds Try.pinned (OpenSpec.upto fnProgramCondsSpec)

/-- 'laws.FnTreeGroups', WHERE WHAT IT READS IS OF BULK AT MOST 1048576: true; the input reads as it did. -/
def fnTreeGroupsUptoRow : OpenClaim := { program := "ytejhffcjamdffaa", sum := "713a67419013475efeaba11416558ca848448c43310de4fdc6fe2a25263a5923", func := "loop.example/pub-g03126/laws.FnTreeGroups", spec := "fnTreeGroups", unfollowed := true, recurses := true, loops := true, apart := false, narrowed := true }
def FnTreeGroupsUptoSaid : Prop := fnTreeGroupsUptoRow.holds Try.pinned (OpenSpec.upto fnTreeGroupsSpec)

/-- 'laws.FnProgramCond', WHERE WHAT IT READS IS OF BULK AT MOST 1048576: true; the input reads as it did. -/
def fnProgramCondUptoRow : OpenClaim := { program := "ytejhffcjamdffaa", sum := "713a67419013475efeaba11416558ca848448c43310de4fdc6fe2a25263a5923", func := "loop.example/pub-g03126/laws.FnProgramCond", spec := "fnProgramCond", unfollowed := true, recurses := true, apart := false, narrowed := true }
def FnProgramCondUptoSaid : Prop := fnProgramCondUptoRow.holds Try.pinned (OpenSpec.upto fnProgramCondSpec)

/-- 'laws.FnTreeNames', WHERE WHAT IT READS IS OF BULK AT MOST 1048576: true; the input reads as it did. -/
def fnTreeNamesUptoRow : OpenClaim := { program := "ytejhffcjamdffaa", sum := "713a67419013475efeaba11416558ca848448c43310de4fdc6fe2a25263a5923", func := "loop.example/pub-g03126/laws.FnTreeNames", spec := "fnTreeNames", unfollowed := true, recurses := true, loops := true, apart := false, narrowed := true }
def FnTreeNamesUptoSaid : Prop := fnTreeNamesUptoRow.holds Try.pinned (OpenSpec.upto fnTreeNamesSpec)

/-- 'laws.FnTreeSame', WHERE WHAT IT READS IS OF BULK AT MOST 1048576: true; the input reads as it did. -/
def fnTreeSameUptoRow : OpenClaim := { program := "ytejhffcjamdffaa", sum := "713a67419013475efeaba11416558ca848448c43310de4fdc6fe2a25263a5923", func := "loop.example/pub-g03126/laws.FnTreeSame", spec := "fnTreeSame", unfollowed := true, recurses := true, loops := true, apart := false, narrowed := true }
def FnTreeSameUptoSaid : Prop := fnTreeSameUptoRow.holds Try.pinned (OpenSpec.upto fnTreeSameSpec)

/-- 'laws.FnProgramLiteral', WHERE WHAT IT READS IS OF BULK AT MOST 1048576: true; the input reads as it did. -/
def fnProgramLiteralUptoRow : OpenClaim := { program := "ytejhffcjamdffaa", sum := "713a67419013475efeaba11416558ca848448c43310de4fdc6fe2a25263a5923", func := "loop.example/pub-g03126/laws.FnProgramLiteral", spec := "fnProgramLiteral", inPlace := ["internal/abi.NoEscape"], unfollowed := true, recurses := true, apart := false, narrowed := true }
def FnProgramLiteralUptoSaid : Prop := fnProgramLiteralUptoRow.holds Try.pinned (OpenSpec.upto fnProgramLiteralSpec)

/-- 'laws.FnProgramPrefix', WHERE WHAT IT READS IS OF BULK AT MOST 1048576: true; the input reads as it did. -/
def fnProgramPrefixUptoRow : OpenClaim := { program := "ytejhffcjamdffaa", sum := "713a67419013475efeaba11416558ca848448c43310de4fdc6fe2a25263a5923", func := "loop.example/pub-g03126/laws.FnProgramPrefix", spec := "fnProgramPrefix", inPlace := ["internal/abi.NoEscape"], unfollowed := true, recurses := true, apart := false, narrowed := true }
def FnProgramPrefixUptoSaid : Prop := fnProgramPrefixUptoRow.holds Try.pinned (OpenSpec.upto fnProgramPrefixSpec)

/-- 'laws.FnTreeSimpler', WHERE WHAT IT READS IS OF BULK AT MOST 1048576: true; the input reads as it did. -/
def fnTreeSimplerUptoRow : OpenClaim := { program := "ytejhffcjamdffaa", sum := "713a67419013475efeaba11416558ca848448c43310de4fdc6fe2a25263a5923", func := "loop.example/pub-g03126/laws.FnTreeSimpler", spec := "fnTreeSimpler", unfollowed := true, recurses := true, loops := true, apart := false, narrowed := true }
def FnTreeSimplerUptoSaid : Prop := fnTreeSimplerUptoRow.holds Try.pinned (OpenSpec.upto fnTreeSimplerSpec)

end Rows
end Go.Proofs.Ytejhffcjamdffaa
