/-
  No cell of these rows narrows 'for every input' (looked for: loops, veiled, ifaces, maps, wideKeys, modest, calm, conditions, laid).
  DERIVED. THE GIVEN ROWS OF THIS SEAT. 6 by the template 'for every input the law returns true; each argument reads behind the call as it read before'; 0 by the template 'total and deterministic' (their statements: YtapdpmjbfplmfaaTotals.lean).
  GIVEN WITH THE SEED: the statements are not yours to turn. If you find one false, say at which input.
  Laid BY PROGRAM, IN A SANDBOX (cutbox-rows.mjs): the forced cells as the released guide's own fill.sh prints them over the translation deb146a20f1dba78… (all of the seat's roots in one cut). By AI agents, Wed Nov 11 2026. No macro, syntax, notation, axiom, sorry.
-/
import Derived.Test.YtapdpmjbfplmfaaChecked
import GoSem.Claim
import GoSem.ClaimJoined
import GoSem.ClaimMapViews
import Derived.JoinedTies
import Derived.KernelRfl
namespace Go.Proofs.Ytapdpmjbfplmfaa
/- THE CELL 'sum', in the pinned program and in every row, IS THE sha256 OF THE DUMP (.gsa) THAT YtapdpmjbfplmfaaProg.lean LOADS. Nothing in Lean hashes anything: it is a label: what it is worth is what the hold of that sum in a sandbox is worth. -/
noncomputable def Try.pinned : Pinned := { name := "ytapdpmjbfplmfaa", sum := "deb146a20f1dba78718fff70e76b10cad4c071825830c0a83e9b2debbe888c74", checked := Try.checked }
namespace Rows
def none {H : Type} : Left H := { results := [], args := [] }

/-- 'laws.FnCronBitsApart': WHATEVER THE INPUT: true; the input reads as it did. -/
def fnCronBitsApartSpec : ChangeSpec := { name := "fnCronBitsApart", fn := fun _ => fun
  | [d1, d2, d3] => { results := [.lit (.bool true)], args := [d1, d2, d3] }
  | _ => none }
def fnCronBitsApartRow : OpenClaim := { program := "ytapdpmjbfplmfaa", sum := "deb146a20f1dba78718fff70e76b10cad4c071825830c0a83e9b2debbe888c74", func := "pub-timebook/laws.FnCronBitsApart", spec := "fnCronBitsApart", apart := false }
def FnCronBitsApartSaid : Prop := fnCronBitsApartRow.holds Try.pinned (OpenSpec.ofChange fnCronBitsApartSpec)

/-- ITS FALSE NEIGHBOUR: 'it returns false'. Refute it at one input. -/
def fnCronBitsApartWrong : ChangeSpec := { name := "fnCronBitsApart", fn := fun _ => fun
  | [d1, d2, d3] => { results := [.lit (.bool false)], args := [d1, d2, d3] }
  | _ => none }
def FnCronBitsApartWrongFalsely : Prop := fnCronBitsApartRow.holds Try.pinned (OpenSpec.ofChange fnCronBitsApartWrong)

/-- 'laws.FnCronBitsCount': WHATEVER THE INPUT: true; the input reads as it did. -/
def fnCronBitsCountSpec : ChangeSpec := { name := "fnCronBitsCount", fn := fun _ => fun
  | [d1, d2, d3] => { results := [.lit (.bool true)], args := [d1, d2, d3] }
  | _ => none }
def fnCronBitsCountRow : OpenClaim := { program := "ytapdpmjbfplmfaa", sum := "deb146a20f1dba78718fff70e76b10cad4c071825830c0a83e9b2debbe888c74", func := "pub-timebook/laws.FnCronBitsCount", spec := "fnCronBitsCount", apart := false }
def FnCronBitsCountSaid : Prop := fnCronBitsCountRow.holds Try.pinned (OpenSpec.ofChange fnCronBitsCountSpec)

/-- ITS FALSE NEIGHBOUR: 'it returns false'. Refute it at one input. -/
def fnCronBitsCountWrong : ChangeSpec := { name := "fnCronBitsCount", fn := fun _ => fun
  | [d1, d2, d3] => { results := [.lit (.bool false)], args := [d1, d2, d3] }
  | _ => none }
def FnCronBitsCountWrongFalsely : Prop := fnCronBitsCountRow.holds Try.pinned (OpenSpec.ofChange fnCronBitsCountWrong)

/-- 'laws.FnDigestFromSum': WHATEVER THE INPUT: true; the input reads as it did. -/
def fnDigestFromSumSpec : ChangeSpec := { name := "fnDigestFromSum", fn := fun _ => fun
  | [d1, d2] => { results := [.lit (.bool true)], args := [d1, d2] }
  | _ => none }
def fnDigestFromSumRow : OpenClaim := { program := "ytapdpmjbfplmfaa", sum := "deb146a20f1dba78718fff70e76b10cad4c071825830c0a83e9b2debbe888c74", func := "pub-timebook/laws.FnDigestFromSum", spec := "fnDigestFromSum", apart := false }
def FnDigestFromSumSaid : Prop := fnDigestFromSumRow.holds Try.pinned (OpenSpec.ofChange fnDigestFromSumSpec)

/-- ITS FALSE NEIGHBOUR: 'it returns false'. Refute it at one input. -/
def fnDigestFromSumWrong : ChangeSpec := { name := "fnDigestFromSum", fn := fun _ => fun
  | [d1, d2] => { results := [.lit (.bool false)], args := [d1, d2] }
  | _ => none }
def FnDigestFromSumWrongFalsely : Prop := fnDigestFromSumRow.holds Try.pinned (OpenSpec.ofChange fnDigestFromSumWrong)

/-- 'laws.FnChainJoins': WHATEVER THE INPUT: true; the input reads as it did. -/
def fnChainJoinsSpec : ChangeSpec := { name := "fnChainJoins", fn := fun _ => fun
  | [d1, d2] => { results := [.lit (.bool true)], args := [d1, d2] }
  | _ => none }
def fnChainJoinsRow : OpenClaim := { program := "ytapdpmjbfplmfaa", sum := "deb146a20f1dba78718fff70e76b10cad4c071825830c0a83e9b2debbe888c74", func := "pub-timebook/laws.FnChainJoins", spec := "fnChainJoins", unfollowed := true, recurses := true, apart := false }
def FnChainJoinsSaid : Prop := fnChainJoinsRow.holds Try.pinned (OpenSpec.ofChange fnChainJoinsSpec)

/-- ITS FALSE NEIGHBOUR: 'it returns false'. Refute it at one input. -/
def fnChainJoinsWrong : ChangeSpec := { name := "fnChainJoins", fn := fun _ => fun
  | [d1, d2] => { results := [.lit (.bool false)], args := [d1, d2] }
  | _ => none }
def FnChainJoinsWrongFalsely : Prop := fnChainJoinsRow.holds Try.pinned (OpenSpec.ofChange fnChainJoinsWrong)

/-- 'laws.FnRefTells': WHATEVER THE INPUT: true; the input reads as it did. -/
def fnRefTellsSpec : ChangeSpec := { name := "fnRefTells", fn := fun _ => fun
  | [d] => { results := [.lit (.bool true)], args := [d] }
  | _ => none }
def fnRefTellsRow : OpenClaim := { program := "ytapdpmjbfplmfaa", sum := "deb146a20f1dba78718fff70e76b10cad4c071825830c0a83e9b2debbe888c74", func := "pub-timebook/laws.FnRefTells", spec := "fnRefTells", unfollowed := true, recurses := true, apart := false }
def FnRefTellsSaid : Prop := fnRefTellsRow.holds Try.pinned (OpenSpec.ofChange fnRefTellsSpec)

/-- ITS FALSE NEIGHBOUR: 'it returns false'. Refute it at one input. -/
def fnRefTellsWrong : ChangeSpec := { name := "fnRefTells", fn := fun _ => fun
  | [d] => { results := [.lit (.bool false)], args := [d] }
  | _ => none }
def FnRefTellsWrongFalsely : Prop := fnRefTellsRow.holds Try.pinned (OpenSpec.ofChange fnRefTellsWrong)

/-- 'laws.FnSemverSwapped': WHATEVER THE INPUT: true; the input reads as it did. -/
def fnSemverSwappedSpec : ChangeSpec := { name := "fnSemverSwapped", fn := fun _ => fun
  | [d1, d2, d3] => { results := [.lit (.bool true)], args := [d1, d2, d3] }
  | _ => none }
def fnSemverSwappedRow : OpenClaim := { program := "ytapdpmjbfplmfaa", sum := "deb146a20f1dba78718fff70e76b10cad4c071825830c0a83e9b2debbe888c74", func := "pub-timebook/laws.FnSemverSwapped", spec := "fnSemverSwapped", apart := false }
def FnSemverSwappedSaid : Prop := fnSemverSwappedRow.holds Try.pinned (OpenSpec.ofChange fnSemverSwappedSpec)

/-- ITS FALSE NEIGHBOUR: 'it returns false'. Refute it at one input. -/
def fnSemverSwappedWrong : ChangeSpec := { name := "fnSemverSwapped", fn := fun _ => fun
  | [d1, d2, d3] => { results := [.lit (.bool false)], args := [d1, d2, d3] }
  | _ => none }
def FnSemverSwappedWrongFalsely : Prop := fnSemverSwappedRow.holds Try.pinned (OpenSpec.ofChange fnSemverSwappedWrong)

/- THE SECOND FORM. 'bulk': how many values and letters a reading holds, each counted each time it is reached (what is shared counts as often as it is met; a slice's spare places count too). A statement '..UptoSaid' is the law's where the arguments, and the package variables that the reading takes, are together of bulk at most 1048576: NARROWER than '..Said'. Prove '..Said' where nothing that the law and all that it calls make is longer than what came in: it says more and counts as full. Else prove '..UptoSaid'. A law counts once. -/
mutual
def uptoBulk {H : Type} : DataW H → Nat
  | .lit (.string bytes) => bytes.length + 1
  | .lit _ => 1
  | .nil => 1
  | .ptr d => uptoBulk d + 1
  | .slice elems spare => uptoBulkAll elems + uptoBulkAll spare + 1
  | .agg parts => uptoBulkAll parts + 1
  | .iface _ d => uptoBulk d + 1
  | .map entries => uptoBulkEntries entries + 1
  | .held _ => 1
def uptoBulkAll {H : Type} : List (DataW H) → Nat
  | [] => 0
  | d :: r => uptoBulk d + uptoBulkAll r
def uptoBulkEntries {H : Type} : List (Lit × DataW H) → Nat
  | [] => 0
  | x :: r => uptoBulkEntry x + uptoBulkEntries r
def uptoBulkEntry {H : Type} : Lit × DataW H → Nat
  | (.string bytes, d) => bytes.length + uptoBulk d + 1
  | (_, d) => uptoBulk d + 1
 end
def uptoSmall : (H : Type) → List (DataW H) → Bool := fun _ ds => decide (uptoBulkAll ds ≤ 1048576)
def OpenSpec.upto (s : _root_.Go.ChangeSpec) : _root_.Go.OpenSpec := { _root_.Go.OpenSpec.ofChange s with cond := some uptoSmall }

/-- 'laws.FnCronBitsApart', WHERE WHAT IT READS IS OF BULK AT MOST 1048576: true; the input reads as it did. -/
def fnCronBitsApartUptoRow : OpenClaim := { program := "ytapdpmjbfplmfaa", sum := "deb146a20f1dba78718fff70e76b10cad4c071825830c0a83e9b2debbe888c74", func := "pub-timebook/laws.FnCronBitsApart", spec := "fnCronBitsApart", apart := false, narrowed := true }
def FnCronBitsApartUptoSaid : Prop := fnCronBitsApartUptoRow.holds Try.pinned (OpenSpec.upto fnCronBitsApartSpec)

/-- 'laws.FnCronBitsCount', WHERE WHAT IT READS IS OF BULK AT MOST 1048576: true; the input reads as it did. -/
def fnCronBitsCountUptoRow : OpenClaim := { program := "ytapdpmjbfplmfaa", sum := "deb146a20f1dba78718fff70e76b10cad4c071825830c0a83e9b2debbe888c74", func := "pub-timebook/laws.FnCronBitsCount", spec := "fnCronBitsCount", apart := false, narrowed := true }
def FnCronBitsCountUptoSaid : Prop := fnCronBitsCountUptoRow.holds Try.pinned (OpenSpec.upto fnCronBitsCountSpec)

/-- 'laws.FnDigestFromSum', WHERE WHAT IT READS IS OF BULK AT MOST 1048576: true; the input reads as it did. -/
def fnDigestFromSumUptoRow : OpenClaim := { program := "ytapdpmjbfplmfaa", sum := "deb146a20f1dba78718fff70e76b10cad4c071825830c0a83e9b2debbe888c74", func := "pub-timebook/laws.FnDigestFromSum", spec := "fnDigestFromSum", apart := false, narrowed := true }
def FnDigestFromSumUptoSaid : Prop := fnDigestFromSumUptoRow.holds Try.pinned (OpenSpec.upto fnDigestFromSumSpec)

/-- 'laws.FnChainJoins', WHERE WHAT IT READS IS OF BULK AT MOST 1048576: true; the input reads as it did. -/
def fnChainJoinsUptoRow : OpenClaim := { program := "ytapdpmjbfplmfaa", sum := "deb146a20f1dba78718fff70e76b10cad4c071825830c0a83e9b2debbe888c74", func := "pub-timebook/laws.FnChainJoins", spec := "fnChainJoins", unfollowed := true, recurses := true, apart := false, narrowed := true }
def FnChainJoinsUptoSaid : Prop := fnChainJoinsUptoRow.holds Try.pinned (OpenSpec.upto fnChainJoinsSpec)

/-- 'laws.FnRefTells', WHERE WHAT IT READS IS OF BULK AT MOST 1048576: true; the input reads as it did. -/
def fnRefTellsUptoRow : OpenClaim := { program := "ytapdpmjbfplmfaa", sum := "deb146a20f1dba78718fff70e76b10cad4c071825830c0a83e9b2debbe888c74", func := "pub-timebook/laws.FnRefTells", spec := "fnRefTells", unfollowed := true, recurses := true, apart := false, narrowed := true }
def FnRefTellsUptoSaid : Prop := fnRefTellsUptoRow.holds Try.pinned (OpenSpec.upto fnRefTellsSpec)

/-- 'laws.FnSemverSwapped', WHERE WHAT IT READS IS OF BULK AT MOST 1048576: true; the input reads as it did. -/
def fnSemverSwappedUptoRow : OpenClaim := { program := "ytapdpmjbfplmfaa", sum := "deb146a20f1dba78718fff70e76b10cad4c071825830c0a83e9b2debbe888c74", func := "pub-timebook/laws.FnSemverSwapped", spec := "fnSemverSwapped", apart := false, narrowed := true }
def FnSemverSwappedUptoSaid : Prop := fnSemverSwappedUptoRow.holds Try.pinned (OpenSpec.upto fnSemverSwappedSpec)

end Rows
end Go.Proofs.Ytapdpmjbfplmfaa
