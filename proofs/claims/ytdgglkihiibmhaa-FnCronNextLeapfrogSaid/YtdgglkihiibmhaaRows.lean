/-
  No cell of these rows narrows 'for every input' (looked for: loops, veiled, ifaces, maps, wideKeys, modest, calm, conditions, laid).
  DERIVED. THE GIVEN ROWS OF THIS SEAT. 5 by the template 'for every input the law returns true; each argument reads behind the call as it read before'; 0 by the template 'total and deterministic' (their statements: YtdgglkihiibmhaaTotals.lean).
  GIVEN WITH THE SEED: the statements are not yours to turn. If you find one false, say at which input.
  Laid BY PROGRAM, IN A SANDBOX (cutbox-rows.mjs): the forced cells as the released guide's own fill.sh prints them over the translation e476be42f9dc15b7… (all of the seat's roots in one cut). By AI agents, Wed Nov 11 2026. No macro, syntax, notation, axiom, sorry.
-/
import Derived.Test.YtdgglkihiibmhaaChecked
import GoSem.Claim
import GoSem.ClaimJoined
import GoSem.ClaimMapViews
import Derived.JoinedTies
import Derived.KernelRfl
namespace Go.Proofs.Ytdgglkihiibmhaa
/- THE CELL 'sum', in the pinned program and in every row, IS THE sha256 OF THE DUMP (.gsa) THAT YtdgglkihiibmhaaProg.lean LOADS. Nothing in Lean hashes anything: it is a label: what it is worth is what the hold of that sum in a sandbox is worth. -/
noncomputable def Try.pinned : Pinned := { name := "ytdgglkihiibmhaa", sum := "e476be42f9dc15b755d6c70eac9503155450e40de653eeb2aeff4d457ed7bedb", checked := Try.checked }
namespace Rows
def none {H : Type} : Left H := { results := [], args := [] }

/-- 'laws.FnCronDelayNext': WHATEVER THE INPUT: true; the input reads as it did. -/
def fnCronDelayNextSpec : ChangeSpec := { name := "fnCronDelayNext", fn := fun _ => fun
  | [d1, d2] => { results := [.lit (.bool true)], args := [d1, d2] }
  | _ => none }
def fnCronDelayNextRow : OpenClaim := { program := "ytdgglkihiibmhaa", sum := "e476be42f9dc15b755d6c70eac9503155450e40de653eeb2aeff4d457ed7bedb", func := "pub-timebook/laws.FnCronDelayNext", spec := "fnCronDelayNext", unfollowed := true, recurses := true, apart := false }
def FnCronDelayNextSaid : Prop := fnCronDelayNextRow.holds Try.pinned (OpenSpec.ofChange fnCronDelayNextSpec)

/-- ITS FALSE NEIGHBOUR: 'it returns false'. Refute it at one input. -/
def fnCronDelayNextWrong : ChangeSpec := { name := "fnCronDelayNext", fn := fun _ => fun
  | [d1, d2] => { results := [.lit (.bool false)], args := [d1, d2] }
  | _ => none }
def FnCronDelayNextWrongFalsely : Prop := fnCronDelayNextRow.holds Try.pinned (OpenSpec.ofChange fnCronDelayNextWrong)

/-- 'laws.FnCronAlone': WHATEVER THE INPUT: true; the input reads as it did. -/
def fnCronAloneSpec : ChangeSpec := { name := "fnCronAlone", fn := fun _ => fun
  | [d1, d2] => { results := [.lit (.bool true)], args := [d1, d2] }
  | _ => none }
def fnCronAloneRow : OpenClaim := { program := "ytdgglkihiibmhaa", sum := "e476be42f9dc15b755d6c70eac9503155450e40de653eeb2aeff4d457ed7bedb", func := "pub-timebook/laws.FnCronAlone", spec := "fnCronAlone", unfollowed := true, recurses := true, apart := false }
def FnCronAloneSaid : Prop := fnCronAloneRow.holds Try.pinned (OpenSpec.ofChange fnCronAloneSpec)

/-- ITS FALSE NEIGHBOUR: 'it returns false'. Refute it at one input. -/
def fnCronAloneWrong : ChangeSpec := { name := "fnCronAlone", fn := fun _ => fun
  | [d1, d2] => { results := [.lit (.bool false)], args := [d1, d2] }
  | _ => none }
def FnCronAloneWrongFalsely : Prop := fnCronAloneRow.holds Try.pinned (OpenSpec.ofChange fnCronAloneWrong)

/-- 'laws.FnCronNextLeapfrog': WHATEVER THE INPUT: true; the input reads as it did. -/
def fnCronNextLeapfrogSpec : ChangeSpec := { name := "fnCronNextLeapfrog", fn := fun _ => fun
  | [d1, d2, d3, d4, d5] => { results := [.lit (.bool true)], args := [d1, d2, d3, d4, d5] }
  | _ => none }
def fnCronNextLeapfrogRow : OpenClaim := { program := "ytdgglkihiibmhaa", sum := "e476be42f9dc15b755d6c70eac9503155450e40de653eeb2aeff4d457ed7bedb", func := "pub-timebook/laws.FnCronNextLeapfrog", spec := "fnCronNextLeapfrog", unfollowed := true, recurses := true, apart := false }
def FnCronNextLeapfrogSaid : Prop := fnCronNextLeapfrogRow.holds Try.pinned (OpenSpec.ofChange fnCronNextLeapfrogSpec)

/-- ITS FALSE NEIGHBOUR: 'it returns false'. Refute it at one input. -/
def fnCronNextLeapfrogWrong : ChangeSpec := { name := "fnCronNextLeapfrog", fn := fun _ => fun
  | [d1, d2, d3, d4, d5] => { results := [.lit (.bool false)], args := [d1, d2, d3, d4, d5] }
  | _ => none }
def FnCronNextLeapfrogWrongFalsely : Prop := fnCronNextLeapfrogRow.holds Try.pinned (OpenSpec.ofChange fnCronNextLeapfrogWrong)

/-- 'laws.FnCronNextNarrower': WHATEVER THE INPUT: true; the input reads as it did. -/
def fnCronNextNarrowerSpec : ChangeSpec := { name := "fnCronNextNarrower", fn := fun _ => fun
  | [d1, d2, d3] => { results := [.lit (.bool true)], args := [d1, d2, d3] }
  | _ => none }
def fnCronNextNarrowerRow : OpenClaim := { program := "ytdgglkihiibmhaa", sum := "e476be42f9dc15b755d6c70eac9503155450e40de653eeb2aeff4d457ed7bedb", func := "pub-timebook/laws.FnCronNextNarrower", spec := "fnCronNextNarrower", unfollowed := true, recurses := true, apart := false }
def FnCronNextNarrowerSaid : Prop := fnCronNextNarrowerRow.holds Try.pinned (OpenSpec.ofChange fnCronNextNarrowerSpec)

/-- ITS FALSE NEIGHBOUR: 'it returns false'. Refute it at one input. -/
def fnCronNextNarrowerWrong : ChangeSpec := { name := "fnCronNextNarrower", fn := fun _ => fun
  | [d1, d2, d3] => { results := [.lit (.bool false)], args := [d1, d2, d3] }
  | _ => none }
def FnCronNextNarrowerWrongFalsely : Prop := fnCronNextNarrowerRow.holds Try.pinned (OpenSpec.ofChange fnCronNextNarrowerWrong)

/-- 'laws.FnCronNextReached': WHATEVER THE INPUT: true; the input reads as it did. -/
def fnCronNextReachedSpec : ChangeSpec := { name := "fnCronNextReached", fn := fun _ => fun
  | [d1, d2, d3] => { results := [.lit (.bool true)], args := [d1, d2, d3] }
  | _ => none }
def fnCronNextReachedRow : OpenClaim := { program := "ytdgglkihiibmhaa", sum := "e476be42f9dc15b755d6c70eac9503155450e40de653eeb2aeff4d457ed7bedb", func := "pub-timebook/laws.FnCronNextReached", spec := "fnCronNextReached", unfollowed := true, recurses := true, apart := false }
def FnCronNextReachedSaid : Prop := fnCronNextReachedRow.holds Try.pinned (OpenSpec.ofChange fnCronNextReachedSpec)

/-- ITS FALSE NEIGHBOUR: 'it returns false'. Refute it at one input. -/
def fnCronNextReachedWrong : ChangeSpec := { name := "fnCronNextReached", fn := fun _ => fun
  | [d1, d2, d3] => { results := [.lit (.bool false)], args := [d1, d2, d3] }
  | _ => none }
def FnCronNextReachedWrongFalsely : Prop := fnCronNextReachedRow.holds Try.pinned (OpenSpec.ofChange fnCronNextReachedWrong)

/- THE SECOND FORM. 'bulk': how many values and letters a reading holds, each counted each time it is reached (what is shared counts as often as it is met; a slice's spare places count too). A statement '..UptoSaid' is the law's where the arguments, and the package variables that the reading takes, are together of bulk at most 1048576: NARROWER than '..Said'. Prove '..Said' where nothing that the law and all that it calls make is longer than what came in: it says more and counts as full. Else prove '..UptoSaid'. A law counts once. -/
mutual
def uptoBulk {H : Type} : DataW H → Nat
  | .lit (.string bytes) => bytes.length + 1
  | .lit _ => 1
  | .nil => 1
  | .ptr d => uptoBulk d + 1
  | .slice elems spare => uptoBulkAll elems + uptoBulkAll spare + 1
  | .agg parts => uptoBulkAll parts + 1
  | .iface _ d => uptoBulk d + 1
  | .map entries => uptoBulkEntries entries + 1
  | .held _ => 1
def uptoBulkAll {H : Type} : List (DataW H) → Nat
  | [] => 0
  | d :: r => uptoBulk d + uptoBulkAll r
def uptoBulkEntries {H : Type} : List (Lit × DataW H) → Nat
  | [] => 0
  | x :: r => uptoBulkEntry x + uptoBulkEntries r
def uptoBulkEntry {H : Type} : Lit × DataW H → Nat
  | (.string bytes, d) => bytes.length + uptoBulk d + 1
  | (_, d) => uptoBulk d + 1
 end
def uptoSmall : (H : Type) → List (DataW H) → Bool := fun _ ds => decide (uptoBulkAll ds ≤ 1048576)
def OpenSpec.upto (s : _root_.Go.ChangeSpec) : _root_.Go.OpenSpec := { _root_.Go.OpenSpec.ofChange s with cond := some uptoSmall }

/-- 'laws.FnCronDelayNext', WHERE WHAT IT READS IS OF BULK AT MOST 1048576: true; the input reads as it did. -/
def fnCronDelayNextUptoRow : OpenClaim := { program := "ytdgglkihiibmhaa", sum := "e476be42f9dc15b755d6c70eac9503155450e40de653eeb2aeff4d457ed7bedb", func := "pub-timebook/laws.FnCronDelayNext", spec := "fnCronDelayNext", unfollowed := true, recurses := true, apart := false, narrowed := true }
def FnCronDelayNextUptoSaid : Prop := fnCronDelayNextUptoRow.holds Try.pinned (OpenSpec.upto fnCronDelayNextSpec)

/-- 'laws.FnCronAlone', WHERE WHAT IT READS IS OF BULK AT MOST 1048576: true; the input reads as it did. -/
def fnCronAloneUptoRow : OpenClaim := { program := "ytdgglkihiibmhaa", sum := "e476be42f9dc15b755d6c70eac9503155450e40de653eeb2aeff4d457ed7bedb", func := "pub-timebook/laws.FnCronAlone", spec := "fnCronAlone", unfollowed := true, recurses := true, apart := false, narrowed := true }
def FnCronAloneUptoSaid : Prop := fnCronAloneUptoRow.holds Try.pinned (OpenSpec.upto fnCronAloneSpec)

/-- 'laws.FnCronNextLeapfrog', WHERE WHAT IT READS IS OF BULK AT MOST 1048576: true; the input reads as it did. -/
def fnCronNextLeapfrogUptoRow : OpenClaim := { program := "ytdgglkihiibmhaa", sum := "e476be42f9dc15b755d6c70eac9503155450e40de653eeb2aeff4d457ed7bedb", func := "pub-timebook/laws.FnCronNextLeapfrog", spec := "fnCronNextLeapfrog", unfollowed := true, recurses := true, apart := false, narrowed := true }
def FnCronNextLeapfrogUptoSaid : Prop := fnCronNextLeapfrogUptoRow.holds Try.pinned (OpenSpec.upto fnCronNextLeapfrogSpec)

/-- 'laws.FnCronNextNarrower', WHERE WHAT IT READS IS OF BULK AT MOST 1048576: true; the input reads as it did. -/
def fnCronNextNarrowerUptoRow : OpenClaim := { program := "ytdgglkihiibmhaa", sum := "e476be42f9dc15b755d6c70eac9503155450e40de653eeb2aeff4d457ed7bedb", func := "pub-timebook/laws.FnCronNextNarrower", spec := "fnCronNextNarrower", unfollowed := true, recurses := true, apart := false, narrowed := true }
def FnCronNextNarrowerUptoSaid : Prop := fnCronNextNarrowerUptoRow.holds Try.pinned (OpenSpec.upto fnCronNextNarrowerSpec)

/-- 'laws.FnCronNextReached', WHERE WHAT IT READS IS OF BULK AT MOST 1048576: true; the input reads as it did. -/
def fnCronNextReachedUptoRow : OpenClaim := { program := "ytdgglkihiibmhaa", sum := "e476be42f9dc15b755d6c70eac9503155450e40de653eeb2aeff4d457ed7bedb", func := "pub-timebook/laws.FnCronNextReached", spec := "fnCronNextReached", unfollowed := true, recurses := true, apart := false, narrowed := true }
def FnCronNextReachedUptoSaid : Prop := fnCronNextReachedUptoRow.holds Try.pinned (OpenSpec.upto fnCronNextReachedSpec)

end Rows
end Go.Proofs.Ytdgglkihiibmhaa
