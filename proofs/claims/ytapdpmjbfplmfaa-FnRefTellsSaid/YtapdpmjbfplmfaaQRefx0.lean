-- written by a program of mine (wip/tools/myprint.py) for this claim. Not trusted: Lean checks it.
import Derived.Test.YtapdpmjbfplmfaaProg
import Derived.Below
import Derived.Deep.Draws
import Derived.Deep.AppendLies
import Derived.Maps.AppendAt
import Derived.OwnWalk
import Derived.Laws.BytesArg
import Derived.Laws.MakeOwn
import Derived.Laws.OwnMore
import Derived.Deep.OwnRows
import Derived.Tactics
import Derived.Lib.ConvBytes
import Derived.Laws.Slices
import Derived.WalkKit
import Derived.KernelRfl
import Derived.RowKit3
import Derived.Deep.LoopGhost
import Derived.Deep.QuietTactic
import Derived.BigQuiet
import Derived.WideLaws
import Derived.Deep.DeepCutAuto
import Derived.Deep.CutBlock
import Derived.Deep.RegionHeld3
import Derived.Laws.Rows
import Derived.Lib.AppendStr
import Derived.ArgAppend
import Derived.Laws.IdiomCopy
import Derived.OrdersHeld
import Derived.Laws.BitsLemmas
import Derived.RowKit
import Derived.Test.YtapdpmjbfplmfaaMyWords
import Derived.Test.YtapdpmjbfplmfaaRef
import Derived.Test.YtapdpmjbfplmfaaWWords
import Derived.Test.YtapdpmjbfplmfaaWLast
import Derived.Test.YtapdpmjbfplmfaaWTab
import Derived.Test.YtapdpmjbfplmfaaWFour
import Derived.Test.YtapdpmjbfplmfaaWQPut
import Derived.Test.YtapdpmjbfplmfaaWApart
import Derived.Test.YtapdpmjbfplmfaaWArr
import Derived.Test.YtapdpmjbfplmfaaWZeros
import Derived.Test.YtapdpmjbfplmfaaWFoot
import Derived.Test.YtapdpmjbfplmfaaWKept
import Derived.Test.YtapdpmjbfplmfaaWShare
import Derived.Test.YtapdpmjbfplmfaaWN
import Derived.Test.YtapdpmjbfplmfaaWFootNe
import Derived.Test.YtapdpmjbfplmfaaWAt
import Derived.Test.YtapdpmjbfplmfaaWEqStruct
import Derived.Test.YtapdpmjbfplmfaaWRepsOne
import Derived.Test.YtapdpmjbfplmfaaWInv
import Derived.Test.YtapdpmjbfplmfaaWInvWords
import Derived.Test.YtapdpmjbfplmfaaWGuard
import Derived.Test.YtapdpmjbfplmfaaWNEv
import Derived.Test.YtapdpmjbfplmfaaWMore
namespace Go.Proofs.Ytapdpmjbfplmfaa.QRef
open Go.RowKit Go.Proofs.YtapdpmjbfplmfaaW.PrintWords Go.Proofs.YtapdpmjbfplmfaaW.PrintLast Go.Proofs.YtapdpmjbfplmfaaW.PrintMore
attribute [local go_sem] max2_int min2_int max_two min_two max_three min_three max_four min_four   -- for this text's walks alone
set_option linter.unusedVariables false
set_option linter.unusedSimpArgs false



def errW : Option Int → Value
  | none => .nilIface
  | some c => .iface 0 (.int .i64 c)
theorem errW_none : errW none = .nilIface := rfl
theorem errW_some (c : Int) : errW (some c) = .iface 0 (.int .i64 c) := rfl

-- the values' own types
/-! #### struct type 34 -/
structure S34 where
  f0 : ByteArray
  f1 : ByteArray
  f2 : ByteArray
  f3 : ByteArray
def z34 : S34 := ⟨(⟨#[]⟩ : ByteArray), (⟨#[]⟩ : ByteArray), (⟨#[]⟩ : ByteArray), (⟨#[]⟩ : ByteArray)⟩
def k34 : Kd S34 := Kd.iso (Kd.pair Kd.string (Kd.pair Kd.string (Kd.pair Kd.string Kd.string))) (fun x : S34 => (x.f0, x.f1, x.f2, x.f3))
theorem k34_open {w : World} {x : S34} {cs : List Value} (h : k34.K w x cs) : cs = [.string x.f0, .string x.f1, .string x.f2, .string x.f3] := by
  obtain ⟨_, _, rfl, rfl, ⟨_, _, rfl, rfl, ⟨_, _, rfl, rfl, rfl⟩⟩⟩ := h
  exact rfl
theorem k34_openM {w : World} {base : Nat} {ok : Nat → Prop} {x : S34} {cs : List Value} (h : k34.M w base ok x cs) : cs = [.string x.f0, .string x.f1, .string x.f2, .string x.f3] := by
  obtain ⟨_, _, rfl, rfl, ⟨_, _, rfl, rfl, ⟨_, _, rfl, rfl, rfl⟩⟩⟩ := h
  exact rfl
theorem k34_mk (w : World) (x : S34)  : k34.K w x [.string x.f0, .string x.f1, .string x.f2, .string x.f3] := ⟨[.string x.f0], [.string x.f1, .string x.f2, .string x.f3], rfl, rfl, ⟨[.string x.f1], [.string x.f2, .string x.f3], rfl, rfl, ⟨[.string x.f2], [.string x.f3], rfl, rfl, rfl⟩⟩⟩
theorem k34_mkM (w : World) (base : Nat) (ok : Nat → Prop) (x : S34)  : k34.M w base ok x [.string x.f0, .string x.f1, .string x.f2, .string x.f3] := ⟨[.string x.f0], [.string x.f1, .string x.f2, .string x.f3], rfl, rfl, ⟨[.string x.f1], [.string x.f2, .string x.f3], rfl, rfl, ⟨[.string x.f2], [.string x.f3], rfl, rfl, rfl⟩⟩⟩
def rd_T34 (xs : List S34) (i : Int) : S34 := xs.getD i.toNat z34
theorem at_T34 {w : World} {A : Option Addr} {n : Nat} {xs : List S34} (h : Kd.C k34 w A n xs) (i : Int) (h0 : 0 ≤ i) (h1 : i < n) : ∃ ad , A = some ad ∧ w.cell? (ad.add (i.toNat * 4)) = some (.string (rd_T34 xs i).f0) ∧ w.cell? ⟨(ad.add (i.toNat * 4)).block, (ad.add (i.toNat * 4)).off + 1, none⟩ = some (.string (rd_T34 xs i).f1) ∧ w.cell? ⟨(ad.add (i.toNat * 4)).block, (ad.add (i.toNat * 4)).off + 2, none⟩ = some (.string (rd_T34 xs i).f2) ∧ w.cell? ⟨(ad.add (i.toNat * 4)).block, (ad.add (i.toNat * 4)).off + 3, none⟩ = some (.string (rd_T34 xs i).f3) := by
  obtain ⟨ad, c, e, _, hK, hc0⟩ := Kd.C_get h z34 i h0 h1
  have hc : ∀ j u, c[j]? = some u → w.cell? (ad.add (i.toNat * 4 + j)) = some u := hc0
  obtain rfl := k34_open hK
  exact ⟨ad, e, hc 0 _ rfl, by rw [← add_field _ _ 1 (by omega)]; exact hc 1 _ rfl, by rw [← add_field _ _ 2 (by omega)]; exact hc 2 _ rfl, by rw [← add_field _ _ 3 (by omega)]; exact hc 3 _ rfl⟩

end Go.Proofs.Ytapdpmjbfplmfaa.QRef
