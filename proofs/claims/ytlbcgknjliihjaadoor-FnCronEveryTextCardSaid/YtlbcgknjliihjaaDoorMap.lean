/-
  The map of units: what it reads as; a look-up in it.
-/
import Derived.Test.YtlbcgknjliihjaaDoorQKx1
import Derived.Maps.Own
import Derived.Maps.OwnOps
import Derived.Maps.OwnSet
set_option linter.unusedVariables false
set_option linter.unusedSimpArgs false
namespace Go.Maps
/-- an entry of a map literal, at the operation -/
theorem wpList_insert_own {H : Type} {P : Program} (w : World) {ops : Array Oper} {rest : List Oper} {o : Oper} {a : Act} {Q : Exit → Act → World → Prop}
    (hg : o.guard = none) (m x v : Operand) (t : TypeId) (hop : o.op = Op.insert t m x v)
    (k e : TypeId) (K : Keyed P k) (ht : P.underlying t = some (.map k e)) (R : Value → Option (DataW H × List MemPlace)) (b n : Nat) (D : DataW H)
    (hm : a.eval m = .map (some b)) (hown : w.ownsMap P k R b n D) (hn : n < maxLen) (key val : Value) (kl : Lit) (hx : a.eval x = key) (hv : a.eval v = val) (hkey : keyOf P k key = some kl)
    (d : DataW H) (ps : List MemPlace) (hval : R val = some (d, ps))
    (hK : ∀ w', w'.ownsMap P k R b (n + 1) (D.put kl d) → w.grownBy w' (some b) → wpList P ops Q rest (a.put o.dst undef) w') :
    wpList P ops Q (o :: rest) a w := by
  refine wpList_plain hg fun K' hK' => ?_
  obtain ⟨w', hrun, r1, r2⟩ := hown.update K ht hn hkey hval
  unfold Oper.wp
  simp [execOp, hop, hm, hx, hv, hrun, Result.andThen]
  exact hK' _ _ (hK w' r1 r2)
end Go.Maps
namespace Go.Proofs.YtlbcgknjliihjaaDoor
open Go Go.Maps Go.RowKit Go.Proofs.YtlbcgknjliihjaaDoorW.PrintWords Go.Proofs.YtlbcgknjliihjaaDoorW.PrintLast
theorem law9 : Keyed Tryd.prog 9 := string_keyed Tryd.underlying9
/-- the key's datum -/
abbrev kd (l : List UInt8) : Lit := .string l
theorem key9 (s : ByteArray) (l : List UInt8) (h : s.data.toList = l) (hs : s.size ≤ 100) : keyOf Tryd.prog 9 (.string s) = some (.string l) := by
  subst h
  exact Go.WideMaps.keyOf_string_mk Tryd.underlying9 (by unfold maxLen; omega)
def D0 : DataW Unit := .map []
def put (D : DataW Unit) (l : List UInt8) (n : Int) : DataW Unit := D.put (.string l) (.lit (.int .u64 n))
def D8 : DataW Unit := put (put (put (put (put (put (put (put D0 [110, 115] 1) [117, 115] 1000) [194, 181, 115] 1000) [206, 188, 115] 1000) [109, 115] 1000000) [115] 1000000000) [109] 60000000000) [104] 3600000000000
abbrev Owns (w : World) (b n : Nat) (D : DataW Unit) : Prop := w.ownsMap Tryd.prog 9 (plainElem Tryd.prog 26) b n D
theorem pe (n : Int) (h : (Lit.int .u64 n).wf = true) : plainElem (H := Unit) Tryd.prog 26 (.int .u64 n) = some (.lit (.int .u64 n), []) := plainElem_int Tryd.underlying26 h
set_option maxHeartbeats 4000000 in
set_option maxRecDepth 100000 in
theorem units46 (w : World) : Calls Tryd.prog 46 #[] w fun e w' => ∃ B, e = .returned (.map (some B)) ∧ Owns w' B 8 D8 ∧ Below w.heap.size w w' := by
  have hmm := @run_makeMap Tryd.prog
  have ho0 : Owns (w.alloc (.map #[] 0)) w.heap.size 0 D0 := World.ownsMap_made _ _ _ _
  have hb0 : Below w.heap.size w (w.alloc (.map #[] 0)) := (Below.refl _ _).alloc (Nat.le_refl _) _
  go_enter Tryd.func46, Tryd.ntmps46
  go_wp2_with (refine wpList_insert_own _ rfl _ _ _ 96 rfl 9 26 law9 Tryd.underlying96 _ w.heap.size 0 _ rfl ho0 (by decide) _ _ _ rfl rfl (key9 ⟨#[110, 115]⟩ [110, 115] rfl (by decide)) _ [] (pe 1 (by decide)) ?_)
  intro w1 ho1 hg1
  have hb1 := hb0.grown hg1 hb0.size (fun j hj => by cases hj; exact Nat.le_refl _)
  clear ho0 hg1 hb0
  go_wp2_with (refine wpList_insert_own _ rfl _ _ _ 96 rfl 9 26 law9 Tryd.underlying96 _ w.heap.size 1 _ rfl ho1 (by decide) _ _ _ rfl rfl (key9 ⟨#[117, 115]⟩ [117, 115] rfl (by decide)) _ [] (pe 1000 (by decide)) ?_)
  intro w2 ho2 hg2
  have hb2 := hb1.grown hg2 hb1.size (fun j hj => by cases hj; exact Nat.le_refl _)
  clear ho1 hg2 hb1
  go_wp2_with (refine wpList_insert_own _ rfl _ _ _ 96 rfl 9 26 law9 Tryd.underlying96 _ w.heap.size 2 _ rfl ho2 (by decide) _ _ _ rfl rfl (key9 ⟨#[194, 181, 115]⟩ [194, 181, 115] rfl (by decide)) _ [] (pe 1000 (by decide)) ?_)
  intro w3 ho3 hg3
  have hb3 := hb2.grown hg3 hb2.size (fun j hj => by cases hj; exact Nat.le_refl _)
  clear ho2 hg3 hb2
  go_wp2_with (refine wpList_insert_own _ rfl _ _ _ 96 rfl 9 26 law9 Tryd.underlying96 _ w.heap.size 3 _ rfl ho3 (by decide) _ _ _ rfl rfl (key9 ⟨#[206, 188, 115]⟩ [206, 188, 115] rfl (by decide)) _ [] (pe 1000 (by decide)) ?_)
  intro w4 ho4 hg4
  have hb4 := hb3.grown hg4 hb3.size (fun j hj => by cases hj; exact Nat.le_refl _)
  clear ho3 hg4 hb3
  go_wp2_with (refine wpList_insert_own _ rfl _ _ _ 96 rfl 9 26 law9 Tryd.underlying96 _ w.heap.size 4 _ rfl ho4 (by decide) _ _ _ rfl rfl (key9 ⟨#[109, 115]⟩ [109, 115] rfl (by decide)) _ [] (pe 1000000 (by decide)) ?_)
  intro w5 ho5 hg5
  have hb5 := hb4.grown hg5 hb4.size (fun j hj => by cases hj; exact Nat.le_refl _)
  clear ho4 hg5 hb4
  go_wp2_with (refine wpList_insert_own _ rfl _ _ _ 96 rfl 9 26 law9 Tryd.underlying96 _ w.heap.size 5 _ rfl ho5 (by decide) _ _ _ rfl rfl (key9 ⟨#[115]⟩ [115] rfl (by decide)) _ [] (pe 1000000000 (by decide)) ?_)
  intro w6 ho6 hg6
  have hb6 := hb5.grown hg6 hb5.size (fun j hj => by cases hj; exact Nat.le_refl _)
  clear ho5 hg6 hb5
  go_wp2_with (refine wpList_insert_own _ rfl _ _ _ 96 rfl 9 26 law9 Tryd.underlying96 _ w.heap.size 6 _ rfl ho6 (by decide) _ _ _ rfl rfl (key9 ⟨#[109]⟩ [109] rfl (by decide)) _ [] (pe 60000000000 (by decide)) ?_)
  intro w7 ho7 hg7
  have hb7 := hb6.grown hg7 hb6.size (fun j hj => by cases hj; exact Nat.le_refl _)
  clear ho6 hg7 hb6
  go_wp2_with (refine wpList_insert_own _ rfl _ _ _ 96 rfl 9 26 law9 Tryd.underlying96 _ w.heap.size 7 _ rfl ho7 (by decide) _ _ _ rfl rfl (key9 ⟨#[104]⟩ [104] rfl (by decide)) _ [] (pe 3600000000000 (by decide)) ?_)
  intro w8 ho8 hg8
  have hb8 := hb7.grown hg8 hb7.size (fun j hj => by cases hj; exact Nat.le_refl _)
  clear ho7 hg8 hb7
  go_wp2
  go_ret
  exact ⟨_, rfl, ho8, hb8⟩
/-- the units of the texts, and how many nanoseconds one is -/
def unitL : Nat → List UInt8
  | 0 => [104] | 1 => [109] | 2 => [115] | 3 => [109, 115] | 4 => [117, 115] | _ => [110, 115]
def unitV : Nat → Int
  | 0 => 3600000000000 | 1 => 60000000000 | 2 => 1000000000 | 3 => 1000000 | 4 => 1000 | _ => 1
theorem unit_at (u : Nat) : D8.atKey (.string (unitL u)) (.lit (.int .u64 0)) = .lit (.int .u64 (unitV u)) := by
  match u with
  | 0 => rfl
  | 1 => rfl
  | 2 => rfl
  | 3 => rfl
  | 4 => rfl
  | _ + 5 => rfl
theorem unit_has (u : Nat) : Maps.has D8 (.string (unitL u)) = true := by
  match u with
  | 0 => rfl
  | 1 => rfl
  | 2 => rfl
  | 3 => rfl
  | 4 => rfl
  | _ + 5 => rfl
theorem zero26 (w : World) : (zeroValue 26).run Tryd.prog w = .ok (.int .u64 0) w := by kernel_rfl
end Go.Proofs.YtlbcgknjliihjaaDoor
