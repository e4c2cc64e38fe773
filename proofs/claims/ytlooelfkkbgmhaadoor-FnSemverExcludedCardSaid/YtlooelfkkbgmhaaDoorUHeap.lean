-- the print's words (print.sh) on kinds that look at nothing but the blocks, put together by a program of mine. Not trusted: Lean checks it.
import Derived.Test.YtlooelfkkbgmhaaDoorU
namespace Go.Proofs.YtlooelfkkbgmhaaDoorW.PrintWords
open Go.RowKit
namespace Kd
theorem heap_scalar {α : Type} {enc : α → Value} {h1 : ∀ x, (enc x).oneCell' = true} : Heap (scalar enc h1) := ⟨fun _ h => h⟩
theorem heap_int (k : IntKind) : Heap (Kd.int k) := ⟨fun _ h => h⟩
theorem heap_bool : Heap Kd.bool := ⟨fun _ h => h⟩
theorem heap_string : Heap Kd.string := ⟨fun _ h => h⟩
theorem heap_slice {α : Type} {d : Kd α} (e : Nat) (hd : Heap d) : Heap (slice e d) := ⟨by
  rintro w w1 x cs hb ⟨A, c, rfl, hl, hr⟩
  exact ⟨A, c, rfl, hl, hd.C hb hr⟩⟩
theorem heap_pair {α β : Type} {a : Kd α} {b : Kd β} (ha : Heap a) (hb' : Heap b) : Heap (pair a b) := ⟨by
  rintro w w1 x cs hb ⟨c0, c1, rfl, h0, h1⟩
  exact ⟨c0, c1, rfl, ha.K hb h0, hb'.K hb h1⟩⟩
theorem heap_iso {α β : Type} {d : Kd α} (f : β → α) (hd : Heap d) : Heap (iso d f) := ⟨fun hb h => hd.K hb h⟩
end Kd
end Go.Proofs.YtlooelfkkbgmhaaDoorW.PrintWords
