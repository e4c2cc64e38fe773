/-
  Words of mine for walks: bytes of texts, worlds behind a call.
-/
import Derived.Test.YteonaghjhjnijaaProg
import Derived.Lib.Strings
import Derived.Lib.OthersKept
import Derived.MapKept
import Derived.Carry
import Derived.Below
import Derived.WalkKit
import Derived.Test.YteonaghjhjnijaaQKx1
set_option linter.unusedVariables false
set_option linter.unusedSimpArgs false
namespace Go.Proofs.Yteonaghjhjnijaa
open Go Go.RowKit Go.Proofs.YteonaghjhjnijaaW.PrintWords Go.Proofs.YteonaghjhjnijaaW.PrintLast
abbrev L (s : ByteArray) : List UInt8 := s.data.toList
abbrev mkB (l : List UInt8) : ByteArray := ⟨l.toArray⟩
theorem L_mk (l : List UInt8) : L (mkB l) = l := rfl
theorem L_len (s : ByteArray) : (L s).length = s.size := (Lib.size_eq s).symm
theorem mk_size (l : List UInt8) : (mkB l).size = l.length := by rw [← L_len]
theorem L_ext {s t : ByteArray} (h : L s = L t) : s = t := ByteArray.ext (Array.ext' h)
theorem mk_L (s : ByteArray) : mkB (L s) = s := L_ext rfl
theorem toList_L (s : ByteArray) : s.toList = L s := Lib.toList_data s
theorem ext_mk (s : ByteArray) (a b : Nat) : s.extract a b = mkB (((L s).drop a).take (b - a)) := L_ext (by
  show (s.extract a b).data.toList = ((L s).drop a).take (b - a)
  rw [← Lib.toList_data (s.extract a b), Lib.extract_toList])
theorem L_app (s t : ByteArray) : L (s ++ t) = L s ++ L t := by
  show (s ++ t).data.toList = _
  rw [ByteArray.data_append, Array.toList_append]
theorem mk_app (l m : List UInt8) : mkB l ++ mkB m = mkB (l ++ m) := L_ext (by rw [L_app])
theorem bl_alloc {w W : World} (h : Below w.heap.size w W) (o : Obj) : Below w.heap.size w (W.alloc o) := h.alloc h.size o
theorem bl_drew {B : Nat} {w W : World} (h : Below B w W) : Below B w W.drew := ⟨h.os, h.tape, h.output, h.size, h.block⟩
theorem bl_on {w W W1 : World} (h : Below w.heap.size w W) (h1 : Below W.heap.size W W1) : Below w.heap.size w W1 := h.trans (h1.mono h.size)
theorem bl_set {w W : World} (h : Below w.heap.size w W) {p : Addr} (hp : w.heap.size ≤ p.block) (v : Value) : Below w.heap.size w (W.setCell p v) := h.setCell hp _
theorem cell_on {w w' : World} {x : Addr} {v : Value} (hb : Below w.heap.size w w') (h : w.cell? x = some v) : w'.cell? x = some v :=
  (hb.cell (World.block_lt_of_cell? w _ h)).trans h
theorem heap_on {w w' : World} {q : Nat} {o : Obj} (hb : Below w.heap.size w w') (h : w.heap[q]? = some o) : w'.heap[q]? = some o :=
  (hb.block _ (Array.getElem?_eq_some_iff.1 h).1).trans h
theorem heap_new0 (W : World) (q : Nat) (o : Obj) (h : q = W.heap.size) : (W.alloc o).heap[q]? = some o := by subst h; exact (MapKept.heap_alloc W o).1
theorem cellsOf {w : World} {g : Nat} {t : TypeId} {cs : Array Value} (h : w.heap[g]? = some (.cells cs t (0, 0))) (i : Nat) : w.cell? ⟨g, i, none⟩ = cs[i]? := cell_of_row w g i cs t (0, 0) h
theorem frozen_on {w w' : World} {x : Addr} (hb : Below w.heap.size w w') (hx : x.block < w.heap.size) (h : w.frozen? x = false) : w'.frozen? x = false := by
  rw [← h]; unfold World.frozen?; rw [hb.block _ hx]
theorem wu {x : Int} (h0 : 0 ≤ x) (h1 : x < 18446744073709551616) : IntKind.u64.wrap x = x := by
  unfold IntKind.wrap
  simp [IntKind.signed, IntKind.bits]
  omega
theorem bt_L (s : ByteArray) (k : Nat) (h : k < s.size) : bt s (k : Int) = (((L s).getD k 0).toNat : Int) := by
  unfold bt
  rw [dif_pos (show (k : Int).toNat < s.size from h), List.getD_eq_getElem?_getD, List.getElem?_eq_getElem (by rw [L_len]; exact h)]
  rfl
theorem bt_Z (s : ByteArray) (x : Int) (h0 : 0 ≤ x) (h : x < s.size) : bt s x = (((L s).getD x.toNat 0).toNat : Int) := by
  have h1 := bt_L s x.toNat (by omega)
  rw [show ((x.toNat : Nat) : Int) = x by omega] at h1
  exact h1
end Go.Proofs.Yteonaghjhjnijaa
