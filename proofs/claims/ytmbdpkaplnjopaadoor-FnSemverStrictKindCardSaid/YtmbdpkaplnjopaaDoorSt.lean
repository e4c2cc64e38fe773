/-
  What StrictNewVersion keeps in memory: the three parts, and the version that is being made; numbers read.
-/
import Derived.Test.YtmbdpkaplnjopaaDoorVal
import Derived.Test.YtmbdpkaplnjopaaDoorShelf
import Derived.WalkSmall
set_option linter.unusedVariables false
set_option linter.unusedSimpArgs false
namespace Go.Proofs.YtmbdpkaplnjopaaDoor
open Go Go.RowKit Go.Proofs.YtmbdpkaplnjopaaDoorW.PrintWords Go.Proofs.YtmbdpkaplnjopaaDoorW.PrintLast

theorem bl_set {w W : World} (h : Below w.heap.size w W) {p : Addr} (hp : w.heap.size ≤ p.block) (v : Value) : Below w.heap.size w (W.setCell p v) := h.setCell hp _
theorem frozen_on {w w' : World} {x : Addr} (hb : Below w.heap.size w w') (hx : x.block < w.heap.size) (h : w.frozen? x = false) : w'.frozen? x = false := by
  rw [← h]; unfold World.frozen?; rw [hb.block _ hx]
/-- the parts' row at g, the version at v -/
structure ST (w : World) (g v : Nat) (a b c : ByteArray) (n0 n1 n2 : Int) (pre mt : ByteArray) (W : World) : Prop where
  a0 : W.cell? ⟨g, 0, none⟩ = some (.string a)
  a1 : W.cell? ⟨g, 1, none⟩ = some (.string b)
  a2 : W.cell? ⟨g, 2, none⟩ = some (.string c)
  f2 : W.frozen? ⟨g, 2, none⟩ = false
  vb : ∃ o : ByteArray, W.heap[v]? = some (.cells #[.int .u64 n0, .int .u64 n1, .int .u64 n2, .string pre, .string mt, .string o] 42 (0, 0))
  ne : g < v
  lo : w.heap.size ≤ g
  hb : Below w.heap.size w W
theorem ST.on {w : World} {g v : Nat} {a b c : ByteArray} {n0 n1 n2 : Int} {pre mt : ByteArray} {W W' : World} (h : ST w g v a b c n0 n1 n2 pre mt W) (hb : Below W.heap.size W W') : ST w g v a b c n0 n1 n2 pre mt W' where
  a0 := cell_on hb h.a0
  a1 := cell_on hb h.a1
  a2 := cell_on hb h.a2
  f2 := frozen_on hb (World.block_lt_of_cell? _ _ h.a2) h.f2
  vb := by obtain ⟨o, h1⟩ := h.vb; exact ⟨o, (hb.block _ (Array.getElem?_eq_some_iff.1 h1).1).trans h1⟩
  ne := h.ne
  lo := h.lo
  hb := bl_on h.hb hb
theorem cell_far {W : World} {x p : Addr} {u v : Value} (hne : x ≠ p) (h : W.cell? x = some v) : (W.setCell p u).cell? x = some v := by
  exact (World.cell?_setCell_other W p x u (Ne.symm hne)).trans h
theorem frozen_set {W : World} {x p : Addr} {u : Value} (h : W.frozen? x = false) : (W.setCell p u).frozen? x = false := by
  rw [World.frozen?_setCell]; exact h
theorem ST.part {w : World} {g v : Nat} {a b c : ByteArray} {n0 n1 n2 : Int} {pre mt : ByteArray} {W : World} (h : ST w g v a b c n0 n1 n2 pre mt W) (c' : ByteArray) : ST w g v a b c' n0 n1 n2 pre mt (W.setCell ⟨g, 2, none⟩ (.string c')) where
  a0 := cell_far (by simp) h.a0
  a1 := cell_far (by simp) h.a1
  a2 := World.cell?_setCell_same W _ _ h.a2
  f2 := frozen_set h.f2
  vb := by obtain ⟨o, h1⟩ := h.vb; exact ⟨o, (Below.heap_setCell W ⟨g, 2, none⟩ _ v (by have := h.ne; show v ≠ g; omega)).trans h1⟩
  ne := h.ne
  lo := h.lo
  hb := bl_set h.hb h.lo _
theorem ST.pre {w : World} {g v : Nat} {a b c : ByteArray} {n0 n1 n2 : Int} {pre mt : ByteArray} {W : World} (h : ST w g v a b c n0 n1 n2 pre mt W) (i : Nat) (u : Value) (m0 m1 m2 : Int) (pre' mt' : ByteArray)
    (e : ∀ o : Value, #[Value.int .u64 n0, .int .u64 n1, .int .u64 n2, .string pre, .string mt, o].setIfInBounds i u = #[Value.int .u64 m0, .int .u64 m1, .int .u64 m2, .string pre', .string mt', o]) : ST w g v a b c m0 m1 m2 pre' mt' (W.setCell ⟨v, i, none⟩ u) where
  a0 := cell_far (fun e => by have h1 := h.ne; have h2 := congrArg Addr.block e; simp at h2; omega) h.a0
  a1 := cell_far (fun e => by have h1 := h.ne; have h2 := congrArg Addr.block e; simp at h2; omega) h.a1
  a2 := cell_far (fun e => by have h1 := h.ne; have h2 := congrArg Addr.block e; simp at h2; omega) h.a2
  f2 := frozen_set h.f2
  vb := by obtain ⟨o, h1⟩ := h.vb; exact ⟨o, blk_put h1 i u (e (.string o))⟩
  ne := h.ne
  lo := h.lo
  hb := bl_set h.hb (by have := h.ne; have := h.lo; show _ ≤ v; omega) _
theorem frozenOf {w : World} {g : Nat} {t : TypeId} {cs : Array Value} (h : w.heap[g]? = some (.cells cs t (0, 0))) (i : Nat) : w.frozen? ⟨g, i, none⟩ = false := by simp [World.frozen?, h]
theorem ST.cells {w : World} {g v : Nat} {a b c : ByteArray} {n0 n1 n2 : Int} {pre mt : ByteArray} {W : World} (h : ST w g v a b c n0 n1 n2 pre mt W) :
    W.cell? ⟨v, 0, none⟩ = some (.int .u64 n0) ∧ W.cell? ⟨v, 1, none⟩ = some (.int .u64 n1) ∧ W.cell? ⟨v, 2, none⟩ = some (.int .u64 n2) ∧ W.cell? ⟨v, 3, none⟩ = some (.string pre) ∧ W.cell? ⟨v, 4, none⟩ = some (.string mt) ∧
    W.frozen? ⟨v, 0, none⟩ = false ∧ W.frozen? ⟨v, 1, none⟩ = false ∧ W.frozen? ⟨v, 2, none⟩ = false ∧ W.frozen? ⟨v, 3, none⟩ = false ∧ W.frozen? ⟨v, 4, none⟩ = false := by
  obtain ⟨o, hv⟩ := h.vb
  exact ⟨cellsOf hv 0, cellsOf hv 1, cellsOf hv 2, cellsOf hv 3, cellsOf hv 4, frozenOf hv 0, frozenOf hv 1, frozenOf hv 2, frozenOf hv 3, frozenOf hv 4⟩
theorem st_start {w W : World} {s a b c : ByteArray} {g cap : Nat} (hR : Kd.R Kd.string 9 W w.heap.size (fun _ => True) (.slice (some ⟨g, 0, none⟩) [a, b, c].length cap) [a, b, c]) (hb : Below w.heap.size w W) (hg : w.heap.size ≤ g) (hgl : g < W.heap.size) :
    ST w g W.heap.size a b c 0 0 0 ⟨#[]⟩ ⟨#[]⟩ (W.alloc (.cells #[.int .u64 0, .int .u64 0, .int .u64 0, .string ⟨#[]⟩, .string ⟨#[]⟩, .string s] 42)) where
  a0 := cell_on (bl_alloc (Below.refl _ _) _) (Kd.R_cell ByteArray.empty hR 0 (by decide) (by simp)).1
  a1 := cell_on (bl_alloc (Below.refl _ _) _) (Kd.R_cell ByteArray.empty hR 1 (by decide) (by simp)).1
  a2 := cell_on (bl_alloc (Below.refl _ _) _) (Kd.R_cell ByteArray.empty hR 2 (by decide) (by simp)).1
  f2 := frozen_on (bl_alloc (Below.refl _ _) _) (World.block_lt_of_cell? _ _ (Kd.R_cell ByteArray.empty hR 2 (by decide) (by simp)).1) (Kd.R_cell ByteArray.empty hR 2 (by decide) (by simp)).2
  vb := ⟨_, heap_new0 W _ _ rfl⟩
  ne := hgl
  lo := hg
  hb := bl_alloc hb _
/-- the two errors of strconv are errors -/
def GlobE (E : Nat → Addr) (w : World) : Prop := w.var? Tryd.prog "strconv.ErrSyntax" = some #[.iface 86 (.pointer (some (E 9)))] ∧ w.var? Tryd.prog "strconv.ErrRange" = some #[.iface 86 (.pointer (some (E 10)))]
theorem var_lt {w : World} {n : String} {g : Nat} {cs : Array Value} (hg : Tryd.prog.globalNamed n = some g) (h : w.var? Tryd.prog n = some cs) : g < w.heap.size := by
  unfold World.var? at h
  simp only [hg, Option.bind_some] at h
  by_cases hlt : g < w.heap.size
  · exact hlt
  · rw [Array.getElem?_eq_none (by omega)] at h
    cases h
theorem gSyntax : Tryd.prog.globalNamed "strconv.ErrSyntax" = some 9 := by kernel_rfl
theorem gRange : Tryd.prog.globalNamed "strconv.ErrRange" = some 10 := by kernel_rfl
theorem gPow : Tryd.prog.globalNamed "internal/strconv.uint64pow10" = some 11 := by kernel_rfl
theorem globE_below {E : Nat → Addr} {w w' : World} (h : GlobE E w) (hb : Below w.heap.size w w') : GlobE E w' :=
  ⟨var?_below hb gSyntax (var_lt gSyntax h.1) h.1, var?_below hb gRange (var_lt gRange h.2) h.2⟩
theorem parse_ok (s : ByteArray) (hs : s.size ≤ 281474976710656) (u : Nat) (h : Lib.parseUintB 64 s.data.toList = .ok u) (w : World) :
    Calls Tryd.prog 20 #[.string s, .int .i64 10, .int .i64 64] w fun e w' => e = .returned (.tuple #[.int .u64 u, .nilIface]) ∧ Below w.heap.size w w' :=
  (Tryd.strconv_ParseUint_10_at64_ok s (by omega) u h w).mono fun e w' ⟨he, hw⟩ => ⟨he, by
    rcases hw with rfl | rfl
    · exact Below.refl _ _
    · exact Lib.bytesWorld_below _ _ _⟩
/-- an error of ParseUint -/
def NumErr (E : Nat → Addr) (N : Nat) (W : World) : Prop := ∃ (a b : Value) (k : Nat), (k = 9 ∨ k = 10) ∧ W.heap[N]? = some (.cells #[a, b, .iface 86 (.pointer (some (E k)))] 83 (0, 0))
theorem parse_err (E : Nat → Addr) (s : ByteArray) (hs : s.size ≤ 281474976710656) (h : ∀ u, Lib.parseUintB 64 s.data.toList ≠ .ok u) (w : World) (hG : GlobE E w) :
    Calls Tryd.prog 20 #[.string s, .int .i64 10, .int .i64 64] w fun e w' => ∃ (v : Int) (N : Nat), e = .returned (.tuple #[.int .u64 v, .iface 67 (.pointer (some ⟨N, 0, none⟩))]) ∧ w.heap.size ≤ N ∧ NumErr E N w' ∧ Below w.heap.size w w' := by
  rcases hp : Lib.parseUintB 64 s.data.toList with u | _ | _
  · exact absurd hp (h u)
  · exact (Tryd.strconv_ParseUint_10_at64_syntax_var s hs hp _ _ w hG.1).mono fun e w' ⟨N, he, hN, hc, hb⟩ => ⟨_, N, he, hN, ⟨_, _, 9, Or.inl rfl, hc⟩, hb⟩
  · exact (Tryd.strconv_ParseUint_10_at64_range_var s hs hp _ _ w hG.2).mono fun e w' ⟨N, he, hN, hc, hb⟩ => ⟨_, N, he, hN, ⟨_, _, 10, Or.inr rfl, hc⟩, hb⟩
end Go.Proofs.YtmbdpkaplnjopaaDoor
