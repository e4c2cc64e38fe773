/-
  The walk of laws.FnSemverOneOf, a theorem a path (printed by wip/tools/genone.py).
-/
import Derived.Test.YtlooelfkkbgmhaaDoorConTerm
import Derived.Test.YtlooelfkkbgmhaaDoorConEqual
import Derived.Test.YtlooelfkkbgmhaaDoorGivTerms
import Derived.Test.YtlooelfkkbgmhaaDoorQlawsstBare
set_option linter.unusedVariables false
set_option linter.unusedSimpArgs false
namespace Go.Proofs.YtlooelfkkbgmhaaDoor
open Go Go.RowKit QS Go.Proofs.YtlooelfkkbgmhaaDoorW.PrintWords Go.Proofs.YtlooelfkkbgmhaaDoorW.PrintLast
/-- two boxed versions -/
structure Two1 (w : World) (g h : Nat) (x y : Array Value) (W : World) : Prop where
  k : W.heap[g]? = some (.cells x 24 (0, 0))
  l : W.heap[h]? = some (.cells y 24 (0, 0))
  bel : Below w.heap.size w W
theorem Two1.on {w : World} {g h : Nat} {x y : Array Value} {W W' : World} (T : Two1 w g h x y W) (hb : Below W.heap.size W W') : Two1 w g h x y W' := ⟨blk_below T.k hb, blk_below T.l hb, below_step T.bel hb⟩
theorem Two1.alloc {w : World} {g h : Nat} {x y : Array Value} {W : World} {o : Obj} (T : Two1 w g h x y W) : Two1 w g h x y (W.alloc o) := T.on (below_alloc (Below.refl _ _) _)
theorem Two1.drewN {w : World} {g h : Nat} {x y : Array Value} {W : World} {k : Nat} (T : Two1 w g h x y W) : Two1 w g h x y (W.drewN k) := T.on (pw_below_drewN (Below.refl _ _) _)
theorem Two1.drew {w : World} {g h : Nat} {x y : Array Value} {W : World} (T : Two1 w g h x y W) : Two1 w g h x y W.drew := T.on (below_drew1 (Below.refl _ _))
theorem two1_start (w : World) (x y : Array Value) : Two1 w w.heap.size (w.heap.size + 1) x y ((w.alloc (.cells x 24 (0, 0))).alloc (.cells y 24 (0, 0))) := by
  refine ⟨blk_alloc (blk_new _ _) _, ?_, by repeat (first | exact Below.refl _ _ | apply below_alloc)⟩
  have h := blk_new (w.alloc (.cells x 24 (0, 0))) (.cells y 24 (0, 0))
  rwa [show (w.alloc (.cells x 24 (0, 0))).heap.size = w.heap.size + 1 from by simp] at h
theorem two1_put {w : World} {g h : Nat} {x0 x1 x2 x3 x4 y0 y1 y2 y3 y4 v0 v1 v2 v3 v4 u0 u1 u2 u3 u4 : Value} {W : World} (T : Two1 w g h #[x0, x1, x2, x3, x4] #[y0, y1, y2, y3, y4] W) (n1 : g ≠ h) (n2 : h ≠ g) (l1 : w.heap.size ≤ g) (l2 : w.heap.size ≤ h) : Two1 w g h #[v0, v1, v2, v3, v4] #[u0, u1, u2, u3, u4] ((((((((((W.setCell ⟨g, 0, none⟩ v0).setCell ⟨g, 1, none⟩ v1).setCell ⟨g, 2, none⟩ v2).setCell ⟨g, 3, none⟩ v3).setCell ⟨g, 4, none⟩ v4).setCell ⟨h, 0, none⟩ u0).setCell ⟨h, 1, none⟩ u1).setCell ⟨h, 2, none⟩ u2).setCell ⟨h, 3, none⟩ u3).setCell ⟨h, 4, none⟩ u4) := by
  refine ⟨?_, ?_, ?_⟩
  · refine blk_far (blk_far (blk_far (blk_far (blk_far ?_ n1 _) n1 _) n1 _) n1 _) n1 _
    exact blk_put (cs := #[v0, v1, v2, v3, x4]) (blk_put (cs := #[v0, v1, v2, x3, x4]) (blk_put (cs := #[v0, v1, x2, x3, x4]) (blk_put (cs := #[v0, x1, x2, x3, x4]) (blk_put T.k 0 _ rfl) 1 _ rfl) 2 _ rfl) 3 _ rfl) 4 _ rfl
  · refine blk_put (cs := #[u0, u1, u2, u3, y4]) (blk_put (cs := #[u0, u1, u2, y3, y4]) (blk_put (cs := #[u0, u1, y2, y3, y4]) (blk_put (cs := #[u0, y1, y2, y3, y4]) (blk_put (cs := #[y0, y1, y2, y3, y4]) ?_ 0 _ rfl) 1 _ rfl) 2 _ rfl) 3 _ rfl) 4 _ rfl
    exact blk_far (blk_far (blk_far (blk_far (blk_far T.l n2 _) n2 _) n2 _) n2 _) n2 _
  · exact below_set (below_set (below_set (below_set (below_set (below_set (below_set (below_set (below_set (below_set T.bel l1) l1) l1) l1) l1) l2) l2) l2) l2) l2
/-- two boxed versions and a term -/
structure Thr (w : World) (g h i : Nat) (x y z : Array Value) (W : World) : Prop where
  t : Two1 w g h x y W
  z : W.heap[i]? = some (.cells z 36 (0, 0))
theorem Thr.on {w : World} {g h i : Nat} {x y z : Array Value} {W W' : World} (T : Thr w g h i x y z W) (hb : Below W.heap.size W W') : Thr w g h i x y z W' := ⟨T.t.on hb, blk_below T.z hb⟩
theorem Thr.alloc {w : World} {g h i : Nat} {x y z : Array Value} {W : World} {o : Obj} (T : Thr w g h i x y z W) : Thr w g h i x y z (W.alloc o) := T.on (below_alloc (Below.refl _ _) _)
theorem Thr.drewN {w : World} {g h i : Nat} {x y z : Array Value} {W : World} {k : Nat} (T : Thr w g h i x y z W) : Thr w g h i x y z (W.drewN k) := T.on (pw_below_drewN (Below.refl _ _) _)
theorem Thr.drew {w : World} {g h i : Nat} {x y z : Array Value} {W : World} (T : Thr w g h i x y z W) : Thr w g h i x y z W.drew := T.on (below_drew1 (Below.refl _ _))
theorem thr_start {w : World} {g h : Nat} {x y : Array Value} {W : World} (T : Two1 w g h x y W) (z : Array Value) : Thr w g h W.heap.size x y z (W.alloc (.cells z 36 (0, 0))) := ⟨T.alloc, blk_new _ _⟩
theorem thr_held {w : World} {g h i : Nat} {x : Array Value} {y0 y1 y2 y3 y4 z0 z1 z2 z3 z4 z5 : Value} {W : World} (T : Thr w g h i x #[y0, y1, y2, y3, y4] #[z0, z1, z2, z3, z4, z5] W) :
    W.cell? ⟨i, 0, none⟩ = some z0 ∧ W.cell? ⟨i, 1, none⟩ = some z1 ∧ W.cell? ⟨i, 2, none⟩ = some z2 ∧ W.cell? ⟨i, 3, none⟩ = some z3 ∧ W.cell? ⟨i, 4, none⟩ = some z4 ∧ W.cell? ⟨i, 5, none⟩ = some z5 ∧ W.cell? ⟨h, 0, none⟩ = some y0 ∧ W.cell? ⟨h, 1, none⟩ = some y1 ∧ W.cell? ⟨h, 2, none⟩ = some y2 ∧ W.cell? ⟨h, 3, none⟩ = some y3 ∧ W.cell? ⟨h, 4, none⟩ = some y4 ∧ Aside0 (Thr w g h i x #[y0, y1, y2, y3, y4] #[z0, z1, z2, z3, z4, z5] W) :=
  ⟨blk_cell T.z 0, blk_cell T.z 1, blk_cell T.z 2, blk_cell T.z 3, blk_cell T.z 4, blk_cell T.z 5, blk_cell T.t.l 0, blk_cell T.t.l 1, blk_cell T.t.l 2, blk_cell T.t.l 3, blk_cell T.t.l 4, ⟨T⟩⟩
theorem aside_last {c0 c1 c2 c3 c4 c5 c6 c7 c8 c9 c10 p : Prop} (h : c0 ∧ c1 ∧ c2 ∧ c3 ∧ c4 ∧ c5 ∧ c6 ∧ c7 ∧ c8 ∧ c9 ∧ c10 ∧ Aside0 p) : p := h.2.2.2.2.2.2.2.2.2.2.2.out
set_option maxHeartbeats 4000000 in
set_option maxRecDepth 100000 in
theorem one_1 (n : Nat) (a b c a' b' c' : Int) (s m s' m' : ByteArray) (kk : Int) (A B C A' B' C' : Int) (S M S' M' : ByteArray) (R2 R3 R4 R5 : Int) (R6 : ByteArray) (w : World) (hG : GlobE w) (h1 : laws_zzFits14.f a b c s m = some false) :
  Calls Tryd.prog 10 #[.agg #[.int .u64 a, .int .u64 b, .int .u64 c, .string s, .string m], .int .i64 kk, .agg #[.int .u64 a', .int .u64 b', .int .u64 c', .string s', .string m']] w fun e w' => e = .returned (.bool true) ∧ Below w.heap.size w w' := by
  have HG := Aside0.mk hG
  clear hG
  have NE1 := Aside0.mk (show w.heap.size ≠ w.heap.size + 1 by omega)
  have NE2 := Aside0.mk (show w.heap.size + 1 ≠ w.heap.size by omega)
  have HT := Aside0.mk (two1_start w #[.int .u64 a, .int .u64 b, .int .u64 c, .string s, .string m] #[.int .u64 a', .int .u64 b', .int .u64 c', .string s', .string m'])
  go_enter Tryd.func10, Tryd.ntmps10
  go_upto_region 1 with fail
  go_cut [20] (fun t W => t = .bool true ∧ Aside0 (Two1 w w.heap.size (w.heap.size + 1) #[.int .u64 a, .int .u64 b, .int .u64 c, .string s, .string m] #[.int .u64 a', .int .u64 b', .int .u64 c', .string s', .string m'] W))
  case first =>
    have f0 := (blk_cell HT.out.k 0).trans (show _ = some (.int .u64 a) from rfl)
    have g0 := (blk_cell HT.out.l 0).trans (show _ = some (.int .u64 a') from rfl)
    have e0 := blk_frozen HT.out.k 0
    have d0 := blk_frozen HT.out.l 0
    have f1 := (blk_cell HT.out.k 1).trans (show _ = some (.int .u64 b) from rfl)
    have g1 := (blk_cell HT.out.l 1).trans (show _ = some (.int .u64 b') from rfl)
    have e1 := blk_frozen HT.out.k 1
    have d1 := blk_frozen HT.out.l 1
    have f2 := (blk_cell HT.out.k 2).trans (show _ = some (.int .u64 c) from rfl)
    have g2 := (blk_cell HT.out.l 2).trans (show _ = some (.int .u64 c') from rfl)
    have e2 := blk_frozen HT.out.k 2
    have d2 := blk_frozen HT.out.l 2
    have f3 := (blk_cell HT.out.k 3).trans (show _ = some (.string s) from rfl)
    have g3 := (blk_cell HT.out.l 3).trans (show _ = some (.string s') from rfl)
    have e3 := blk_frozen HT.out.k 3
    have d3 := blk_frozen HT.out.l 3
    have f4 := (blk_cell HT.out.k 4).trans (show _ = some (.string m) from rfl)
    have g4 := (blk_cell HT.out.l 4).trans (show _ = some (.string m') from rfl)
    have e4 := blk_frozen HT.out.k 4
    have d4 := blk_frozen HT.out.l 4
    go_wp2_with (first | (go_at_call 17; (with_reducible refine (laws_zzFits14.calls a b c s m _ _ h1).mono ?_); rintro e w3 ⟨rfl, hb⟩; replace HT := Aside0.mk (Two1.on (by (with_reducible repeat (first | exact HT.out | apply Two1.drew | apply Two1.drewN | apply Two1.alloc))) hb); clear hb; clear f0 g0 e0 d0 f1 g1 e1 d1 f2 g2 e2 d2 f3 g3 e3 d3 f4 g4 e4 d4; have f0 := (blk_cell HT.out.k 0).trans (show _ = some (.int .u64 a) from rfl); have g0 := (blk_cell HT.out.l 0).trans (show _ = some (.int .u64 a') from rfl); have e0 := blk_frozen HT.out.k 0; have d0 := blk_frozen HT.out.l 0; have f1 := (blk_cell HT.out.k 1).trans (show _ = some (.int .u64 b) from rfl); have g1 := (blk_cell HT.out.l 1).trans (show _ = some (.int .u64 b') from rfl); have e1 := blk_frozen HT.out.k 1; have d1 := blk_frozen HT.out.l 1; have f2 := (blk_cell HT.out.k 2).trans (show _ = some (.int .u64 c) from rfl); have g2 := (blk_cell HT.out.l 2).trans (show _ = some (.int .u64 c') from rfl); have e2 := blk_frozen HT.out.k 2; have d2 := blk_frozen HT.out.l 2; have f3 := (blk_cell HT.out.k 3).trans (show _ = some (.string s) from rfl); have g3 := (blk_cell HT.out.l 3).trans (show _ = some (.string s') from rfl); have e3 := blk_frozen HT.out.k 3; have d3 := blk_frozen HT.out.l 3; have f4 := (blk_cell HT.out.k 4).trans (show _ = some (.string m) from rfl); have g4 := (blk_cell HT.out.l 4).trans (show _ = some (.string m') from rfl); have e4 := blk_frozen HT.out.k 4; have d4 := blk_frozen HT.out.l 4))
    go_meet
    exact ⟨rfl, Aside0.mk (by (with_reducible repeat (first | exact HT.out | apply Two1.drew | apply Two1.drewN | apply Two1.alloc)))⟩
  case rest =>
    obtain ⟨rfl, HT1⟩ := hcut
    clear HT
    have HT := HT1
    clear HT1
    go_wp2
    go_ret
    refine ⟨rfl, Two1.bel (g := w.heap.size) (h := w.heap.size + 1) (x := #[.int .u64 a, .int .u64 b, .int .u64 c, .string s, .string m]) (y := #[.int .u64 a', .int .u64 b', .int .u64 c', .string s', .string m']) ?_⟩
    exact (by (with_reducible repeat (first | exact HT.out | apply Two1.drew | apply Two1.drewN | apply Two1.alloc)))
set_option maxHeartbeats 4000000 in
set_option maxRecDepth 100000 in
theorem one_2 (n : Nat) (a b c a' b' c' : Int) (s m s' m' : ByteArray) (kk : Int) (A B C A' B' C' : Int) (S M S' M' : ByteArray) (R2 R3 R4 R5 : Int) (R6 : ByteArray) (w : World) (hG : GlobE w) (h1 : laws_zzFits14.f a b c s m = some true) (h2 : laws_zzFits14.f a' b' c' s' m' = some false) :
  Calls Tryd.prog 10 #[.agg #[.int .u64 a, .int .u64 b, .int .u64 c, .string s, .string m], .int .i64 kk, .agg #[.int .u64 a', .int .u64 b', .int .u64 c', .string s', .string m']] w fun e w' => e = .returned (.bool true) ∧ Below w.heap.size w w' := by
  have HG := Aside0.mk hG
  clear hG
  have NE1 := Aside0.mk (show w.heap.size ≠ w.heap.size + 1 by omega)
  have NE2 := Aside0.mk (show w.heap.size + 1 ≠ w.heap.size by omega)
  have HT := Aside0.mk (two1_start w #[.int .u64 a, .int .u64 b, .int .u64 c, .string s, .string m] #[.int .u64 a', .int .u64 b', .int .u64 c', .string s', .string m'])
  go_enter Tryd.func10, Tryd.ntmps10
  go_upto_region 1 with fail
  go_cut [20] (fun t W => t = .bool true ∧ Aside0 (Two1 w w.heap.size (w.heap.size + 1) #[.int .u64 a, .int .u64 b, .int .u64 c, .string s, .string m] #[.int .u64 a', .int .u64 b', .int .u64 c', .string s', .string m'] W))
  case first =>
    have f0 := (blk_cell HT.out.k 0).trans (show _ = some (.int .u64 a) from rfl)
    have g0 := (blk_cell HT.out.l 0).trans (show _ = some (.int .u64 a') from rfl)
    have e0 := blk_frozen HT.out.k 0
    have d0 := blk_frozen HT.out.l 0
    have f1 := (blk_cell HT.out.k 1).trans (show _ = some (.int .u64 b) from rfl)
    have g1 := (blk_cell HT.out.l 1).trans (show _ = some (.int .u64 b') from rfl)
    have e1 := blk_frozen HT.out.k 1
    have d1 := blk_frozen HT.out.l 1
    have f2 := (blk_cell HT.out.k 2).trans (show _ = some (.int .u64 c) from rfl)
    have g2 := (blk_cell HT.out.l 2).trans (show _ = some (.int .u64 c') from rfl)
    have e2 := blk_frozen HT.out.k 2
    have d2 := blk_frozen HT.out.l 2
    have f3 := (blk_cell HT.out.k 3).trans (show _ = some (.string s) from rfl)
    have g3 := (blk_cell HT.out.l 3).trans (show _ = some (.string s') from rfl)
    have e3 := blk_frozen HT.out.k 3
    have d3 := blk_frozen HT.out.l 3
    have f4 := (blk_cell HT.out.k 4).trans (show _ = some (.string m) from rfl)
    have g4 := (blk_cell HT.out.l 4).trans (show _ = some (.string m') from rfl)
    have e4 := blk_frozen HT.out.k 4
    have d4 := blk_frozen HT.out.l 4
    go_wp2_with (first | (go_at_call 17; (with_reducible refine (laws_zzFits14.calls a b c s m _ _ h1).mono ?_); rintro e w3 ⟨rfl, hb⟩; replace HT := Aside0.mk (Two1.on (by (with_reducible repeat (first | exact HT.out | apply Two1.drew | apply Two1.drewN | apply Two1.alloc))) hb); clear hb; clear f0 g0 e0 d0 f1 g1 e1 d1 f2 g2 e2 d2 f3 g3 e3 d3 f4 g4 e4 d4; have f0 := (blk_cell HT.out.k 0).trans (show _ = some (.int .u64 a) from rfl); have g0 := (blk_cell HT.out.l 0).trans (show _ = some (.int .u64 a') from rfl); have e0 := blk_frozen HT.out.k 0; have d0 := blk_frozen HT.out.l 0; have f1 := (blk_cell HT.out.k 1).trans (show _ = some (.int .u64 b) from rfl); have g1 := (blk_cell HT.out.l 1).trans (show _ = some (.int .u64 b') from rfl); have e1 := blk_frozen HT.out.k 1; have d1 := blk_frozen HT.out.l 1; have f2 := (blk_cell HT.out.k 2).trans (show _ = some (.int .u64 c) from rfl); have g2 := (blk_cell HT.out.l 2).trans (show _ = some (.int .u64 c') from rfl); have e2 := blk_frozen HT.out.k 2; have d2 := blk_frozen HT.out.l 2; have f3 := (blk_cell HT.out.k 3).trans (show _ = some (.string s) from rfl); have g3 := (blk_cell HT.out.l 3).trans (show _ = some (.string s') from rfl); have e3 := blk_frozen HT.out.k 3; have d3 := blk_frozen HT.out.l 3; have f4 := (blk_cell HT.out.k 4).trans (show _ = some (.string m) from rfl); have g4 := (blk_cell HT.out.l 4).trans (show _ = some (.string m') from rfl); have e4 := blk_frozen HT.out.k 4; have d4 := blk_frozen HT.out.l 4) | (go_at_call 17; (with_reducible refine (laws_zzFits14.calls a' b' c' s' m' _ _ h2).mono ?_); rintro e w3 ⟨rfl, hb⟩; replace HT := Aside0.mk (Two1.on (by (with_reducible repeat (first | exact HT.out | apply Two1.drew | apply Two1.drewN | apply Two1.alloc))) hb); clear hb; clear f0 g0 e0 d0 f1 g1 e1 d1 f2 g2 e2 d2 f3 g3 e3 d3 f4 g4 e4 d4; have f0 := (blk_cell HT.out.k 0).trans (show _ = some (.int .u64 a) from rfl); have g0 := (blk_cell HT.out.l 0).trans (show _ = some (.int .u64 a') from rfl); have e0 := blk_frozen HT.out.k 0; have d0 := blk_frozen HT.out.l 0; have f1 := (blk_cell HT.out.k 1).trans (show _ = some (.int .u64 b) from rfl); have g1 := (blk_cell HT.out.l 1).trans (show _ = some (.int .u64 b') from rfl); have e1 := blk_frozen HT.out.k 1; have d1 := blk_frozen HT.out.l 1; have f2 := (blk_cell HT.out.k 2).trans (show _ = some (.int .u64 c) from rfl); have g2 := (blk_cell HT.out.l 2).trans (show _ = some (.int .u64 c') from rfl); have e2 := blk_frozen HT.out.k 2; have d2 := blk_frozen HT.out.l 2; have f3 := (blk_cell HT.out.k 3).trans (show _ = some (.string s) from rfl); have g3 := (blk_cell HT.out.l 3).trans (show _ = some (.string s') from rfl); have e3 := blk_frozen HT.out.k 3; have d3 := blk_frozen HT.out.l 3; have f4 := (blk_cell HT.out.k 4).trans (show _ = some (.string m) from rfl); have g4 := (blk_cell HT.out.l 4).trans (show _ = some (.string m') from rfl); have e4 := blk_frozen HT.out.k 4; have d4 := blk_frozen HT.out.l 4))
    go_meet
    exact ⟨rfl, Aside0.mk (by (with_reducible repeat (first | exact HT.out | apply Two1.drew | apply Two1.drewN | apply Two1.alloc)))⟩
  case rest =>
    obtain ⟨rfl, HT1⟩ := hcut
    clear HT
    have HT := HT1
    clear HT1
    go_wp2
    go_ret
    refine ⟨rfl, Two1.bel (g := w.heap.size) (h := w.heap.size + 1) (x := #[.int .u64 a, .int .u64 b, .int .u64 c, .string s, .string m]) (y := #[.int .u64 a', .int .u64 b', .int .u64 c', .string s', .string m']) ?_⟩
    exact (by (with_reducible repeat (first | exact HT.out | apply Two1.drew | apply Two1.drewN | apply Two1.alloc)))
set_option maxHeartbeats 4000000 in
set_option maxRecDepth 100000 in
theorem one_3 (n : Nat) (a b c a' b' c' : Int) (s m s' m' : ByteArray) (kk : Int) (A B C A' B' C' : Int) (S M S' M' : ByteArray) (R2 R3 R4 R5 : Int) (R6 : ByteArray) (w : World) (hG : GlobE w) (h1 : laws_zzFits14.f a b c s m = some true) (h2 : laws_zzFits14.f a' b' c' s' m' = some true) (h3 : laws_stBare.f a b c s m a' b' c' s' m' kk = some (A, B, C, S, M, A', B', C', S', M', false)) :
  Calls Tryd.prog 10 #[.agg #[.int .u64 a, .int .u64 b, .int .u64 c, .string s, .string m], .int .i64 kk, .agg #[.int .u64 a', .int .u64 b', .int .u64 c', .string s', .string m']] w fun e w' => e = .returned (.bool true) ∧ Below w.heap.size w w' := by
  have HG := Aside0.mk hG
  clear hG
  have NE1 := Aside0.mk (show w.heap.size ≠ w.heap.size + 1 by omega)
  have NE2 := Aside0.mk (show w.heap.size + 1 ≠ w.heap.size by omega)
  have HT := Aside0.mk (two1_start w #[.int .u64 a, .int .u64 b, .int .u64 c, .string s, .string m] #[.int .u64 a', .int .u64 b', .int .u64 c', .string s', .string m'])
  go_enter Tryd.func10, Tryd.ntmps10
  go_upto_region 1 with fail
  go_cut [20] (fun t W => t = .bool false ∧ Aside0 (Two1 w w.heap.size (w.heap.size + 1) #[.int .u64 a, .int .u64 b, .int .u64 c, .string s, .string m] #[.int .u64 a', .int .u64 b', .int .u64 c', .string s', .string m'] W))
  case first =>
    have f0 := (blk_cell HT.out.k 0).trans (show _ = some (.int .u64 a) from rfl)
    have g0 := (blk_cell HT.out.l 0).trans (show _ = some (.int .u64 a') from rfl)
    have e0 := blk_frozen HT.out.k 0
    have d0 := blk_frozen HT.out.l 0
    have f1 := (blk_cell HT.out.k 1).trans (show _ = some (.int .u64 b) from rfl)
    have g1 := (blk_cell HT.out.l 1).trans (show _ = some (.int .u64 b') from rfl)
    have e1 := blk_frozen HT.out.k 1
    have d1 := blk_frozen HT.out.l 1
    have f2 := (blk_cell HT.out.k 2).trans (show _ = some (.int .u64 c) from rfl)
    have g2 := (blk_cell HT.out.l 2).trans (show _ = some (.int .u64 c') from rfl)
    have e2 := blk_frozen HT.out.k 2
    have d2 := blk_frozen HT.out.l 2
    have f3 := (blk_cell HT.out.k 3).trans (show _ = some (.string s) from rfl)
    have g3 := (blk_cell HT.out.l 3).trans (show _ = some (.string s') from rfl)
    have e3 := blk_frozen HT.out.k 3
    have d3 := blk_frozen HT.out.l 3
    have f4 := (blk_cell HT.out.k 4).trans (show _ = some (.string m) from rfl)
    have g4 := (blk_cell HT.out.l 4).trans (show _ = some (.string m') from rfl)
    have e4 := blk_frozen HT.out.k 4
    have d4 := blk_frozen HT.out.l 4
    go_wp2_with (first | (go_at_call 17; (with_reducible refine (laws_zzFits14.calls a b c s m _ _ h1).mono ?_); rintro e w3 ⟨rfl, hb⟩; replace HT := Aside0.mk (Two1.on (by (with_reducible repeat (first | exact HT.out | apply Two1.drew | apply Two1.drewN | apply Two1.alloc))) hb); clear hb; clear f0 g0 e0 d0 f1 g1 e1 d1 f2 g2 e2 d2 f3 g3 e3 d3 f4 g4 e4 d4; have f0 := (blk_cell HT.out.k 0).trans (show _ = some (.int .u64 a) from rfl); have g0 := (blk_cell HT.out.l 0).trans (show _ = some (.int .u64 a') from rfl); have e0 := blk_frozen HT.out.k 0; have d0 := blk_frozen HT.out.l 0; have f1 := (blk_cell HT.out.k 1).trans (show _ = some (.int .u64 b) from rfl); have g1 := (blk_cell HT.out.l 1).trans (show _ = some (.int .u64 b') from rfl); have e1 := blk_frozen HT.out.k 1; have d1 := blk_frozen HT.out.l 1; have f2 := (blk_cell HT.out.k 2).trans (show _ = some (.int .u64 c) from rfl); have g2 := (blk_cell HT.out.l 2).trans (show _ = some (.int .u64 c') from rfl); have e2 := blk_frozen HT.out.k 2; have d2 := blk_frozen HT.out.l 2; have f3 := (blk_cell HT.out.k 3).trans (show _ = some (.string s) from rfl); have g3 := (blk_cell HT.out.l 3).trans (show _ = some (.string s') from rfl); have e3 := blk_frozen HT.out.k 3; have d3 := blk_frozen HT.out.l 3; have f4 := (blk_cell HT.out.k 4).trans (show _ = some (.string m) from rfl); have g4 := (blk_cell HT.out.l 4).trans (show _ = some (.string m') from rfl); have e4 := blk_frozen HT.out.k 4; have d4 := blk_frozen HT.out.l 4) | (go_at_call 17; (with_reducible refine (laws_zzFits14.calls a' b' c' s' m' _ _ h2).mono ?_); rintro e w3 ⟨rfl, hb⟩; replace HT := Aside0.mk (Two1.on (by (with_reducible repeat (first | exact HT.out | apply Two1.drew | apply Two1.drewN | apply Two1.alloc))) hb); clear hb; clear f0 g0 e0 d0 f1 g1 e1 d1 f2 g2 e2 d2 f3 g3 e3 d3 f4 g4 e4 d4; have f0 := (blk_cell HT.out.k 0).trans (show _ = some (.int .u64 a) from rfl); have g0 := (blk_cell HT.out.l 0).trans (show _ = some (.int .u64 a') from rfl); have e0 := blk_frozen HT.out.k 0; have d0 := blk_frozen HT.out.l 0; have f1 := (blk_cell HT.out.k 1).trans (show _ = some (.int .u64 b) from rfl); have g1 := (blk_cell HT.out.l 1).trans (show _ = some (.int .u64 b') from rfl); have e1 := blk_frozen HT.out.k 1; have d1 := blk_frozen HT.out.l 1; have f2 := (blk_cell HT.out.k 2).trans (show _ = some (.int .u64 c) from rfl); have g2 := (blk_cell HT.out.l 2).trans (show _ = some (.int .u64 c') from rfl); have e2 := blk_frozen HT.out.k 2; have d2 := blk_frozen HT.out.l 2; have f3 := (blk_cell HT.out.k 3).trans (show _ = some (.string s) from rfl); have g3 := (blk_cell HT.out.l 3).trans (show _ = some (.string s') from rfl); have e3 := blk_frozen HT.out.k 3; have d3 := blk_frozen HT.out.l 3; have f4 := (blk_cell HT.out.k 4).trans (show _ = some (.string m) from rfl); have g4 := (blk_cell HT.out.l 4).trans (show _ = some (.string m') from rfl); have e4 := blk_frozen HT.out.k 4; have d4 := blk_frozen HT.out.l 4))
    go_meet
    exact ⟨rfl, Aside0.mk (by (with_reducible repeat (first | exact HT.out | apply Two1.drew | apply Two1.drewN | apply Two1.alloc)))⟩
  case rest =>
    obtain ⟨rfl, HT1⟩ := hcut
    clear HT
    have HT := HT1
    clear HT1
    have f0 := (blk_cell HT.out.k 0).trans (show _ = some (.int .u64 a) from rfl)
    have g0 := (blk_cell HT.out.l 0).trans (show _ = some (.int .u64 a') from rfl)
    have e0 := blk_frozen HT.out.k 0
    have d0 := blk_frozen HT.out.l 0
    have f1 := (blk_cell HT.out.k 1).trans (show _ = some (.int .u64 b) from rfl)
    have g1 := (blk_cell HT.out.l 1).trans (show _ = some (.int .u64 b') from rfl)
    have e1 := blk_frozen HT.out.k 1
    have d1 := blk_frozen HT.out.l 1
    have f2 := (blk_cell HT.out.k 2).trans (show _ = some (.int .u64 c) from rfl)
    have g2 := (blk_cell HT.out.l 2).trans (show _ = some (.int .u64 c') from rfl)
    have e2 := blk_frozen HT.out.k 2
    have d2 := blk_frozen HT.out.l 2
    have f3 := (blk_cell HT.out.k 3).trans (show _ = some (.string s) from rfl)
    have g3 := (blk_cell HT.out.l 3).trans (show _ = some (.string s') from rfl)
    have e3 := blk_frozen HT.out.k 3
    have d3 := blk_frozen HT.out.l 3
    have f4 := (blk_cell HT.out.k 4).trans (show _ = some (.string m) from rfl)
    have g4 := (blk_cell HT.out.l 4).trans (show _ = some (.string m') from rfl)
    have e4 := blk_frozen HT.out.k 4
    have d4 := blk_frozen HT.out.l 4
    go_upto_region 4 with (first | (go_at_call 40; (with_reducible refine (laws_stBare.calls a b c s m a' b' c' s' m' kk A B C S M A' B' C' S' M' _ _ h3).mono ?_); rintro e w3 ⟨rfl, hb⟩; replace HT := Aside0.mk (Two1.on (by (with_reducible repeat (first | exact HT.out | apply Two1.drew | apply Two1.drewN | apply Two1.alloc))) hb); clear hb; clear f0 g0 e0 d0 f1 g1 e1 d1 f2 g2 e2 d2 f3 g3 e3 d3 f4 g4 e4 d4; have f0 := (blk_cell HT.out.k 0).trans (show _ = some (.int .u64 a) from rfl); have g0 := (blk_cell HT.out.l 0).trans (show _ = some (.int .u64 a') from rfl); have e0 := blk_frozen HT.out.k 0; have d0 := blk_frozen HT.out.l 0; have f1 := (blk_cell HT.out.k 1).trans (show _ = some (.int .u64 b) from rfl); have g1 := (blk_cell HT.out.l 1).trans (show _ = some (.int .u64 b') from rfl); have e1 := blk_frozen HT.out.k 1; have d1 := blk_frozen HT.out.l 1; have f2 := (blk_cell HT.out.k 2).trans (show _ = some (.int .u64 c) from rfl); have g2 := (blk_cell HT.out.l 2).trans (show _ = some (.int .u64 c') from rfl); have e2 := blk_frozen HT.out.k 2; have d2 := blk_frozen HT.out.l 2; have f3 := (blk_cell HT.out.k 3).trans (show _ = some (.string s) from rfl); have g3 := (blk_cell HT.out.l 3).trans (show _ = some (.string s') from rfl); have e3 := blk_frozen HT.out.k 3; have d3 := blk_frozen HT.out.l 3; have f4 := (blk_cell HT.out.k 4).trans (show _ = some (.string m) from rfl); have g4 := (blk_cell HT.out.l 4).trans (show _ = some (.string m') from rfl); have e4 := blk_frozen HT.out.k 4; have d4 := blk_frozen HT.out.l 4))
    go_cut [30] (fun t W => t = .bool true ∧ Aside0 (Two1 w w.heap.size (w.heap.size + 1) #[.int .u64 A, .int .u64 B, .int .u64 C, .string S, .string M] #[.int .u64 A', .int .u64 B', .int .u64 C', .string S', .string M'] W))
    case first =>
      go_wp2
      go_meet
      exact ⟨rfl, Aside0.mk (two1_put HT.out NE1.out NE2.out (Nat.le_refl _) (Nat.le_succ _))⟩
    case rest =>
      obtain ⟨rfl, HT1⟩ := hcut
      clear HT f0 g0 e0 d0 f1 g1 e1 d1 f2 g2 e2 d2 f3 g3 e3 d3 f4 g4 e4 d4
      have HT := HT1
      clear HT1
      go_wp2
      go_ret
      refine ⟨rfl, Two1.bel (g := w.heap.size) (h := w.heap.size + 1) (x := #[.int .u64 A, .int .u64 B, .int .u64 C, .string S, .string M]) (y := #[.int .u64 A', .int .u64 B', .int .u64 C', .string S', .string M']) ?_⟩
      exact (by (with_reducible repeat (first | exact HT.out | apply Two1.drew | apply Two1.drewN | apply Two1.alloc)))
set_option maxHeartbeats 4000000 in
set_option maxRecDepth 100000 in
theorem one_4 (n : Nat) (a b c a' b' c' : Int) (s m s' m' : ByteArray) (kk : Int) (A B C A' B' C' : Int) (S M S' M' : ByteArray) (R2 R3 R4 R5 : Int) (R6 : ByteArray) (w : World) (hG : GlobE w) (h1 : laws_zzFits14.f a b c s m = some true) (h2 : laws_zzFits14.f a' b' c' s' m' = some true) (h3 : laws_stBare.f a b c s m a' b' c' s' m' kk = some (A, B, C, S, M, A', B', C', S', M', true)) (h4 : laws_stTerm.f 0 A B C S M kk = some (0, R2, R3, R4, R5, R6)) (h5 : impl_BelowHolds.f n 0 R2 R3 R4 R5 R6 A' B' C' S' M' false = some true) (h6 : impl_EqualHolds.f n 0 R2 R3 R4 R5 R6 A' B' C' S' M' false = some false) (h7 : impl_AboveHolds.f n 0 R2 R3 R4 R5 R6 A' B' C' S' M' false = some false) (h8 : impl_NotEqualHolds.f n 0 R2 R3 R4 R5 R6 A' B' C' S' M' false = some true) (h9 : impl_LeastHolds.f n 0 R2 R3 R4 R5 R6 A' B' C' S' M' false = some false) (h10 : impl_MostHolds.f n 0 R2 R3 R4 R5 R6 A' B' C' S' M' false = some true) :
  Calls Tryd.prog 10 #[.agg #[.int .u64 a, .int .u64 b, .int .u64 c, .string s, .string m], .int .i64 kk, .agg #[.int .u64 a', .int .u64 b', .int .u64 c', .string s', .string m']] w fun e w' => e = .returned (.bool true) ∧ Below w.heap.size w w' := by
  have HG := Aside0.mk hG
  clear hG
  have NE1 := Aside0.mk (show w.heap.size ≠ w.heap.size + 1 by omega)
  have NE2 := Aside0.mk (show w.heap.size + 1 ≠ w.heap.size by omega)
  have HT := Aside0.mk (two1_start w #[.int .u64 a, .int .u64 b, .int .u64 c, .string s, .string m] #[.int .u64 a', .int .u64 b', .int .u64 c', .string s', .string m'])
  go_enter Tryd.func10, Tryd.ntmps10
  go_upto_region 1 with fail
  go_cut [20] (fun t W => t = .bool false ∧ Aside0 (Two1 w w.heap.size (w.heap.size + 1) #[.int .u64 a, .int .u64 b, .int .u64 c, .string s, .string m] #[.int .u64 a', .int .u64 b', .int .u64 c', .string s', .string m'] W))
  case first =>
    have f0 := (blk_cell HT.out.k 0).trans (show _ = some (.int .u64 a) from rfl)
    have g0 := (blk_cell HT.out.l 0).trans (show _ = some (.int .u64 a') from rfl)
    have e0 := blk_frozen HT.out.k 0
    have d0 := blk_frozen HT.out.l 0
    have f1 := (blk_cell HT.out.k 1).trans (show _ = some (.int .u64 b) from rfl)
    have g1 := (blk_cell HT.out.l 1).trans (show _ = some (.int .u64 b') from rfl)
    have e1 := blk_frozen HT.out.k 1
    have d1 := blk_frozen HT.out.l 1
    have f2 := (blk_cell HT.out.k 2).trans (show _ = some (.int .u64 c) from rfl)
    have g2 := (blk_cell HT.out.l 2).trans (show _ = some (.int .u64 c') from rfl)
    have e2 := blk_frozen HT.out.k 2
    have d2 := blk_frozen HT.out.l 2
    have f3 := (blk_cell HT.out.k 3).trans (show _ = some (.string s) from rfl)
    have g3 := (blk_cell HT.out.l 3).trans (show _ = some (.string s') from rfl)
    have e3 := blk_frozen HT.out.k 3
    have d3 := blk_frozen HT.out.l 3
    have f4 := (blk_cell HT.out.k 4).trans (show _ = some (.string m) from rfl)
    have g4 := (blk_cell HT.out.l 4).trans (show _ = some (.string m') from rfl)
    have e4 := blk_frozen HT.out.k 4
    have d4 := blk_frozen HT.out.l 4
    go_wp2_with (first | (go_at_call 17; (with_reducible refine (laws_zzFits14.calls a b c s m _ _ h1).mono ?_); rintro e w3 ⟨rfl, hb⟩; replace HT := Aside0.mk (Two1.on (by (with_reducible repeat (first | exact HT.out | apply Two1.drew | apply Two1.drewN | apply Two1.alloc))) hb); clear hb; clear f0 g0 e0 d0 f1 g1 e1 d1 f2 g2 e2 d2 f3 g3 e3 d3 f4 g4 e4 d4; have f0 := (blk_cell HT.out.k 0).trans (show _ = some (.int .u64 a) from rfl); have g0 := (blk_cell HT.out.l 0).trans (show _ = some (.int .u64 a') from rfl); have e0 := blk_frozen HT.out.k 0; have d0 := blk_frozen HT.out.l 0; have f1 := (blk_cell HT.out.k 1).trans (show _ = some (.int .u64 b) from rfl); have g1 := (blk_cell HT.out.l 1).trans (show _ = some (.int .u64 b') from rfl); have e1 := blk_frozen HT.out.k 1; have d1 := blk_frozen HT.out.l 1; have f2 := (blk_cell HT.out.k 2).trans (show _ = some (.int .u64 c) from rfl); have g2 := (blk_cell HT.out.l 2).trans (show _ = some (.int .u64 c') from rfl); have e2 := blk_frozen HT.out.k 2; have d2 := blk_frozen HT.out.l 2; have f3 := (blk_cell HT.out.k 3).trans (show _ = some (.string s) from rfl); have g3 := (blk_cell HT.out.l 3).trans (show _ = some (.string s') from rfl); have e3 := blk_frozen HT.out.k 3; have d3 := blk_frozen HT.out.l 3; have f4 := (blk_cell HT.out.k 4).trans (show _ = some (.string m) from rfl); have g4 := (blk_cell HT.out.l 4).trans (show _ = some (.string m') from rfl); have e4 := blk_frozen HT.out.k 4; have d4 := blk_frozen HT.out.l 4) | (go_at_call 17; (with_reducible refine (laws_zzFits14.calls a' b' c' s' m' _ _ h2).mono ?_); rintro e w3 ⟨rfl, hb⟩; replace HT := Aside0.mk (Two1.on (by (with_reducible repeat (first | exact HT.out | apply Two1.drew | apply Two1.drewN | apply Two1.alloc))) hb); clear hb; clear f0 g0 e0 d0 f1 g1 e1 d1 f2 g2 e2 d2 f3 g3 e3 d3 f4 g4 e4 d4; have f0 := (blk_cell HT.out.k 0).trans (show _ = some (.int .u64 a) from rfl); have g0 := (blk_cell HT.out.l 0).trans (show _ = some (.int .u64 a') from rfl); have e0 := blk_frozen HT.out.k 0; have d0 := blk_frozen HT.out.l 0; have f1 := (blk_cell HT.out.k 1).trans (show _ = some (.int .u64 b) from rfl); have g1 := (blk_cell HT.out.l 1).trans (show _ = some (.int .u64 b') from rfl); have e1 := blk_frozen HT.out.k 1; have d1 := blk_frozen HT.out.l 1; have f2 := (blk_cell HT.out.k 2).trans (show _ = some (.int .u64 c) from rfl); have g2 := (blk_cell HT.out.l 2).trans (show _ = some (.int .u64 c') from rfl); have e2 := blk_frozen HT.out.k 2; have d2 := blk_frozen HT.out.l 2; have f3 := (blk_cell HT.out.k 3).trans (show _ = some (.string s) from rfl); have g3 := (blk_cell HT.out.l 3).trans (show _ = some (.string s') from rfl); have e3 := blk_frozen HT.out.k 3; have d3 := blk_frozen HT.out.l 3; have f4 := (blk_cell HT.out.k 4).trans (show _ = some (.string m) from rfl); have g4 := (blk_cell HT.out.l 4).trans (show _ = some (.string m') from rfl); have e4 := blk_frozen HT.out.k 4; have d4 := blk_frozen HT.out.l 4))
    go_meet
    exact ⟨rfl, Aside0.mk (by (with_reducible repeat (first | exact HT.out | apply Two1.drew | apply Two1.drewN | apply Two1.alloc)))⟩
  case rest =>
    obtain ⟨rfl, HT1⟩ := hcut
    clear HT
    have HT := HT1
    clear HT1
    have f0 := (blk_cell HT.out.k 0).trans (show _ = some (.int .u64 a) from rfl)
    have g0 := (blk_cell HT.out.l 0).trans (show _ = some (.int .u64 a') from rfl)
    have e0 := blk_frozen HT.out.k 0
    have d0 := blk_frozen HT.out.l 0
    have f1 := (blk_cell HT.out.k 1).trans (show _ = some (.int .u64 b) from rfl)
    have g1 := (blk_cell HT.out.l 1).trans (show _ = some (.int .u64 b') from rfl)
    have e1 := blk_frozen HT.out.k 1
    have d1 := blk_frozen HT.out.l 1
    have f2 := (blk_cell HT.out.k 2).trans (show _ = some (.int .u64 c) from rfl)
    have g2 := (blk_cell HT.out.l 2).trans (show _ = some (.int .u64 c') from rfl)
    have e2 := blk_frozen HT.out.k 2
    have d2 := blk_frozen HT.out.l 2
    have f3 := (blk_cell HT.out.k 3).trans (show _ = some (.string s) from rfl)
    have g3 := (blk_cell HT.out.l 3).trans (show _ = some (.string s') from rfl)
    have e3 := blk_frozen HT.out.k 3
    have d3 := blk_frozen HT.out.l 3
    have f4 := (blk_cell HT.out.k 4).trans (show _ = some (.string m) from rfl)
    have g4 := (blk_cell HT.out.l 4).trans (show _ = some (.string m') from rfl)
    have e4 := blk_frozen HT.out.k 4
    have d4 := blk_frozen HT.out.l 4
    go_upto_region 4 with (first | (go_at_call 40; (with_reducible refine (laws_stBare.calls a b c s m a' b' c' s' m' kk A B C S M A' B' C' S' M' _ _ h3).mono ?_); rintro e w3 ⟨rfl, hb⟩; replace HT := Aside0.mk (Two1.on (by (with_reducible repeat (first | exact HT.out | apply Two1.drew | apply Two1.drewN | apply Two1.alloc))) hb); clear hb; clear f0 g0 e0 d0 f1 g1 e1 d1 f2 g2 e2 d2 f3 g3 e3 d3 f4 g4 e4 d4; have f0 := (blk_cell HT.out.k 0).trans (show _ = some (.int .u64 a) from rfl); have g0 := (blk_cell HT.out.l 0).trans (show _ = some (.int .u64 a') from rfl); have e0 := blk_frozen HT.out.k 0; have d0 := blk_frozen HT.out.l 0; have f1 := (blk_cell HT.out.k 1).trans (show _ = some (.int .u64 b) from rfl); have g1 := (blk_cell HT.out.l 1).trans (show _ = some (.int .u64 b') from rfl); have e1 := blk_frozen HT.out.k 1; have d1 := blk_frozen HT.out.l 1; have f2 := (blk_cell HT.out.k 2).trans (show _ = some (.int .u64 c) from rfl); have g2 := (blk_cell HT.out.l 2).trans (show _ = some (.int .u64 c') from rfl); have e2 := blk_frozen HT.out.k 2; have d2 := blk_frozen HT.out.l 2; have f3 := (blk_cell HT.out.k 3).trans (show _ = some (.string s) from rfl); have g3 := (blk_cell HT.out.l 3).trans (show _ = some (.string s') from rfl); have e3 := blk_frozen HT.out.k 3; have d3 := blk_frozen HT.out.l 3; have f4 := (blk_cell HT.out.k 4).trans (show _ = some (.string m) from rfl); have g4 := (blk_cell HT.out.l 4).trans (show _ = some (.string m') from rfl); have e4 := blk_frozen HT.out.k 4; have d4 := blk_frozen HT.out.l 4))
    go_cut [30] (fun t W => t = .bool false ∧ Aside0 (Two1 w w.heap.size (w.heap.size + 1) #[.int .u64 A, .int .u64 B, .int .u64 C, .string S, .string M] #[.int .u64 A', .int .u64 B', .int .u64 C', .string S', .string M'] W))
    case first =>
      go_wp2
      go_meet
      exact ⟨rfl, Aside0.mk (two1_put HT.out NE1.out NE2.out (Nat.le_refl _) (Nat.le_succ _))⟩
    case rest =>
      obtain ⟨rfl, HT1⟩ := hcut
      clear HT f0 g0 e0 d0 f1 g1 e1 d1 f2 g2 e2 d2 f3 g3 e3 d3 f4 g4 e4 d4
      have HT := HT1
      clear HT1
      have f0 := (blk_cell HT.out.k 0).trans (show _ = some (.int .u64 A) from rfl)
      have g0 := (blk_cell HT.out.l 0).trans (show _ = some (.int .u64 A') from rfl)
      have e0 := blk_frozen HT.out.k 0
      have d0 := blk_frozen HT.out.l 0
      have f1 := (blk_cell HT.out.k 1).trans (show _ = some (.int .u64 B) from rfl)
      have g1 := (blk_cell HT.out.l 1).trans (show _ = some (.int .u64 B') from rfl)
      have e1 := blk_frozen HT.out.k 1
      have d1 := blk_frozen HT.out.l 1
      have f2 := (blk_cell HT.out.k 2).trans (show _ = some (.int .u64 C) from rfl)
      have g2 := (blk_cell HT.out.l 2).trans (show _ = some (.int .u64 C') from rfl)
      have e2 := blk_frozen HT.out.k 2
      have d2 := blk_frozen HT.out.l 2
      have f3 := (blk_cell HT.out.k 3).trans (show _ = some (.string S) from rfl)
      have g3 := (blk_cell HT.out.l 3).trans (show _ = some (.string S') from rfl)
      have e3 := blk_frozen HT.out.k 3
      have d3 := blk_frozen HT.out.l 3
      have f4 := (blk_cell HT.out.k 4).trans (show _ = some (.string M) from rfl)
      have g4 := (blk_cell HT.out.l 4).trans (show _ = some (.string M') from rfl)
      have e4 := blk_frozen HT.out.k 4
      have d4 := blk_frozen HT.out.l 4
      go_upto_region 7 with (first | (go_at_call 37; (with_reducible refine (laws_stTerm.calls 0 A B C S M kk 0 R2 R3 R4 R5 R6 _ h4).mono ?_); rintro e w3 ⟨rfl, hb⟩; replace HT := Aside0.mk (Two1.on (by (with_reducible repeat (first | exact HT.out | apply Two1.drew | apply Two1.drewN | apply Two1.alloc))) hb); clear hb; clear f0 g0 e0 d0 f1 g1 e1 d1 f2 g2 e2 d2 f3 g3 e3 d3 f4 g4 e4 d4; have f0 := (blk_cell HT.out.k 0).trans (show _ = some (.int .u64 A) from rfl); have g0 := (blk_cell HT.out.l 0).trans (show _ = some (.int .u64 A') from rfl); have e0 := blk_frozen HT.out.k 0; have d0 := blk_frozen HT.out.l 0; have f1 := (blk_cell HT.out.k 1).trans (show _ = some (.int .u64 B) from rfl); have g1 := (blk_cell HT.out.l 1).trans (show _ = some (.int .u64 B') from rfl); have e1 := blk_frozen HT.out.k 1; have d1 := blk_frozen HT.out.l 1; have f2 := (blk_cell HT.out.k 2).trans (show _ = some (.int .u64 C) from rfl); have g2 := (blk_cell HT.out.l 2).trans (show _ = some (.int .u64 C') from rfl); have e2 := blk_frozen HT.out.k 2; have d2 := blk_frozen HT.out.l 2; have f3 := (blk_cell HT.out.k 3).trans (show _ = some (.string S) from rfl); have g3 := (blk_cell HT.out.l 3).trans (show _ = some (.string S') from rfl); have e3 := blk_frozen HT.out.k 3; have d3 := blk_frozen HT.out.l 3; have f4 := (blk_cell HT.out.k 4).trans (show _ = some (.string M) from rfl); have g4 := (blk_cell HT.out.l 4).trans (show _ = some (.string M') from rfl); have e4 := blk_frozen HT.out.k 4; have d4 := blk_frozen HT.out.l 4))
      have HQ0 := Aside0.mk (thr_start HT.out #[.int .i64 0, .int .i64 R2, .int .u64 R3, .int .u64 R4, .int .u64 R5, .string R6])
      clear HT f0 g0 e0 d0 f1 g1 e1 d1 f2 g2 e2 d2 f3 g3 e3 d3 f4 g4 e4 d4
      generalize hi0 : w3.heap.size = i0 at HQ0 ⊢
      (try rw [hi0])
      generalize w3.alloc (.cells #[.int .i64 0, .int .i64 R2, .int .u64 R3, .int .u64 R4, .int .u64 R5, .string R6] 36) = W5 at HQ0 ⊢
      have HQ := HQ0
      clear HQ0 hi0
      first | go_region_held3 (fun W => W.cell? ⟨i0, 0, none⟩ = some (.int .i64 0) ∧ W.cell? ⟨i0, 1, none⟩ = some (.int .i64 R2) ∧ W.cell? ⟨i0, 2, none⟩ = some (.int .u64 R3) ∧ W.cell? ⟨i0, 3, none⟩ = some (.int .u64 R4) ∧ W.cell? ⟨i0, 4, none⟩ = some (.int .u64 R5) ∧ W.cell? ⟨i0, 5, none⟩ = some (.string R6) ∧ W.cell? ⟨w.heap.size + 1, 0, none⟩ = some (.int .u64 A') ∧ W.cell? ⟨w.heap.size + 1, 1, none⟩ = some (.int .u64 B') ∧ W.cell? ⟨w.heap.size + 1, 2, none⟩ = some (.int .u64 C') ∧ W.cell? ⟨w.heap.size + 1, 3, none⟩ = some (.string S') ∧ W.cell? ⟨w.heap.size + 1, 4, none⟩ = some (.string M') ∧ Aside0 (Thr w w.heap.size (w.heap.size + 1) i0 #[.int .u64 A, .int .u64 B, .int .u64 C, .string S, .string M] #[.int .u64 A', .int .u64 B', .int .u64 C', .string S', .string M'] #[.int .i64 0, .int .i64 R2, .int .u64 R3, .int .u64 R4, .int .u64 R5, .string R6] W)) (first | assumption | exact thr_held (HQ.out.on (drew_below _)) | (refine thr_held (Thr.on ?_ (by assumption)); first | exact (aside_last (by assumption)) | exact HQ.out.on (drew_below _))) (first | (go_at_call 41; (with_reducible refine (impl_BelowHolds.calls n 0 R2 R3 R4 R5 R6 A' B' C' S' M' false true _ (globE_below HG.out (by repeat (first | exact HQ.out.t.bel | apply bl_drew | apply bl_alloc))) h5).mono ?_); rintro e w4 ⟨rfl, hb1⟩) | (go_at_call 42; (with_reducible refine (impl_EqualHolds.calls n 0 R2 R3 R4 R5 R6 A' B' C' S' M' false false _ (globE_below HG.out (bl_on (by repeat (first | exact HQ.out.t.bel | apply bl_drew | apply bl_alloc)) hb1)) h6).mono ?_); rintro e w4 ⟨rfl, hb2⟩) | (go_at_call 43; (with_reducible refine (impl_AboveHolds.calls n 0 R2 R3 R4 R5 R6 A' B' C' S' M' false false _ (globE_below HG.out (bl_on (bl_on (by repeat (first | exact HQ.out.t.bel | apply bl_drew | apply bl_alloc)) hb1) hb2)) h7).mono ?_); rintro e w4 ⟨rfl, hb3⟩)) | fail
      rename_i hH
      replace HQ := Aside0.mk (aside_last hH)
      clear hH
      have t0 := (blk_cell HQ.out.z 0).trans (show _ = some (.int .i64 0) from rfl)
      have t1 := (blk_cell HQ.out.z 1).trans (show _ = some (.int .i64 R2) from rfl)
      have t2 := (blk_cell HQ.out.z 2).trans (show _ = some (.int .u64 R3) from rfl)
      have t3 := (blk_cell HQ.out.z 3).trans (show _ = some (.int .u64 R4) from rfl)
      have t4 := (blk_cell HQ.out.z 4).trans (show _ = some (.int .u64 R5) from rfl)
      have t5 := (blk_cell HQ.out.z 5).trans (show _ = some (.string R6) from rfl)
      have g0 := (blk_cell HQ.out.t.l 0).trans (show _ = some (.int .u64 A') from rfl)
      have g1 := (blk_cell HQ.out.t.l 1).trans (show _ = some (.int .u64 B') from rfl)
      have g2 := (blk_cell HQ.out.t.l 2).trans (show _ = some (.int .u64 C') from rfl)
      have g3 := (blk_cell HQ.out.t.l 3).trans (show _ = some (.string S') from rfl)
      have g4 := (blk_cell HQ.out.t.l 4).trans (show _ = some (.string M') from rfl)
      have e0 := blk_frozen HQ.out.z 0
      have e1 := blk_frozen HQ.out.z 1
      have e2 := blk_frozen HQ.out.z 2
      have e3 := blk_frozen HQ.out.z 3
      have e4 := blk_frozen HQ.out.z 4
      have e5 := blk_frozen HQ.out.z 5
      have d0 := blk_frozen HQ.out.t.l 0
      have d1 := blk_frozen HQ.out.t.l 1
      have d2 := blk_frozen HQ.out.t.l 2
      have d3 := blk_frozen HQ.out.t.l 3
      have d4 := blk_frozen HQ.out.t.l 4
      go_wp2_with (first | (go_at_call 44; (with_reducible refine (impl_NotEqualHolds.calls n 0 R2 R3 R4 R5 R6 A' B' C' S' M' false true _ (globE_below HG.out (Two1.bel (Thr.t (by (with_reducible repeat (first | exact HQ.out | apply Thr.drew | apply Thr.drewN | apply Thr.alloc)))))) h8).mono ?_); rintro e w5 ⟨rfl, hb⟩; replace HQ := Aside0.mk (Thr.on (by (with_reducible repeat (first | exact HQ.out | apply Thr.drew | apply Thr.drewN | apply Thr.alloc))) hb); clear hb t0 e0 t1 e1 t2 e2 t3 e3 t4 e4 t5 e5 g0 d0 g1 d1 g2 d2 g3 d3 g4 d4; have t0 := (blk_cell HQ.out.z 0).trans (show _ = some (.int .i64 0) from rfl); have t1 := (blk_cell HQ.out.z 1).trans (show _ = some (.int .i64 R2) from rfl); have t2 := (blk_cell HQ.out.z 2).trans (show _ = some (.int .u64 R3) from rfl); have t3 := (blk_cell HQ.out.z 3).trans (show _ = some (.int .u64 R4) from rfl); have t4 := (blk_cell HQ.out.z 4).trans (show _ = some (.int .u64 R5) from rfl); have t5 := (blk_cell HQ.out.z 5).trans (show _ = some (.string R6) from rfl); have g0 := (blk_cell HQ.out.t.l 0).trans (show _ = some (.int .u64 A') from rfl); have g1 := (blk_cell HQ.out.t.l 1).trans (show _ = some (.int .u64 B') from rfl); have g2 := (blk_cell HQ.out.t.l 2).trans (show _ = some (.int .u64 C') from rfl); have g3 := (blk_cell HQ.out.t.l 3).trans (show _ = some (.string S') from rfl); have g4 := (blk_cell HQ.out.t.l 4).trans (show _ = some (.string M') from rfl); have e0 := blk_frozen HQ.out.z 0; have e1 := blk_frozen HQ.out.z 1; have e2 := blk_frozen HQ.out.z 2; have e3 := blk_frozen HQ.out.z 3; have e4 := blk_frozen HQ.out.z 4; have e5 := blk_frozen HQ.out.z 5; have d0 := blk_frozen HQ.out.t.l 0; have d1 := blk_frozen HQ.out.t.l 1; have d2 := blk_frozen HQ.out.t.l 2; have d3 := blk_frozen HQ.out.t.l 3; have d4 := blk_frozen HQ.out.t.l 4) | (go_at_call 45; (with_reducible refine (impl_LeastHolds.calls n 0 R2 R3 R4 R5 R6 A' B' C' S' M' false false _ (globE_below HG.out (Two1.bel (Thr.t (by (with_reducible repeat (first | exact HQ.out | apply Thr.drew | apply Thr.drewN | apply Thr.alloc)))))) h9).mono ?_); rintro e w5 ⟨rfl, hb⟩; replace HQ := Aside0.mk (Thr.on (by (with_reducible repeat (first | exact HQ.out | apply Thr.drew | apply Thr.drewN | apply Thr.alloc))) hb); clear hb t0 e0 t1 e1 t2 e2 t3 e3 t4 e4 t5 e5 g0 d0 g1 d1 g2 d2 g3 d3 g4 d4; have t0 := (blk_cell HQ.out.z 0).trans (show _ = some (.int .i64 0) from rfl); have t1 := (blk_cell HQ.out.z 1).trans (show _ = some (.int .i64 R2) from rfl); have t2 := (blk_cell HQ.out.z 2).trans (show _ = some (.int .u64 R3) from rfl); have t3 := (blk_cell HQ.out.z 3).trans (show _ = some (.int .u64 R4) from rfl); have t4 := (blk_cell HQ.out.z 4).trans (show _ = some (.int .u64 R5) from rfl); have t5 := (blk_cell HQ.out.z 5).trans (show _ = some (.string R6) from rfl); have g0 := (blk_cell HQ.out.t.l 0).trans (show _ = some (.int .u64 A') from rfl); have g1 := (blk_cell HQ.out.t.l 1).trans (show _ = some (.int .u64 B') from rfl); have g2 := (blk_cell HQ.out.t.l 2).trans (show _ = some (.int .u64 C') from rfl); have g3 := (blk_cell HQ.out.t.l 3).trans (show _ = some (.string S') from rfl); have g4 := (blk_cell HQ.out.t.l 4).trans (show _ = some (.string M') from rfl); have e0 := blk_frozen HQ.out.z 0; have e1 := blk_frozen HQ.out.z 1; have e2 := blk_frozen HQ.out.z 2; have e3 := blk_frozen HQ.out.z 3; have e4 := blk_frozen HQ.out.z 4; have e5 := blk_frozen HQ.out.z 5; have d0 := blk_frozen HQ.out.t.l 0; have d1 := blk_frozen HQ.out.t.l 1; have d2 := blk_frozen HQ.out.t.l 2; have d3 := blk_frozen HQ.out.t.l 3; have d4 := blk_frozen HQ.out.t.l 4) | (go_at_call 35; (with_reducible refine (impl_MostHolds.calls n 0 R2 R3 R4 R5 R6 A' B' C' S' M' false true _ (globE_below HG.out (Two1.bel (Thr.t (by (with_reducible repeat (first | exact HQ.out | apply Thr.drew | apply Thr.drewN | apply Thr.alloc)))))) h10).mono ?_); rintro e w5 ⟨rfl, hb⟩; replace HQ := Aside0.mk (Thr.on (by (with_reducible repeat (first | exact HQ.out | apply Thr.drew | apply Thr.drewN | apply Thr.alloc))) hb); clear hb t0 e0 t1 e1 t2 e2 t3 e3 t4 e4 t5 e5 g0 d0 g1 d1 g2 d2 g3 d3 g4 d4; have t0 := (blk_cell HQ.out.z 0).trans (show _ = some (.int .i64 0) from rfl); have t1 := (blk_cell HQ.out.z 1).trans (show _ = some (.int .i64 R2) from rfl); have t2 := (blk_cell HQ.out.z 2).trans (show _ = some (.int .u64 R3) from rfl); have t3 := (blk_cell HQ.out.z 3).trans (show _ = some (.int .u64 R4) from rfl); have t4 := (blk_cell HQ.out.z 4).trans (show _ = some (.int .u64 R5) from rfl); have t5 := (blk_cell HQ.out.z 5).trans (show _ = some (.string R6) from rfl); have g0 := (blk_cell HQ.out.t.l 0).trans (show _ = some (.int .u64 A') from rfl); have g1 := (blk_cell HQ.out.t.l 1).trans (show _ = some (.int .u64 B') from rfl); have g2 := (blk_cell HQ.out.t.l 2).trans (show _ = some (.int .u64 C') from rfl); have g3 := (blk_cell HQ.out.t.l 3).trans (show _ = some (.string S') from rfl); have g4 := (blk_cell HQ.out.t.l 4).trans (show _ = some (.string M') from rfl); have e0 := blk_frozen HQ.out.z 0; have e1 := blk_frozen HQ.out.z 1; have e2 := blk_frozen HQ.out.z 2; have e3 := blk_frozen HQ.out.z 3; have e4 := blk_frozen HQ.out.z 4; have e5 := blk_frozen HQ.out.z 5; have d0 := blk_frozen HQ.out.t.l 0; have d1 := blk_frozen HQ.out.t.l 1; have d2 := blk_frozen HQ.out.t.l 2; have d3 := blk_frozen HQ.out.t.l 3; have d4 := blk_frozen HQ.out.t.l 4))
      go_ret
      exact ⟨by first | rfl | simp, Two1.bel (Thr.t (g := w.heap.size) (h := w.heap.size + 1) (i := i0) (x := #[.int .u64 A, .int .u64 B, .int .u64 C, .string S, .string M]) (y := #[.int .u64 A', .int .u64 B', .int .u64 C', .string S', .string M']) (z := #[.int .i64 0, .int .i64 R2, .int .u64 R3, .int .u64 R4, .int .u64 R5, .string R6]) (by (with_reducible repeat (first | exact HQ.out | apply Thr.drew | apply Thr.drewN | apply Thr.alloc))))⟩
set_option maxHeartbeats 4000000 in
set_option maxRecDepth 100000 in
theorem one_5 (n : Nat) (a b c a' b' c' : Int) (s m s' m' : ByteArray) (kk : Int) (A B C A' B' C' : Int) (S M S' M' : ByteArray) (R2 R3 R4 R5 : Int) (R6 : ByteArray) (w : World) (hG : GlobE w) (h1 : laws_zzFits14.f a b c s m = some true) (h2 : laws_zzFits14.f a' b' c' s' m' = some true) (h3 : laws_stBare.f a b c s m a' b' c' s' m' kk = some (A, B, C, S, M, A', B', C', S', M', true)) (h4 : laws_stTerm.f 0 A B C S M kk = some (0, R2, R3, R4, R5, R6)) (h5 : impl_BelowHolds.f n 0 R2 R3 R4 R5 R6 A' B' C' S' M' false = some false) (h6 : impl_EqualHolds.f n 0 R2 R3 R4 R5 R6 A' B' C' S' M' false = some true) (h7 : impl_AboveHolds.f n 0 R2 R3 R4 R5 R6 A' B' C' S' M' false = some false) (h8 : impl_NotEqualHolds.f n 0 R2 R3 R4 R5 R6 A' B' C' S' M' false = some false) (h9 : impl_LeastHolds.f n 0 R2 R3 R4 R5 R6 A' B' C' S' M' false = some true) (h10 : impl_MostHolds.f n 0 R2 R3 R4 R5 R6 A' B' C' S' M' false = some true) :
  Calls Tryd.prog 10 #[.agg #[.int .u64 a, .int .u64 b, .int .u64 c, .string s, .string m], .int .i64 kk, .agg #[.int .u64 a', .int .u64 b', .int .u64 c', .string s', .string m']] w fun e w' => e = .returned (.bool true) ∧ Below w.heap.size w w' := by
  have HG := Aside0.mk hG
  clear hG
  have NE1 := Aside0.mk (show w.heap.size ≠ w.heap.size + 1 by omega)
  have NE2 := Aside0.mk (show w.heap.size + 1 ≠ w.heap.size by omega)
  have HT := Aside0.mk (two1_start w #[.int .u64 a, .int .u64 b, .int .u64 c, .string s, .string m] #[.int .u64 a', .int .u64 b', .int .u64 c', .string s', .string m'])
  go_enter Tryd.func10, Tryd.ntmps10
  go_upto_region 1 with fail
  go_cut [20] (fun t W => t = .bool false ∧ Aside0 (Two1 w w.heap.size (w.heap.size + 1) #[.int .u64 a, .int .u64 b, .int .u64 c, .string s, .string m] #[.int .u64 a', .int .u64 b', .int .u64 c', .string s', .string m'] W))
  case first =>
    have f0 := (blk_cell HT.out.k 0).trans (show _ = some (.int .u64 a) from rfl)
    have g0 := (blk_cell HT.out.l 0).trans (show _ = some (.int .u64 a') from rfl)
    have e0 := blk_frozen HT.out.k 0
    have d0 := blk_frozen HT.out.l 0
    have f1 := (blk_cell HT.out.k 1).trans (show _ = some (.int .u64 b) from rfl)
    have g1 := (blk_cell HT.out.l 1).trans (show _ = some (.int .u64 b') from rfl)
    have e1 := blk_frozen HT.out.k 1
    have d1 := blk_frozen HT.out.l 1
    have f2 := (blk_cell HT.out.k 2).trans (show _ = some (.int .u64 c) from rfl)
    have g2 := (blk_cell HT.out.l 2).trans (show _ = some (.int .u64 c') from rfl)
    have e2 := blk_frozen HT.out.k 2
    have d2 := blk_frozen HT.out.l 2
    have f3 := (blk_cell HT.out.k 3).trans (show _ = some (.string s) from rfl)
    have g3 := (blk_cell HT.out.l 3).trans (show _ = some (.string s') from rfl)
    have e3 := blk_frozen HT.out.k 3
    have d3 := blk_frozen HT.out.l 3
    have f4 := (blk_cell HT.out.k 4).trans (show _ = some (.string m) from rfl)
    have g4 := (blk_cell HT.out.l 4).trans (show _ = some (.string m') from rfl)
    have e4 := blk_frozen HT.out.k 4
    have d4 := blk_frozen HT.out.l 4
    go_wp2_with (first | (go_at_call 17; (with_reducible refine (laws_zzFits14.calls a b c s m _ _ h1).mono ?_); rintro e w3 ⟨rfl, hb⟩; replace HT := Aside0.mk (Two1.on (by (with_reducible repeat (first | exact HT.out | apply Two1.drew | apply Two1.drewN | apply Two1.alloc))) hb); clear hb; clear f0 g0 e0 d0 f1 g1 e1 d1 f2 g2 e2 d2 f3 g3 e3 d3 f4 g4 e4 d4; have f0 := (blk_cell HT.out.k 0).trans (show _ = some (.int .u64 a) from rfl); have g0 := (blk_cell HT.out.l 0).trans (show _ = some (.int .u64 a') from rfl); have e0 := blk_frozen HT.out.k 0; have d0 := blk_frozen HT.out.l 0; have f1 := (blk_cell HT.out.k 1).trans (show _ = some (.int .u64 b) from rfl); have g1 := (blk_cell HT.out.l 1).trans (show _ = some (.int .u64 b') from rfl); have e1 := blk_frozen HT.out.k 1; have d1 := blk_frozen HT.out.l 1; have f2 := (blk_cell HT.out.k 2).trans (show _ = some (.int .u64 c) from rfl); have g2 := (blk_cell HT.out.l 2).trans (show _ = some (.int .u64 c') from rfl); have e2 := blk_frozen HT.out.k 2; have d2 := blk_frozen HT.out.l 2; have f3 := (blk_cell HT.out.k 3).trans (show _ = some (.string s) from rfl); have g3 := (blk_cell HT.out.l 3).trans (show _ = some (.string s') from rfl); have e3 := blk_frozen HT.out.k 3; have d3 := blk_frozen HT.out.l 3; have f4 := (blk_cell HT.out.k 4).trans (show _ = some (.string m) from rfl); have g4 := (blk_cell HT.out.l 4).trans (show _ = some (.string m') from rfl); have e4 := blk_frozen HT.out.k 4; have d4 := blk_frozen HT.out.l 4) | (go_at_call 17; (with_reducible refine (laws_zzFits14.calls a' b' c' s' m' _ _ h2).mono ?_); rintro e w3 ⟨rfl, hb⟩; replace HT := Aside0.mk (Two1.on (by (with_reducible repeat (first | exact HT.out | apply Two1.drew | apply Two1.drewN | apply Two1.alloc))) hb); clear hb; clear f0 g0 e0 d0 f1 g1 e1 d1 f2 g2 e2 d2 f3 g3 e3 d3 f4 g4 e4 d4; have f0 := (blk_cell HT.out.k 0).trans (show _ = some (.int .u64 a) from rfl); have g0 := (blk_cell HT.out.l 0).trans (show _ = some (.int .u64 a') from rfl); have e0 := blk_frozen HT.out.k 0; have d0 := blk_frozen HT.out.l 0; have f1 := (blk_cell HT.out.k 1).trans (show _ = some (.int .u64 b) from rfl); have g1 := (blk_cell HT.out.l 1).trans (show _ = some (.int .u64 b') from rfl); have e1 := blk_frozen HT.out.k 1; have d1 := blk_frozen HT.out.l 1; have f2 := (blk_cell HT.out.k 2).trans (show _ = some (.int .u64 c) from rfl); have g2 := (blk_cell HT.out.l 2).trans (show _ = some (.int .u64 c') from rfl); have e2 := blk_frozen HT.out.k 2; have d2 := blk_frozen HT.out.l 2; have f3 := (blk_cell HT.out.k 3).trans (show _ = some (.string s) from rfl); have g3 := (blk_cell HT.out.l 3).trans (show _ = some (.string s') from rfl); have e3 := blk_frozen HT.out.k 3; have d3 := blk_frozen HT.out.l 3; have f4 := (blk_cell HT.out.k 4).trans (show _ = some (.string m) from rfl); have g4 := (blk_cell HT.out.l 4).trans (show _ = some (.string m') from rfl); have e4 := blk_frozen HT.out.k 4; have d4 := blk_frozen HT.out.l 4))
    go_meet
    exact ⟨rfl, Aside0.mk (by (with_reducible repeat (first | exact HT.out | apply Two1.drew | apply Two1.drewN | apply Two1.alloc)))⟩
  case rest =>
    obtain ⟨rfl, HT1⟩ := hcut
    clear HT
    have HT := HT1
    clear HT1
    have f0 := (blk_cell HT.out.k 0).trans (show _ = some (.int .u64 a) from rfl)
    have g0 := (blk_cell HT.out.l 0).trans (show _ = some (.int .u64 a') from rfl)
    have e0 := blk_frozen HT.out.k 0
    have d0 := blk_frozen HT.out.l 0
    have f1 := (blk_cell HT.out.k 1).trans (show _ = some (.int .u64 b) from rfl)
    have g1 := (blk_cell HT.out.l 1).trans (show _ = some (.int .u64 b') from rfl)
    have e1 := blk_frozen HT.out.k 1
    have d1 := blk_frozen HT.out.l 1
    have f2 := (blk_cell HT.out.k 2).trans (show _ = some (.int .u64 c) from rfl)
    have g2 := (blk_cell HT.out.l 2).trans (show _ = some (.int .u64 c') from rfl)
    have e2 := blk_frozen HT.out.k 2
    have d2 := blk_frozen HT.out.l 2
    have f3 := (blk_cell HT.out.k 3).trans (show _ = some (.string s) from rfl)
    have g3 := (blk_cell HT.out.l 3).trans (show _ = some (.string s') from rfl)
    have e3 := blk_frozen HT.out.k 3
    have d3 := blk_frozen HT.out.l 3
    have f4 := (blk_cell HT.out.k 4).trans (show _ = some (.string m) from rfl)
    have g4 := (blk_cell HT.out.l 4).trans (show _ = some (.string m') from rfl)
    have e4 := blk_frozen HT.out.k 4
    have d4 := blk_frozen HT.out.l 4
    go_upto_region 4 with (first | (go_at_call 40; (with_reducible refine (laws_stBare.calls a b c s m a' b' c' s' m' kk A B C S M A' B' C' S' M' _ _ h3).mono ?_); rintro e w3 ⟨rfl, hb⟩; replace HT := Aside0.mk (Two1.on (by (with_reducible repeat (first | exact HT.out | apply Two1.drew | apply Two1.drewN | apply Two1.alloc))) hb); clear hb; clear f0 g0 e0 d0 f1 g1 e1 d1 f2 g2 e2 d2 f3 g3 e3 d3 f4 g4 e4 d4; have f0 := (blk_cell HT.out.k 0).trans (show _ = some (.int .u64 a) from rfl); have g0 := (blk_cell HT.out.l 0).trans (show _ = some (.int .u64 a') from rfl); have e0 := blk_frozen HT.out.k 0; have d0 := blk_frozen HT.out.l 0; have f1 := (blk_cell HT.out.k 1).trans (show _ = some (.int .u64 b) from rfl); have g1 := (blk_cell HT.out.l 1).trans (show _ = some (.int .u64 b') from rfl); have e1 := blk_frozen HT.out.k 1; have d1 := blk_frozen HT.out.l 1; have f2 := (blk_cell HT.out.k 2).trans (show _ = some (.int .u64 c) from rfl); have g2 := (blk_cell HT.out.l 2).trans (show _ = some (.int .u64 c') from rfl); have e2 := blk_frozen HT.out.k 2; have d2 := blk_frozen HT.out.l 2; have f3 := (blk_cell HT.out.k 3).trans (show _ = some (.string s) from rfl); have g3 := (blk_cell HT.out.l 3).trans (show _ = some (.string s') from rfl); have e3 := blk_frozen HT.out.k 3; have d3 := blk_frozen HT.out.l 3; have f4 := (blk_cell HT.out.k 4).trans (show _ = some (.string m) from rfl); have g4 := (blk_cell HT.out.l 4).trans (show _ = some (.string m') from rfl); have e4 := blk_frozen HT.out.k 4; have d4 := blk_frozen HT.out.l 4))
    go_cut [30] (fun t W => t = .bool false ∧ Aside0 (Two1 w w.heap.size (w.heap.size + 1) #[.int .u64 A, .int .u64 B, .int .u64 C, .string S, .string M] #[.int .u64 A', .int .u64 B', .int .u64 C', .string S', .string M'] W))
    case first =>
      go_wp2
      go_meet
      exact ⟨rfl, Aside0.mk (two1_put HT.out NE1.out NE2.out (Nat.le_refl _) (Nat.le_succ _))⟩
    case rest =>
      obtain ⟨rfl, HT1⟩ := hcut
      clear HT f0 g0 e0 d0 f1 g1 e1 d1 f2 g2 e2 d2 f3 g3 e3 d3 f4 g4 e4 d4
      have HT := HT1
      clear HT1
      have f0 := (blk_cell HT.out.k 0).trans (show _ = some (.int .u64 A) from rfl)
      have g0 := (blk_cell HT.out.l 0).trans (show _ = some (.int .u64 A') from rfl)
      have e0 := blk_frozen HT.out.k 0
      have d0 := blk_frozen HT.out.l 0
      have f1 := (blk_cell HT.out.k 1).trans (show _ = some (.int .u64 B) from rfl)
      have g1 := (blk_cell HT.out.l 1).trans (show _ = some (.int .u64 B') from rfl)
      have e1 := blk_frozen HT.out.k 1
      have d1 := blk_frozen HT.out.l 1
      have f2 := (blk_cell HT.out.k 2).trans (show _ = some (.int .u64 C) from rfl)
      have g2 := (blk_cell HT.out.l 2).trans (show _ = some (.int .u64 C') from rfl)
      have e2 := blk_frozen HT.out.k 2
      have d2 := blk_frozen HT.out.l 2
      have f3 := (blk_cell HT.out.k 3).trans (show _ = some (.string S) from rfl)
      have g3 := (blk_cell HT.out.l 3).trans (show _ = some (.string S') from rfl)
      have e3 := blk_frozen HT.out.k 3
      have d3 := blk_frozen HT.out.l 3
      have f4 := (blk_cell HT.out.k 4).trans (show _ = some (.string M) from rfl)
      have g4 := (blk_cell HT.out.l 4).trans (show _ = some (.string M') from rfl)
      have e4 := blk_frozen HT.out.k 4
      have d4 := blk_frozen HT.out.l 4
      go_upto_region 7 with (first | (go_at_call 37; (with_reducible refine (laws_stTerm.calls 0 A B C S M kk 0 R2 R3 R4 R5 R6 _ h4).mono ?_); rintro e w3 ⟨rfl, hb⟩; replace HT := Aside0.mk (Two1.on (by (with_reducible repeat (first | exact HT.out | apply Two1.drew | apply Two1.drewN | apply Two1.alloc))) hb); clear hb; clear f0 g0 e0 d0 f1 g1 e1 d1 f2 g2 e2 d2 f3 g3 e3 d3 f4 g4 e4 d4; have f0 := (blk_cell HT.out.k 0).trans (show _ = some (.int .u64 A) from rfl); have g0 := (blk_cell HT.out.l 0).trans (show _ = some (.int .u64 A') from rfl); have e0 := blk_frozen HT.out.k 0; have d0 := blk_frozen HT.out.l 0; have f1 := (blk_cell HT.out.k 1).trans (show _ = some (.int .u64 B) from rfl); have g1 := (blk_cell HT.out.l 1).trans (show _ = some (.int .u64 B') from rfl); have e1 := blk_frozen HT.out.k 1; have d1 := blk_frozen HT.out.l 1; have f2 := (blk_cell HT.out.k 2).trans (show _ = some (.int .u64 C) from rfl); have g2 := (blk_cell HT.out.l 2).trans (show _ = some (.int .u64 C') from rfl); have e2 := blk_frozen HT.out.k 2; have d2 := blk_frozen HT.out.l 2; have f3 := (blk_cell HT.out.k 3).trans (show _ = some (.string S) from rfl); have g3 := (blk_cell HT.out.l 3).trans (show _ = some (.string S') from rfl); have e3 := blk_frozen HT.out.k 3; have d3 := blk_frozen HT.out.l 3; have f4 := (blk_cell HT.out.k 4).trans (show _ = some (.string M) from rfl); have g4 := (blk_cell HT.out.l 4).trans (show _ = some (.string M') from rfl); have e4 := blk_frozen HT.out.k 4; have d4 := blk_frozen HT.out.l 4))
      have HQ0 := Aside0.mk (thr_start HT.out #[.int .i64 0, .int .i64 R2, .int .u64 R3, .int .u64 R4, .int .u64 R5, .string R6])
      clear HT f0 g0 e0 d0 f1 g1 e1 d1 f2 g2 e2 d2 f3 g3 e3 d3 f4 g4 e4 d4
      generalize hi0 : w3.heap.size = i0 at HQ0 ⊢
      (try rw [hi0])
      generalize w3.alloc (.cells #[.int .i64 0, .int .i64 R2, .int .u64 R3, .int .u64 R4, .int .u64 R5, .string R6] 36) = W5 at HQ0 ⊢
      have HQ := HQ0
      clear HQ0 hi0
      first | go_region_held3 (fun W => W.cell? ⟨i0, 0, none⟩ = some (.int .i64 0) ∧ W.cell? ⟨i0, 1, none⟩ = some (.int .i64 R2) ∧ W.cell? ⟨i0, 2, none⟩ = some (.int .u64 R3) ∧ W.cell? ⟨i0, 3, none⟩ = some (.int .u64 R4) ∧ W.cell? ⟨i0, 4, none⟩ = some (.int .u64 R5) ∧ W.cell? ⟨i0, 5, none⟩ = some (.string R6) ∧ W.cell? ⟨w.heap.size + 1, 0, none⟩ = some (.int .u64 A') ∧ W.cell? ⟨w.heap.size + 1, 1, none⟩ = some (.int .u64 B') ∧ W.cell? ⟨w.heap.size + 1, 2, none⟩ = some (.int .u64 C') ∧ W.cell? ⟨w.heap.size + 1, 3, none⟩ = some (.string S') ∧ W.cell? ⟨w.heap.size + 1, 4, none⟩ = some (.string M') ∧ Aside0 (Thr w w.heap.size (w.heap.size + 1) i0 #[.int .u64 A, .int .u64 B, .int .u64 C, .string S, .string M] #[.int .u64 A', .int .u64 B', .int .u64 C', .string S', .string M'] #[.int .i64 0, .int .i64 R2, .int .u64 R3, .int .u64 R4, .int .u64 R5, .string R6] W)) (first | assumption | exact thr_held (HQ.out.on (drew_below _)) | (refine thr_held (Thr.on ?_ (by assumption)); first | exact (aside_last (by assumption)) | exact HQ.out.on (drew_below _))) (first | (go_at_call 41; (with_reducible refine (impl_BelowHolds.calls n 0 R2 R3 R4 R5 R6 A' B' C' S' M' false false _ (globE_below HG.out (by repeat (first | exact HQ.out.t.bel | apply bl_drew | apply bl_alloc))) h5).mono ?_); rintro e w4 ⟨rfl, hb1⟩) | (go_at_call 42; (with_reducible refine (impl_EqualHolds.calls n 0 R2 R3 R4 R5 R6 A' B' C' S' M' false true _ (globE_below HG.out (bl_on (by repeat (first | exact HQ.out.t.bel | apply bl_drew | apply bl_alloc)) hb1)) h6).mono ?_); rintro e w4 ⟨rfl, hb2⟩) | (go_at_call 43; (with_reducible refine (impl_AboveHolds.calls n 0 R2 R3 R4 R5 R6 A' B' C' S' M' false false _ (globE_below HG.out (bl_on (bl_on (by repeat (first | exact HQ.out.t.bel | apply bl_drew | apply bl_alloc)) hb1) hb2)) h7).mono ?_); rintro e w4 ⟨rfl, hb3⟩)) | fail
      rename_i hH
      replace HQ := Aside0.mk (aside_last hH)
      clear hH
      have t0 := (blk_cell HQ.out.z 0).trans (show _ = some (.int .i64 0) from rfl)
      have t1 := (blk_cell HQ.out.z 1).trans (show _ = some (.int .i64 R2) from rfl)
      have t2 := (blk_cell HQ.out.z 2).trans (show _ = some (.int .u64 R3) from rfl)
      have t3 := (blk_cell HQ.out.z 3).trans (show _ = some (.int .u64 R4) from rfl)
      have t4 := (blk_cell HQ.out.z 4).trans (show _ = some (.int .u64 R5) from rfl)
      have t5 := (blk_cell HQ.out.z 5).trans (show _ = some (.string R6) from rfl)
      have g0 := (blk_cell HQ.out.t.l 0).trans (show _ = some (.int .u64 A') from rfl)
      have g1 := (blk_cell HQ.out.t.l 1).trans (show _ = some (.int .u64 B') from rfl)
      have g2 := (blk_cell HQ.out.t.l 2).trans (show _ = some (.int .u64 C') from rfl)
      have g3 := (blk_cell HQ.out.t.l 3).trans (show _ = some (.string S') from rfl)
      have g4 := (blk_cell HQ.out.t.l 4).trans (show _ = some (.string M') from rfl)
      have e0 := blk_frozen HQ.out.z 0
      have e1 := blk_frozen HQ.out.z 1
      have e2 := blk_frozen HQ.out.z 2
      have e3 := blk_frozen HQ.out.z 3
      have e4 := blk_frozen HQ.out.z 4
      have e5 := blk_frozen HQ.out.z 5
      have d0 := blk_frozen HQ.out.t.l 0
      have d1 := blk_frozen HQ.out.t.l 1
      have d2 := blk_frozen HQ.out.t.l 2
      have d3 := blk_frozen HQ.out.t.l 3
      have d4 := blk_frozen HQ.out.t.l 4
      go_wp2_with (first | (go_at_call 44; (with_reducible refine (impl_NotEqualHolds.calls n 0 R2 R3 R4 R5 R6 A' B' C' S' M' false false _ (globE_below HG.out (Two1.bel (Thr.t (by (with_reducible repeat (first | exact HQ.out | apply Thr.drew | apply Thr.drewN | apply Thr.alloc)))))) h8).mono ?_); rintro e w5 ⟨rfl, hb⟩; replace HQ := Aside0.mk (Thr.on (by (with_reducible repeat (first | exact HQ.out | apply Thr.drew | apply Thr.drewN | apply Thr.alloc))) hb); clear hb t0 e0 t1 e1 t2 e2 t3 e3 t4 e4 t5 e5 g0 d0 g1 d1 g2 d2 g3 d3 g4 d4; have t0 := (blk_cell HQ.out.z 0).trans (show _ = some (.int .i64 0) from rfl); have t1 := (blk_cell HQ.out.z 1).trans (show _ = some (.int .i64 R2) from rfl); have t2 := (blk_cell HQ.out.z 2).trans (show _ = some (.int .u64 R3) from rfl); have t3 := (blk_cell HQ.out.z 3).trans (show _ = some (.int .u64 R4) from rfl); have t4 := (blk_cell HQ.out.z 4).trans (show _ = some (.int .u64 R5) from rfl); have t5 := (blk_cell HQ.out.z 5).trans (show _ = some (.string R6) from rfl); have g0 := (blk_cell HQ.out.t.l 0).trans (show _ = some (.int .u64 A') from rfl); have g1 := (blk_cell HQ.out.t.l 1).trans (show _ = some (.int .u64 B') from rfl); have g2 := (blk_cell HQ.out.t.l 2).trans (show _ = some (.int .u64 C') from rfl); have g3 := (blk_cell HQ.out.t.l 3).trans (show _ = some (.string S') from rfl); have g4 := (blk_cell HQ.out.t.l 4).trans (show _ = some (.string M') from rfl); have e0 := blk_frozen HQ.out.z 0; have e1 := blk_frozen HQ.out.z 1; have e2 := blk_frozen HQ.out.z 2; have e3 := blk_frozen HQ.out.z 3; have e4 := blk_frozen HQ.out.z 4; have e5 := blk_frozen HQ.out.z 5; have d0 := blk_frozen HQ.out.t.l 0; have d1 := blk_frozen HQ.out.t.l 1; have d2 := blk_frozen HQ.out.t.l 2; have d3 := blk_frozen HQ.out.t.l 3; have d4 := blk_frozen HQ.out.t.l 4) | (go_at_call 45; (with_reducible refine (impl_LeastHolds.calls n 0 R2 R3 R4 R5 R6 A' B' C' S' M' false true _ (globE_below HG.out (Two1.bel (Thr.t (by (with_reducible repeat (first | exact HQ.out | apply Thr.drew | apply Thr.drewN | apply Thr.alloc)))))) h9).mono ?_); rintro e w5 ⟨rfl, hb⟩; replace HQ := Aside0.mk (Thr.on (by (with_reducible repeat (first | exact HQ.out | apply Thr.drew | apply Thr.drewN | apply Thr.alloc))) hb); clear hb t0 e0 t1 e1 t2 e2 t3 e3 t4 e4 t5 e5 g0 d0 g1 d1 g2 d2 g3 d3 g4 d4; have t0 := (blk_cell HQ.out.z 0).trans (show _ = some (.int .i64 0) from rfl); have t1 := (blk_cell HQ.out.z 1).trans (show _ = some (.int .i64 R2) from rfl); have t2 := (blk_cell HQ.out.z 2).trans (show _ = some (.int .u64 R3) from rfl); have t3 := (blk_cell HQ.out.z 3).trans (show _ = some (.int .u64 R4) from rfl); have t4 := (blk_cell HQ.out.z 4).trans (show _ = some (.int .u64 R5) from rfl); have t5 := (blk_cell HQ.out.z 5).trans (show _ = some (.string R6) from rfl); have g0 := (blk_cell HQ.out.t.l 0).trans (show _ = some (.int .u64 A') from rfl); have g1 := (blk_cell HQ.out.t.l 1).trans (show _ = some (.int .u64 B') from rfl); have g2 := (blk_cell HQ.out.t.l 2).trans (show _ = some (.int .u64 C') from rfl); have g3 := (blk_cell HQ.out.t.l 3).trans (show _ = some (.string S') from rfl); have g4 := (blk_cell HQ.out.t.l 4).trans (show _ = some (.string M') from rfl); have e0 := blk_frozen HQ.out.z 0; have e1 := blk_frozen HQ.out.z 1; have e2 := blk_frozen HQ.out.z 2; have e3 := blk_frozen HQ.out.z 3; have e4 := blk_frozen HQ.out.z 4; have e5 := blk_frozen HQ.out.z 5; have d0 := blk_frozen HQ.out.t.l 0; have d1 := blk_frozen HQ.out.t.l 1; have d2 := blk_frozen HQ.out.t.l 2; have d3 := blk_frozen HQ.out.t.l 3; have d4 := blk_frozen HQ.out.t.l 4) | (go_at_call 35; (with_reducible refine (impl_MostHolds.calls n 0 R2 R3 R4 R5 R6 A' B' C' S' M' false true _ (globE_below HG.out (Two1.bel (Thr.t (by (with_reducible repeat (first | exact HQ.out | apply Thr.drew | apply Thr.drewN | apply Thr.alloc)))))) h10).mono ?_); rintro e w5 ⟨rfl, hb⟩; replace HQ := Aside0.mk (Thr.on (by (with_reducible repeat (first | exact HQ.out | apply Thr.drew | apply Thr.drewN | apply Thr.alloc))) hb); clear hb t0 e0 t1 e1 t2 e2 t3 e3 t4 e4 t5 e5 g0 d0 g1 d1 g2 d2 g3 d3 g4 d4; have t0 := (blk_cell HQ.out.z 0).trans (show _ = some (.int .i64 0) from rfl); have t1 := (blk_cell HQ.out.z 1).trans (show _ = some (.int .i64 R2) from rfl); have t2 := (blk_cell HQ.out.z 2).trans (show _ = some (.int .u64 R3) from rfl); have t3 := (blk_cell HQ.out.z 3).trans (show _ = some (.int .u64 R4) from rfl); have t4 := (blk_cell HQ.out.z 4).trans (show _ = some (.int .u64 R5) from rfl); have t5 := (blk_cell HQ.out.z 5).trans (show _ = some (.string R6) from rfl); have g0 := (blk_cell HQ.out.t.l 0).trans (show _ = some (.int .u64 A') from rfl); have g1 := (blk_cell HQ.out.t.l 1).trans (show _ = some (.int .u64 B') from rfl); have g2 := (blk_cell HQ.out.t.l 2).trans (show _ = some (.int .u64 C') from rfl); have g3 := (blk_cell HQ.out.t.l 3).trans (show _ = some (.string S') from rfl); have g4 := (blk_cell HQ.out.t.l 4).trans (show _ = some (.string M') from rfl); have e0 := blk_frozen HQ.out.z 0; have e1 := blk_frozen HQ.out.z 1; have e2 := blk_frozen HQ.out.z 2; have e3 := blk_frozen HQ.out.z 3; have e4 := blk_frozen HQ.out.z 4; have e5 := blk_frozen HQ.out.z 5; have d0 := blk_frozen HQ.out.t.l 0; have d1 := blk_frozen HQ.out.t.l 1; have d2 := blk_frozen HQ.out.t.l 2; have d3 := blk_frozen HQ.out.t.l 3; have d4 := blk_frozen HQ.out.t.l 4))
      go_ret
      exact ⟨by first | rfl | simp, Two1.bel (Thr.t (g := w.heap.size) (h := w.heap.size + 1) (i := i0) (x := #[.int .u64 A, .int .u64 B, .int .u64 C, .string S, .string M]) (y := #[.int .u64 A', .int .u64 B', .int .u64 C', .string S', .string M']) (z := #[.int .i64 0, .int .i64 R2, .int .u64 R3, .int .u64 R4, .int .u64 R5, .string R6]) (by (with_reducible repeat (first | exact HQ.out | apply Thr.drew | apply Thr.drewN | apply Thr.alloc))))⟩
set_option maxHeartbeats 4000000 in
set_option maxRecDepth 100000 in
theorem one_6 (n : Nat) (a b c a' b' c' : Int) (s m s' m' : ByteArray) (kk : Int) (A B C A' B' C' : Int) (S M S' M' : ByteArray) (R2 R3 R4 R5 : Int) (R6 : ByteArray) (w : World) (hG : GlobE w) (h1 : laws_zzFits14.f a b c s m = some true) (h2 : laws_zzFits14.f a' b' c' s' m' = some true) (h3 : laws_stBare.f a b c s m a' b' c' s' m' kk = some (A, B, C, S, M, A', B', C', S', M', true)) (h4 : laws_stTerm.f 0 A B C S M kk = some (0, R2, R3, R4, R5, R6)) (h5 : impl_BelowHolds.f n 0 R2 R3 R4 R5 R6 A' B' C' S' M' false = some false) (h6 : impl_EqualHolds.f n 0 R2 R3 R4 R5 R6 A' B' C' S' M' false = some false) (h7 : impl_AboveHolds.f n 0 R2 R3 R4 R5 R6 A' B' C' S' M' false = some true) (h8 : impl_NotEqualHolds.f n 0 R2 R3 R4 R5 R6 A' B' C' S' M' false = some true) (h9 : impl_LeastHolds.f n 0 R2 R3 R4 R5 R6 A' B' C' S' M' false = some true) (h10 : impl_MostHolds.f n 0 R2 R3 R4 R5 R6 A' B' C' S' M' false = some false) :
  Calls Tryd.prog 10 #[.agg #[.int .u64 a, .int .u64 b, .int .u64 c, .string s, .string m], .int .i64 kk, .agg #[.int .u64 a', .int .u64 b', .int .u64 c', .string s', .string m']] w fun e w' => e = .returned (.bool true) ∧ Below w.heap.size w w' := by
  have HG := Aside0.mk hG
  clear hG
  have NE1 := Aside0.mk (show w.heap.size ≠ w.heap.size + 1 by omega)
  have NE2 := Aside0.mk (show w.heap.size + 1 ≠ w.heap.size by omega)
  have HT := Aside0.mk (two1_start w #[.int .u64 a, .int .u64 b, .int .u64 c, .string s, .string m] #[.int .u64 a', .int .u64 b', .int .u64 c', .string s', .string m'])
  go_enter Tryd.func10, Tryd.ntmps10
  go_upto_region 1 with fail
  go_cut [20] (fun t W => t = .bool false ∧ Aside0 (Two1 w w.heap.size (w.heap.size + 1) #[.int .u64 a, .int .u64 b, .int .u64 c, .string s, .string m] #[.int .u64 a', .int .u64 b', .int .u64 c', .string s', .string m'] W))
  case first =>
    have f0 := (blk_cell HT.out.k 0).trans (show _ = some (.int .u64 a) from rfl)
    have g0 := (blk_cell HT.out.l 0).trans (show _ = some (.int .u64 a') from rfl)
    have e0 := blk_frozen HT.out.k 0
    have d0 := blk_frozen HT.out.l 0
    have f1 := (blk_cell HT.out.k 1).trans (show _ = some (.int .u64 b) from rfl)
    have g1 := (blk_cell HT.out.l 1).trans (show _ = some (.int .u64 b') from rfl)
    have e1 := blk_frozen HT.out.k 1
    have d1 := blk_frozen HT.out.l 1
    have f2 := (blk_cell HT.out.k 2).trans (show _ = some (.int .u64 c) from rfl)
    have g2 := (blk_cell HT.out.l 2).trans (show _ = some (.int .u64 c') from rfl)
    have e2 := blk_frozen HT.out.k 2
    have d2 := blk_frozen HT.out.l 2
    have f3 := (blk_cell HT.out.k 3).trans (show _ = some (.string s) from rfl)
    have g3 := (blk_cell HT.out.l 3).trans (show _ = some (.string s') from rfl)
    have e3 := blk_frozen HT.out.k 3
    have d3 := blk_frozen HT.out.l 3
    have f4 := (blk_cell HT.out.k 4).trans (show _ = some (.string m) from rfl)
    have g4 := (blk_cell HT.out.l 4).trans (show _ = some (.string m') from rfl)
    have e4 := blk_frozen HT.out.k 4
    have d4 := blk_frozen HT.out.l 4
    go_wp2_with (first | (go_at_call 17; (with_reducible refine (laws_zzFits14.calls a b c s m _ _ h1).mono ?_); rintro e w3 ⟨rfl, hb⟩; replace HT := Aside0.mk (Two1.on (by (with_reducible repeat (first | exact HT.out | apply Two1.drew | apply Two1.drewN | apply Two1.alloc))) hb); clear hb; clear f0 g0 e0 d0 f1 g1 e1 d1 f2 g2 e2 d2 f3 g3 e3 d3 f4 g4 e4 d4; have f0 := (blk_cell HT.out.k 0).trans (show _ = some (.int .u64 a) from rfl); have g0 := (blk_cell HT.out.l 0).trans (show _ = some (.int .u64 a') from rfl); have e0 := blk_frozen HT.out.k 0; have d0 := blk_frozen HT.out.l 0; have f1 := (blk_cell HT.out.k 1).trans (show _ = some (.int .u64 b) from rfl); have g1 := (blk_cell HT.out.l 1).trans (show _ = some (.int .u64 b') from rfl); have e1 := blk_frozen HT.out.k 1; have d1 := blk_frozen HT.out.l 1; have f2 := (blk_cell HT.out.k 2).trans (show _ = some (.int .u64 c) from rfl); have g2 := (blk_cell HT.out.l 2).trans (show _ = some (.int .u64 c') from rfl); have e2 := blk_frozen HT.out.k 2; have d2 := blk_frozen HT.out.l 2; have f3 := (blk_cell HT.out.k 3).trans (show _ = some (.string s) from rfl); have g3 := (blk_cell HT.out.l 3).trans (show _ = some (.string s') from rfl); have e3 := blk_frozen HT.out.k 3; have d3 := blk_frozen HT.out.l 3; have f4 := (blk_cell HT.out.k 4).trans (show _ = some (.string m) from rfl); have g4 := (blk_cell HT.out.l 4).trans (show _ = some (.string m') from rfl); have e4 := blk_frozen HT.out.k 4; have d4 := blk_frozen HT.out.l 4) | (go_at_call 17; (with_reducible refine (laws_zzFits14.calls a' b' c' s' m' _ _ h2).mono ?_); rintro e w3 ⟨rfl, hb⟩; replace HT := Aside0.mk (Two1.on (by (with_reducible repeat (first | exact HT.out | apply Two1.drew | apply Two1.drewN | apply Two1.alloc))) hb); clear hb; clear f0 g0 e0 d0 f1 g1 e1 d1 f2 g2 e2 d2 f3 g3 e3 d3 f4 g4 e4 d4; have f0 := (blk_cell HT.out.k 0).trans (show _ = some (.int .u64 a) from rfl); have g0 := (blk_cell HT.out.l 0).trans (show _ = some (.int .u64 a') from rfl); have e0 := blk_frozen HT.out.k 0; have d0 := blk_frozen HT.out.l 0; have f1 := (blk_cell HT.out.k 1).trans (show _ = some (.int .u64 b) from rfl); have g1 := (blk_cell HT.out.l 1).trans (show _ = some (.int .u64 b') from rfl); have e1 := blk_frozen HT.out.k 1; have d1 := blk_frozen HT.out.l 1; have f2 := (blk_cell HT.out.k 2).trans (show _ = some (.int .u64 c) from rfl); have g2 := (blk_cell HT.out.l 2).trans (show _ = some (.int .u64 c') from rfl); have e2 := blk_frozen HT.out.k 2; have d2 := blk_frozen HT.out.l 2; have f3 := (blk_cell HT.out.k 3).trans (show _ = some (.string s) from rfl); have g3 := (blk_cell HT.out.l 3).trans (show _ = some (.string s') from rfl); have e3 := blk_frozen HT.out.k 3; have d3 := blk_frozen HT.out.l 3; have f4 := (blk_cell HT.out.k 4).trans (show _ = some (.string m) from rfl); have g4 := (blk_cell HT.out.l 4).trans (show _ = some (.string m') from rfl); have e4 := blk_frozen HT.out.k 4; have d4 := blk_frozen HT.out.l 4))
    go_meet
    exact ⟨rfl, Aside0.mk (by (with_reducible repeat (first | exact HT.out | apply Two1.drew | apply Two1.drewN | apply Two1.alloc)))⟩
  case rest =>
    obtain ⟨rfl, HT1⟩ := hcut
    clear HT
    have HT := HT1
    clear HT1
    have f0 := (blk_cell HT.out.k 0).trans (show _ = some (.int .u64 a) from rfl)
    have g0 := (blk_cell HT.out.l 0).trans (show _ = some (.int .u64 a') from rfl)
    have e0 := blk_frozen HT.out.k 0
    have d0 := blk_frozen HT.out.l 0
    have f1 := (blk_cell HT.out.k 1).trans (show _ = some (.int .u64 b) from rfl)
    have g1 := (blk_cell HT.out.l 1).trans (show _ = some (.int .u64 b') from rfl)
    have e1 := blk_frozen HT.out.k 1
    have d1 := blk_frozen HT.out.l 1
    have f2 := (blk_cell HT.out.k 2).trans (show _ = some (.int .u64 c) from rfl)
    have g2 := (blk_cell HT.out.l 2).trans (show _ = some (.int .u64 c') from rfl)
    have e2 := blk_frozen HT.out.k 2
    have d2 := blk_frozen HT.out.l 2
    have f3 := (blk_cell HT.out.k 3).trans (show _ = some (.string s) from rfl)
    have g3 := (blk_cell HT.out.l 3).trans (show _ = some (.string s') from rfl)
    have e3 := blk_frozen HT.out.k 3
    have d3 := blk_frozen HT.out.l 3
    have f4 := (blk_cell HT.out.k 4).trans (show _ = some (.string m) from rfl)
    have g4 := (blk_cell HT.out.l 4).trans (show _ = some (.string m') from rfl)
    have e4 := blk_frozen HT.out.k 4
    have d4 := blk_frozen HT.out.l 4
    go_upto_region 4 with (first | (go_at_call 40; (with_reducible refine (laws_stBare.calls a b c s m a' b' c' s' m' kk A B C S M A' B' C' S' M' _ _ h3).mono ?_); rintro e w3 ⟨rfl, hb⟩; replace HT := Aside0.mk (Two1.on (by (with_reducible repeat (first | exact HT.out | apply Two1.drew | apply Two1.drewN | apply Two1.alloc))) hb); clear hb; clear f0 g0 e0 d0 f1 g1 e1 d1 f2 g2 e2 d2 f3 g3 e3 d3 f4 g4 e4 d4; have f0 := (blk_cell HT.out.k 0).trans (show _ = some (.int .u64 a) from rfl); have g0 := (blk_cell HT.out.l 0).trans (show _ = some (.int .u64 a') from rfl); have e0 := blk_frozen HT.out.k 0; have d0 := blk_frozen HT.out.l 0; have f1 := (blk_cell HT.out.k 1).trans (show _ = some (.int .u64 b) from rfl); have g1 := (blk_cell HT.out.l 1).trans (show _ = some (.int .u64 b') from rfl); have e1 := blk_frozen HT.out.k 1; have d1 := blk_frozen HT.out.l 1; have f2 := (blk_cell HT.out.k 2).trans (show _ = some (.int .u64 c) from rfl); have g2 := (blk_cell HT.out.l 2).trans (show _ = some (.int .u64 c') from rfl); have e2 := blk_frozen HT.out.k 2; have d2 := blk_frozen HT.out.l 2; have f3 := (blk_cell HT.out.k 3).trans (show _ = some (.string s) from rfl); have g3 := (blk_cell HT.out.l 3).trans (show _ = some (.string s') from rfl); have e3 := blk_frozen HT.out.k 3; have d3 := blk_frozen HT.out.l 3; have f4 := (blk_cell HT.out.k 4).trans (show _ = some (.string m) from rfl); have g4 := (blk_cell HT.out.l 4).trans (show _ = some (.string m') from rfl); have e4 := blk_frozen HT.out.k 4; have d4 := blk_frozen HT.out.l 4))
    go_cut [30] (fun t W => t = .bool false ∧ Aside0 (Two1 w w.heap.size (w.heap.size + 1) #[.int .u64 A, .int .u64 B, .int .u64 C, .string S, .string M] #[.int .u64 A', .int .u64 B', .int .u64 C', .string S', .string M'] W))
    case first =>
      go_wp2
      go_meet
      exact ⟨rfl, Aside0.mk (two1_put HT.out NE1.out NE2.out (Nat.le_refl _) (Nat.le_succ _))⟩
    case rest =>
      obtain ⟨rfl, HT1⟩ := hcut
      clear HT f0 g0 e0 d0 f1 g1 e1 d1 f2 g2 e2 d2 f3 g3 e3 d3 f4 g4 e4 d4
      have HT := HT1
      clear HT1
      have f0 := (blk_cell HT.out.k 0).trans (show _ = some (.int .u64 A) from rfl)
      have g0 := (blk_cell HT.out.l 0).trans (show _ = some (.int .u64 A') from rfl)
      have e0 := blk_frozen HT.out.k 0
      have d0 := blk_frozen HT.out.l 0
      have f1 := (blk_cell HT.out.k 1).trans (show _ = some (.int .u64 B) from rfl)
      have g1 := (blk_cell HT.out.l 1).trans (show _ = some (.int .u64 B') from rfl)
      have e1 := blk_frozen HT.out.k 1
      have d1 := blk_frozen HT.out.l 1
      have f2 := (blk_cell HT.out.k 2).trans (show _ = some (.int .u64 C) from rfl)
      have g2 := (blk_cell HT.out.l 2).trans (show _ = some (.int .u64 C') from rfl)
      have e2 := blk_frozen HT.out.k 2
      have d2 := blk_frozen HT.out.l 2
      have f3 := (blk_cell HT.out.k 3).trans (show _ = some (.string S) from rfl)
      have g3 := (blk_cell HT.out.l 3).trans (show _ = some (.string S') from rfl)
      have e3 := blk_frozen HT.out.k 3
      have d3 := blk_frozen HT.out.l 3
      have f4 := (blk_cell HT.out.k 4).trans (show _ = some (.string M) from rfl)
      have g4 := (blk_cell HT.out.l 4).trans (show _ = some (.string M') from rfl)
      have e4 := blk_frozen HT.out.k 4
      have d4 := blk_frozen HT.out.l 4
      go_upto_region 7 with (first | (go_at_call 37; (with_reducible refine (laws_stTerm.calls 0 A B C S M kk 0 R2 R3 R4 R5 R6 _ h4).mono ?_); rintro e w3 ⟨rfl, hb⟩; replace HT := Aside0.mk (Two1.on (by (with_reducible repeat (first | exact HT.out | apply Two1.drew | apply Two1.drewN | apply Two1.alloc))) hb); clear hb; clear f0 g0 e0 d0 f1 g1 e1 d1 f2 g2 e2 d2 f3 g3 e3 d3 f4 g4 e4 d4; have f0 := (blk_cell HT.out.k 0).trans (show _ = some (.int .u64 A) from rfl); have g0 := (blk_cell HT.out.l 0).trans (show _ = some (.int .u64 A') from rfl); have e0 := blk_frozen HT.out.k 0; have d0 := blk_frozen HT.out.l 0; have f1 := (blk_cell HT.out.k 1).trans (show _ = some (.int .u64 B) from rfl); have g1 := (blk_cell HT.out.l 1).trans (show _ = some (.int .u64 B') from rfl); have e1 := blk_frozen HT.out.k 1; have d1 := blk_frozen HT.out.l 1; have f2 := (blk_cell HT.out.k 2).trans (show _ = some (.int .u64 C) from rfl); have g2 := (blk_cell HT.out.l 2).trans (show _ = some (.int .u64 C') from rfl); have e2 := blk_frozen HT.out.k 2; have d2 := blk_frozen HT.out.l 2; have f3 := (blk_cell HT.out.k 3).trans (show _ = some (.string S) from rfl); have g3 := (blk_cell HT.out.l 3).trans (show _ = some (.string S') from rfl); have e3 := blk_frozen HT.out.k 3; have d3 := blk_frozen HT.out.l 3; have f4 := (blk_cell HT.out.k 4).trans (show _ = some (.string M) from rfl); have g4 := (blk_cell HT.out.l 4).trans (show _ = some (.string M') from rfl); have e4 := blk_frozen HT.out.k 4; have d4 := blk_frozen HT.out.l 4))
      have HQ0 := Aside0.mk (thr_start HT.out #[.int .i64 0, .int .i64 R2, .int .u64 R3, .int .u64 R4, .int .u64 R5, .string R6])
      clear HT f0 g0 e0 d0 f1 g1 e1 d1 f2 g2 e2 d2 f3 g3 e3 d3 f4 g4 e4 d4
      generalize hi0 : w3.heap.size = i0 at HQ0 ⊢
      (try rw [hi0])
      generalize w3.alloc (.cells #[.int .i64 0, .int .i64 R2, .int .u64 R3, .int .u64 R4, .int .u64 R5, .string R6] 36) = W5 at HQ0 ⊢
      have HQ := HQ0
      clear HQ0 hi0
      first | go_region_held3 (fun W => W.cell? ⟨i0, 0, none⟩ = some (.int .i64 0) ∧ W.cell? ⟨i0, 1, none⟩ = some (.int .i64 R2) ∧ W.cell? ⟨i0, 2, none⟩ = some (.int .u64 R3) ∧ W.cell? ⟨i0, 3, none⟩ = some (.int .u64 R4) ∧ W.cell? ⟨i0, 4, none⟩ = some (.int .u64 R5) ∧ W.cell? ⟨i0, 5, none⟩ = some (.string R6) ∧ W.cell? ⟨w.heap.size + 1, 0, none⟩ = some (.int .u64 A') ∧ W.cell? ⟨w.heap.size + 1, 1, none⟩ = some (.int .u64 B') ∧ W.cell? ⟨w.heap.size + 1, 2, none⟩ = some (.int .u64 C') ∧ W.cell? ⟨w.heap.size + 1, 3, none⟩ = some (.string S') ∧ W.cell? ⟨w.heap.size + 1, 4, none⟩ = some (.string M') ∧ Aside0 (Thr w w.heap.size (w.heap.size + 1) i0 #[.int .u64 A, .int .u64 B, .int .u64 C, .string S, .string M] #[.int .u64 A', .int .u64 B', .int .u64 C', .string S', .string M'] #[.int .i64 0, .int .i64 R2, .int .u64 R3, .int .u64 R4, .int .u64 R5, .string R6] W)) (first | assumption | exact thr_held (HQ.out.on (drew_below _)) | (refine thr_held (Thr.on ?_ (by assumption)); first | exact (aside_last (by assumption)) | exact HQ.out.on (drew_below _))) (first | (go_at_call 41; (with_reducible refine (impl_BelowHolds.calls n 0 R2 R3 R4 R5 R6 A' B' C' S' M' false false _ (globE_below HG.out (by repeat (first | exact HQ.out.t.bel | apply bl_drew | apply bl_alloc))) h5).mono ?_); rintro e w4 ⟨rfl, hb1⟩) | (go_at_call 42; (with_reducible refine (impl_EqualHolds.calls n 0 R2 R3 R4 R5 R6 A' B' C' S' M' false false _ (globE_below HG.out (bl_on (by repeat (first | exact HQ.out.t.bel | apply bl_drew | apply bl_alloc)) hb1)) h6).mono ?_); rintro e w4 ⟨rfl, hb2⟩) | (go_at_call 43; (with_reducible refine (impl_AboveHolds.calls n 0 R2 R3 R4 R5 R6 A' B' C' S' M' false true _ (globE_below HG.out (bl_on (bl_on (by repeat (first | exact HQ.out.t.bel | apply bl_drew | apply bl_alloc)) hb1) hb2)) h7).mono ?_); rintro e w4 ⟨rfl, hb3⟩)) | fail
      rename_i hH
      replace HQ := Aside0.mk (aside_last hH)
      clear hH
      have t0 := (blk_cell HQ.out.z 0).trans (show _ = some (.int .i64 0) from rfl)
      have t1 := (blk_cell HQ.out.z 1).trans (show _ = some (.int .i64 R2) from rfl)
      have t2 := (blk_cell HQ.out.z 2).trans (show _ = some (.int .u64 R3) from rfl)
      have t3 := (blk_cell HQ.out.z 3).trans (show _ = some (.int .u64 R4) from rfl)
      have t4 := (blk_cell HQ.out.z 4).trans (show _ = some (.int .u64 R5) from rfl)
      have t5 := (blk_cell HQ.out.z 5).trans (show _ = some (.string R6) from rfl)
      have g0 := (blk_cell HQ.out.t.l 0).trans (show _ = some (.int .u64 A') from rfl)
      have g1 := (blk_cell HQ.out.t.l 1).trans (show _ = some (.int .u64 B') from rfl)
      have g2 := (blk_cell HQ.out.t.l 2).trans (show _ = some (.int .u64 C') from rfl)
      have g3 := (blk_cell HQ.out.t.l 3).trans (show _ = some (.string S') from rfl)
      have g4 := (blk_cell HQ.out.t.l 4).trans (show _ = some (.string M') from rfl)
      have e0 := blk_frozen HQ.out.z 0
      have e1 := blk_frozen HQ.out.z 1
      have e2 := blk_frozen HQ.out.z 2
      have e3 := blk_frozen HQ.out.z 3
      have e4 := blk_frozen HQ.out.z 4
      have e5 := blk_frozen HQ.out.z 5
      have d0 := blk_frozen HQ.out.t.l 0
      have d1 := blk_frozen HQ.out.t.l 1
      have d2 := blk_frozen HQ.out.t.l 2
      have d3 := blk_frozen HQ.out.t.l 3
      have d4 := blk_frozen HQ.out.t.l 4
      go_wp2_with (first | (go_at_call 44; (with_reducible refine (impl_NotEqualHolds.calls n 0 R2 R3 R4 R5 R6 A' B' C' S' M' false true _ (globE_below HG.out (Two1.bel (Thr.t (by (with_reducible repeat (first | exact HQ.out | apply Thr.drew | apply Thr.drewN | apply Thr.alloc)))))) h8).mono ?_); rintro e w5 ⟨rfl, hb⟩; replace HQ := Aside0.mk (Thr.on (by (with_reducible repeat (first | exact HQ.out | apply Thr.drew | apply Thr.drewN | apply Thr.alloc))) hb); clear hb t0 e0 t1 e1 t2 e2 t3 e3 t4 e4 t5 e5 g0 d0 g1 d1 g2 d2 g3 d3 g4 d4; have t0 := (blk_cell HQ.out.z 0).trans (show _ = some (.int .i64 0) from rfl); have t1 := (blk_cell HQ.out.z 1).trans (show _ = some (.int .i64 R2) from rfl); have t2 := (blk_cell HQ.out.z 2).trans (show _ = some (.int .u64 R3) from rfl); have t3 := (blk_cell HQ.out.z 3).trans (show _ = some (.int .u64 R4) from rfl); have t4 := (blk_cell HQ.out.z 4).trans (show _ = some (.int .u64 R5) from rfl); have t5 := (blk_cell HQ.out.z 5).trans (show _ = some (.string R6) from rfl); have g0 := (blk_cell HQ.out.t.l 0).trans (show _ = some (.int .u64 A') from rfl); have g1 := (blk_cell HQ.out.t.l 1).trans (show _ = some (.int .u64 B') from rfl); have g2 := (blk_cell HQ.out.t.l 2).trans (show _ = some (.int .u64 C') from rfl); have g3 := (blk_cell HQ.out.t.l 3).trans (show _ = some (.string S') from rfl); have g4 := (blk_cell HQ.out.t.l 4).trans (show _ = some (.string M') from rfl); have e0 := blk_frozen HQ.out.z 0; have e1 := blk_frozen HQ.out.z 1; have e2 := blk_frozen HQ.out.z 2; have e3 := blk_frozen HQ.out.z 3; have e4 := blk_frozen HQ.out.z 4; have e5 := blk_frozen HQ.out.z 5; have d0 := blk_frozen HQ.out.t.l 0; have d1 := blk_frozen HQ.out.t.l 1; have d2 := blk_frozen HQ.out.t.l 2; have d3 := blk_frozen HQ.out.t.l 3; have d4 := blk_frozen HQ.out.t.l 4) | (go_at_call 45; (with_reducible refine (impl_LeastHolds.calls n 0 R2 R3 R4 R5 R6 A' B' C' S' M' false true _ (globE_below HG.out (Two1.bel (Thr.t (by (with_reducible repeat (first | exact HQ.out | apply Thr.drew | apply Thr.drewN | apply Thr.alloc)))))) h9).mono ?_); rintro e w5 ⟨rfl, hb⟩; replace HQ := Aside0.mk (Thr.on (by (with_reducible repeat (first | exact HQ.out | apply Thr.drew | apply Thr.drewN | apply Thr.alloc))) hb); clear hb t0 e0 t1 e1 t2 e2 t3 e3 t4 e4 t5 e5 g0 d0 g1 d1 g2 d2 g3 d3 g4 d4; have t0 := (blk_cell HQ.out.z 0).trans (show _ = some (.int .i64 0) from rfl); have t1 := (blk_cell HQ.out.z 1).trans (show _ = some (.int .i64 R2) from rfl); have t2 := (blk_cell HQ.out.z 2).trans (show _ = some (.int .u64 R3) from rfl); have t3 := (blk_cell HQ.out.z 3).trans (show _ = some (.int .u64 R4) from rfl); have t4 := (blk_cell HQ.out.z 4).trans (show _ = some (.int .u64 R5) from rfl); have t5 := (blk_cell HQ.out.z 5).trans (show _ = some (.string R6) from rfl); have g0 := (blk_cell HQ.out.t.l 0).trans (show _ = some (.int .u64 A') from rfl); have g1 := (blk_cell HQ.out.t.l 1).trans (show _ = some (.int .u64 B') from rfl); have g2 := (blk_cell HQ.out.t.l 2).trans (show _ = some (.int .u64 C') from rfl); have g3 := (blk_cell HQ.out.t.l 3).trans (show _ = some (.string S') from rfl); have g4 := (blk_cell HQ.out.t.l 4).trans (show _ = some (.string M') from rfl); have e0 := blk_frozen HQ.out.z 0; have e1 := blk_frozen HQ.out.z 1; have e2 := blk_frozen HQ.out.z 2; have e3 := blk_frozen HQ.out.z 3; have e4 := blk_frozen HQ.out.z 4; have e5 := blk_frozen HQ.out.z 5; have d0 := blk_frozen HQ.out.t.l 0; have d1 := blk_frozen HQ.out.t.l 1; have d2 := blk_frozen HQ.out.t.l 2; have d3 := blk_frozen HQ.out.t.l 3; have d4 := blk_frozen HQ.out.t.l 4) | (go_at_call 35; (with_reducible refine (impl_MostHolds.calls n 0 R2 R3 R4 R5 R6 A' B' C' S' M' false false _ (globE_below HG.out (Two1.bel (Thr.t (by (with_reducible repeat (first | exact HQ.out | apply Thr.drew | apply Thr.drewN | apply Thr.alloc)))))) h10).mono ?_); rintro e w5 ⟨rfl, hb⟩; replace HQ := Aside0.mk (Thr.on (by (with_reducible repeat (first | exact HQ.out | apply Thr.drew | apply Thr.drewN | apply Thr.alloc))) hb); clear hb t0 e0 t1 e1 t2 e2 t3 e3 t4 e4 t5 e5 g0 d0 g1 d1 g2 d2 g3 d3 g4 d4; have t0 := (blk_cell HQ.out.z 0).trans (show _ = some (.int .i64 0) from rfl); have t1 := (blk_cell HQ.out.z 1).trans (show _ = some (.int .i64 R2) from rfl); have t2 := (blk_cell HQ.out.z 2).trans (show _ = some (.int .u64 R3) from rfl); have t3 := (blk_cell HQ.out.z 3).trans (show _ = some (.int .u64 R4) from rfl); have t4 := (blk_cell HQ.out.z 4).trans (show _ = some (.int .u64 R5) from rfl); have t5 := (blk_cell HQ.out.z 5).trans (show _ = some (.string R6) from rfl); have g0 := (blk_cell HQ.out.t.l 0).trans (show _ = some (.int .u64 A') from rfl); have g1 := (blk_cell HQ.out.t.l 1).trans (show _ = some (.int .u64 B') from rfl); have g2 := (blk_cell HQ.out.t.l 2).trans (show _ = some (.int .u64 C') from rfl); have g3 := (blk_cell HQ.out.t.l 3).trans (show _ = some (.string S') from rfl); have g4 := (blk_cell HQ.out.t.l 4).trans (show _ = some (.string M') from rfl); have e0 := blk_frozen HQ.out.z 0; have e1 := blk_frozen HQ.out.z 1; have e2 := blk_frozen HQ.out.z 2; have e3 := blk_frozen HQ.out.z 3; have e4 := blk_frozen HQ.out.z 4; have e5 := blk_frozen HQ.out.z 5; have d0 := blk_frozen HQ.out.t.l 0; have d1 := blk_frozen HQ.out.t.l 1; have d2 := blk_frozen HQ.out.t.l 2; have d3 := blk_frozen HQ.out.t.l 3; have d4 := blk_frozen HQ.out.t.l 4))
      go_ret
      exact ⟨by first | rfl | simp, Two1.bel (Thr.t (g := w.heap.size) (h := w.heap.size + 1) (i := i0) (x := #[.int .u64 A, .int .u64 B, .int .u64 C, .string S, .string M]) (y := #[.int .u64 A', .int .u64 B', .int .u64 C', .string S', .string M']) (z := #[.int .i64 0, .int .i64 R2, .int .u64 R3, .int .u64 R4, .int .u64 R5, .string R6]) (by (with_reducible repeat (first | exact HQ.out | apply Thr.drew | apply Thr.drewN | apply Thr.alloc))))⟩
end Go.Proofs.YtlooelfkkbgmhaaDoor
