/-
  The walk of laws.FnSemverTermCompares, a theorem a path (printed by wip/tools/gentc.py).
-/
import Derived.Test.YtlooelfkkbgmhaaDoorQlawsstZero
import Derived.Test.YtlooelfkkbgmhaaDoorConTerm
import Derived.Test.YtlooelfkkbgmhaaDoorGivTerms
set_option linter.unusedVariables false
set_option linter.unusedSimpArgs false
namespace Go.Proofs.YtlooelfkkbgmhaaDoor
open Go Go.RowKit QS Go.Proofs.YtlooelfkkbgmhaaDoorW.PrintWords Go.Proofs.YtlooelfkkbgmhaaDoorW.PrintLast
/-- two boxed versions -/
structure Tw (w : World) (g h : Nat) (x y : Array Value) (W : World) : Prop where
  k : W.heap[g]? = some (.cells x 24 (0, 0))
  l : W.heap[h]? = some (.cells y 24 (0, 0))
  bel : Below w.heap.size w W
theorem Tw.on {w : World} {g h : Nat} {x y : Array Value} {W W' : World} (T : Tw w g h x y W) (hb : Below W.heap.size W W') : Tw w g h x y W' := ⟨blk_below T.k hb, blk_below T.l hb, below_step T.bel hb⟩
theorem Tw.alloc {w : World} {g h : Nat} {x y : Array Value} {W : World} {o : Obj} (T : Tw w g h x y W) : Tw w g h x y (W.alloc o) := T.on (below_alloc (Below.refl _ _) _)
theorem Tw.drewN {w : World} {g h : Nat} {x y : Array Value} {W : World} {k : Nat} (T : Tw w g h x y W) : Tw w g h x y (W.drewN k) := T.on (pw_below_drewN (Below.refl _ _) _)
theorem Tw.drew {w : World} {g h : Nat} {x y : Array Value} {W : World} (T : Tw w g h x y W) : Tw w g h x y W.drew := T.on (below_drew1 (Below.refl _ _))
theorem tw_start (w : World) (x y : Array Value) : Tw w w.heap.size (w.heap.size + 1) x y ((w.alloc (.cells x 24 (0, 0))).alloc (.cells y 24 (0, 0))) := by
  refine ⟨blk_alloc (blk_new _ _) _, ?_, by repeat (first | exact Below.refl _ _ | apply below_alloc)⟩
  have h := blk_new (w.alloc (.cells x 24 (0, 0))) (.cells y 24 (0, 0))
  rwa [show (w.alloc (.cells x 24 (0, 0))).heap.size = w.heap.size + 1 from by simp] at h
def TwC (w : World) (a b c : Int) (s m : ByteArray) (a' b' c' : Int) (s' m' : ByteArray) (w' : World) : Prop :=
  w'.cell? ⟨w.heap.size, 0, none⟩ = some (.int .u64 a) ∧ w'.cell? ⟨w.heap.size, 1, none⟩ = some (.int .u64 b) ∧ w'.cell? ⟨w.heap.size, 2, none⟩ = some (.int .u64 c) ∧ w'.cell? ⟨w.heap.size, 3, none⟩ = some (.string s) ∧ w'.cell? ⟨w.heap.size, 4, none⟩ = some (.string m) ∧
  w'.cell? ⟨w.heap.size + 1, 0, none⟩ = some (.int .u64 a') ∧ w'.cell? ⟨w.heap.size + 1, 1, none⟩ = some (.int .u64 b') ∧ w'.cell? ⟨w.heap.size + 1, 2, none⟩ = some (.int .u64 c') ∧ w'.cell? ⟨w.heap.size + 1, 3, none⟩ = some (.string s') ∧ w'.cell? ⟨w.heap.size + 1, 4, none⟩ = some (.string m') ∧
  Aside0 (Tw w w.heap.size (w.heap.size + 1) #[.int .u64 a, .int .u64 b, .int .u64 c, .string s, .string m] #[.int .u64 a', .int .u64 b', .int .u64 c', .string s', .string m'] w')
theorem tw_held {w : World} {a b c : Int} {s m : ByteArray} {a' b' c' : Int} {s' m' : ByteArray} {W : World} (T : Tw w w.heap.size (w.heap.size + 1) #[.int .u64 a, .int .u64 b, .int .u64 c, .string s, .string m] #[.int .u64 a', .int .u64 b', .int .u64 c', .string s', .string m'] W) : TwC w a b c s m a' b' c' s' m' W :=
  ⟨blk_cell T.k 0, blk_cell T.k 1, blk_cell T.k 2, blk_cell T.k 3, blk_cell T.k 4, blk_cell T.l 0, blk_cell T.l 1, blk_cell T.l 2, blk_cell T.l 3, blk_cell T.l 4, ⟨T⟩⟩
theorem tw_next {w : World} {a b c : Int} {s m : ByteArray} {a' b' c' : Int} {s' m' : ByteArray} {W W' : World} (hb : Below W.heap.size W W') (h : TwC w a b c s m a' b' c' s' m' W) : TwC w a b c s m a' b' c' s' m' W' :=
  tw_held (Tw.on h.2.2.2.2.2.2.2.2.2.2.out hb)
theorem tw_last {w : World} {a b c : Int} {s m : ByteArray} {a' b' c' : Int} {s' m' : ByteArray} {W : World} (h : TwC w a b c s m a' b' c' s' m' W) : Tw w w.heap.size (w.heap.size + 1) #[.int .u64 a, .int .u64 b, .int .u64 c, .string s, .string m] #[.int .u64 a', .int .u64 b', .int .u64 c', .string s', .string m'] W := h.2.2.2.2.2.2.2.2.2.2.out
set_option maxHeartbeats 4000000 in
set_option maxRecDepth 100000 in
theorem tc_1 (n : Nat) (a b c a' b' c' : Int) (s m s' m' : ByteArray) (w : World) (hG : GlobE w) (h1 : laws_zzFits14.f a b c s m = some false) :
  Calls Tryd.prog 13 #[.agg #[.int .u64 a, .int .u64 b, .int .u64 c, .string s, .string m], .agg #[.int .u64 a', .int .u64 b', .int .u64 c', .string s', .string m']] w fun e w' => e = .returned (.bool true) ∧ Below w.heap.size w w' := by
  have HG := Aside0.mk hG
  clear hG
  have HT := Aside0.mk (tw_start w #[.int .u64 a, .int .u64 b, .int .u64 c, .string s, .string m] #[.int .u64 a', .int .u64 b', .int .u64 c', .string s', .string m'])
  go_enter Tryd.func13, Tryd.ntmps13
  go_upto_region 1 with fail
  go_cut [12] (fun t W => t = .bool true ∧ Aside0 (Tw w w.heap.size (w.heap.size + 1) #[.int .u64 a, .int .u64 b, .int .u64 c, .string s, .string m] #[.int .u64 a', .int .u64 b', .int .u64 c', .string s', .string m'] W))
  case first =>
    have f0 := (blk_cell HT.out.k 0).trans (show _ = some (.int .u64 a) from rfl)
    have g0 := (blk_cell HT.out.l 0).trans (show _ = some (.int .u64 a') from rfl)
    have e0 := blk_frozen HT.out.k 0
    have d0 := blk_frozen HT.out.l 0
    have f1 := (blk_cell HT.out.k 1).trans (show _ = some (.int .u64 b) from rfl)
    have g1 := (blk_cell HT.out.l 1).trans (show _ = some (.int .u64 b') from rfl)
    have e1 := blk_frozen HT.out.k 1
    have d1 := blk_frozen HT.out.l 1
    have f2 := (blk_cell HT.out.k 2).trans (show _ = some (.int .u64 c) from rfl)
    have g2 := (blk_cell HT.out.l 2).trans (show _ = some (.int .u64 c') from rfl)
    have e2 := blk_frozen HT.out.k 2
    have d2 := blk_frozen HT.out.l 2
    have f3 := (blk_cell HT.out.k 3).trans (show _ = some (.string s) from rfl)
    have g3 := (blk_cell HT.out.l 3).trans (show _ = some (.string s') from rfl)
    have e3 := blk_frozen HT.out.k 3
    have d3 := blk_frozen HT.out.l 3
    have f4 := (blk_cell HT.out.k 4).trans (show _ = some (.string m) from rfl)
    have g4 := (blk_cell HT.out.l 4).trans (show _ = some (.string m') from rfl)
    have e4 := blk_frozen HT.out.k 4
    have d4 := blk_frozen HT.out.l 4
    go_wp2_with (first | (go_at_call 17; (with_reducible refine (laws_zzFits14.calls a b c s m _ _ h1).mono ?_); rintro e w3 ⟨rfl, hb⟩; replace HT := Aside0.mk (Tw.on (by (with_reducible repeat (first | exact HT.out | apply Tw.drew | apply Tw.drewN | apply Tw.alloc))) hb); clear hb; clear f0 g0 e0 d0 f1 g1 e1 d1 f2 g2 e2 d2 f3 g3 e3 d3 f4 g4 e4 d4; have f0 := (blk_cell HT.out.k 0).trans (show _ = some (.int .u64 a) from rfl); have g0 := (blk_cell HT.out.l 0).trans (show _ = some (.int .u64 a') from rfl); have e0 := blk_frozen HT.out.k 0; have d0 := blk_frozen HT.out.l 0; have f1 := (blk_cell HT.out.k 1).trans (show _ = some (.int .u64 b) from rfl); have g1 := (blk_cell HT.out.l 1).trans (show _ = some (.int .u64 b') from rfl); have e1 := blk_frozen HT.out.k 1; have d1 := blk_frozen HT.out.l 1; have f2 := (blk_cell HT.out.k 2).trans (show _ = some (.int .u64 c) from rfl); have g2 := (blk_cell HT.out.l 2).trans (show _ = some (.int .u64 c') from rfl); have e2 := blk_frozen HT.out.k 2; have d2 := blk_frozen HT.out.l 2; have f3 := (blk_cell HT.out.k 3).trans (show _ = some (.string s) from rfl); have g3 := (blk_cell HT.out.l 3).trans (show _ = some (.string s') from rfl); have e3 := blk_frozen HT.out.k 3; have d3 := blk_frozen HT.out.l 3; have f4 := (blk_cell HT.out.k 4).trans (show _ = some (.string m) from rfl); have g4 := (blk_cell HT.out.l 4).trans (show _ = some (.string m') from rfl); have e4 := blk_frozen HT.out.k 4; have d4 := blk_frozen HT.out.l 4))
    go_meet
    exact ⟨rfl, Aside0.mk (by (with_reducible repeat (first | exact HT.out | apply Tw.drew | apply Tw.drewN | apply Tw.alloc)))⟩
  case rest =>
    obtain ⟨rfl, HT1⟩ := hcut
    clear HT
    have HT := HT1
    clear HT1
    go_wp2
    go_ret
    refine ⟨rfl, Tw.bel (g := w.heap.size) (h := w.heap.size + 1) (x := #[.int .u64 a, .int .u64 b, .int .u64 c, .string s, .string m]) (y := #[.int .u64 a', .int .u64 b', .int .u64 c', .string s', .string m']) ?_⟩
    exact (by (with_reducible repeat (first | exact HT.out | apply Tw.drew | apply Tw.drewN | apply Tw.alloc)))
set_option maxHeartbeats 4000000 in
set_option maxRecDepth 100000 in
theorem tc_2 (n : Nat) (a b c a' b' c' : Int) (s m s' m' : ByteArray) (w : World) (hG : GlobE w) (h1 : laws_zzFits14.f a b c s m = some true) (h2 : laws_zzFits14.f a' b' c' s' m' = some false) :
  Calls Tryd.prog 13 #[.agg #[.int .u64 a, .int .u64 b, .int .u64 c, .string s, .string m], .agg #[.int .u64 a', .int .u64 b', .int .u64 c', .string s', .string m']] w fun e w' => e = .returned (.bool true) ∧ Below w.heap.size w w' := by
  have HG := Aside0.mk hG
  clear hG
  have HT := Aside0.mk (tw_start w #[.int .u64 a, .int .u64 b, .int .u64 c, .string s, .string m] #[.int .u64 a', .int .u64 b', .int .u64 c', .string s', .string m'])
  go_enter Tryd.func13, Tryd.ntmps13
  go_upto_region 1 with fail
  go_cut [12] (fun t W => t = .bool true ∧ Aside0 (Tw w w.heap.size (w.heap.size + 1) #[.int .u64 a, .int .u64 b, .int .u64 c, .string s, .string m] #[.int .u64 a', .int .u64 b', .int .u64 c', .string s', .string m'] W))
  case first =>
    have f0 := (blk_cell HT.out.k 0).trans (show _ = some (.int .u64 a) from rfl)
    have g0 := (blk_cell HT.out.l 0).trans (show _ = some (.int .u64 a') from rfl)
    have e0 := blk_frozen HT.out.k 0
    have d0 := blk_frozen HT.out.l 0
    have f1 := (blk_cell HT.out.k 1).trans (show _ = some (.int .u64 b) from rfl)
    have g1 := (blk_cell HT.out.l 1).trans (show _ = some (.int .u64 b') from rfl)
    have e1 := blk_frozen HT.out.k 1
    have d1 := blk_frozen HT.out.l 1
    have f2 := (blk_cell HT.out.k 2).trans (show _ = some (.int .u64 c) from rfl)
    have g2 := (blk_cell HT.out.l 2).trans (show _ = some (.int .u64 c') from rfl)
    have e2 := blk_frozen HT.out.k 2
    have d2 := blk_frozen HT.out.l 2
    have f3 := (blk_cell HT.out.k 3).trans (show _ = some (.string s) from rfl)
    have g3 := (blk_cell HT.out.l 3).trans (show _ = some (.string s') from rfl)
    have e3 := blk_frozen HT.out.k 3
    have d3 := blk_frozen HT.out.l 3
    have f4 := (blk_cell HT.out.k 4).trans (show _ = some (.string m) from rfl)
    have g4 := (blk_cell HT.out.l 4).trans (show _ = some (.string m') from rfl)
    have e4 := blk_frozen HT.out.k 4
    have d4 := blk_frozen HT.out.l 4
    go_wp2_with (first | (go_at_call 17; (with_reducible refine (laws_zzFits14.calls a b c s m _ _ h1).mono ?_); rintro e w3 ⟨rfl, hb⟩; replace HT := Aside0.mk (Tw.on (by (with_reducible repeat (first | exact HT.out | apply Tw.drew | apply Tw.drewN | apply Tw.alloc))) hb); clear hb; clear f0 g0 e0 d0 f1 g1 e1 d1 f2 g2 e2 d2 f3 g3 e3 d3 f4 g4 e4 d4; have f0 := (blk_cell HT.out.k 0).trans (show _ = some (.int .u64 a) from rfl); have g0 := (blk_cell HT.out.l 0).trans (show _ = some (.int .u64 a') from rfl); have e0 := blk_frozen HT.out.k 0; have d0 := blk_frozen HT.out.l 0; have f1 := (blk_cell HT.out.k 1).trans (show _ = some (.int .u64 b) from rfl); have g1 := (blk_cell HT.out.l 1).trans (show _ = some (.int .u64 b') from rfl); have e1 := blk_frozen HT.out.k 1; have d1 := blk_frozen HT.out.l 1; have f2 := (blk_cell HT.out.k 2).trans (show _ = some (.int .u64 c) from rfl); have g2 := (blk_cell HT.out.l 2).trans (show _ = some (.int .u64 c') from rfl); have e2 := blk_frozen HT.out.k 2; have d2 := blk_frozen HT.out.l 2; have f3 := (blk_cell HT.out.k 3).trans (show _ = some (.string s) from rfl); have g3 := (blk_cell HT.out.l 3).trans (show _ = some (.string s') from rfl); have e3 := blk_frozen HT.out.k 3; have d3 := blk_frozen HT.out.l 3; have f4 := (blk_cell HT.out.k 4).trans (show _ = some (.string m) from rfl); have g4 := (blk_cell HT.out.l 4).trans (show _ = some (.string m') from rfl); have e4 := blk_frozen HT.out.k 4; have d4 := blk_frozen HT.out.l 4) | (go_at_call 17; (with_reducible refine (laws_zzFits14.calls a' b' c' s' m' _ _ h2).mono ?_); rintro e w3 ⟨rfl, hb⟩; replace HT := Aside0.mk (Tw.on (by (with_reducible repeat (first | exact HT.out | apply Tw.drew | apply Tw.drewN | apply Tw.alloc))) hb); clear hb; clear f0 g0 e0 d0 f1 g1 e1 d1 f2 g2 e2 d2 f3 g3 e3 d3 f4 g4 e4 d4; have f0 := (blk_cell HT.out.k 0).trans (show _ = some (.int .u64 a) from rfl); have g0 := (blk_cell HT.out.l 0).trans (show _ = some (.int .u64 a') from rfl); have e0 := blk_frozen HT.out.k 0; have d0 := blk_frozen HT.out.l 0; have f1 := (blk_cell HT.out.k 1).trans (show _ = some (.int .u64 b) from rfl); have g1 := (blk_cell HT.out.l 1).trans (show _ = some (.int .u64 b') from rfl); have e1 := blk_frozen HT.out.k 1; have d1 := blk_frozen HT.out.l 1; have f2 := (blk_cell HT.out.k 2).trans (show _ = some (.int .u64 c) from rfl); have g2 := (blk_cell HT.out.l 2).trans (show _ = some (.int .u64 c') from rfl); have e2 := blk_frozen HT.out.k 2; have d2 := blk_frozen HT.out.l 2; have f3 := (blk_cell HT.out.k 3).trans (show _ = some (.string s) from rfl); have g3 := (blk_cell HT.out.l 3).trans (show _ = some (.string s') from rfl); have e3 := blk_frozen HT.out.k 3; have d3 := blk_frozen HT.out.l 3; have f4 := (blk_cell HT.out.k 4).trans (show _ = some (.string m) from rfl); have g4 := (blk_cell HT.out.l 4).trans (show _ = some (.string m') from rfl); have e4 := blk_frozen HT.out.k 4; have d4 := blk_frozen HT.out.l 4))
    go_meet
    exact ⟨rfl, Aside0.mk (by (with_reducible repeat (first | exact HT.out | apply Tw.drew | apply Tw.drewN | apply Tw.alloc)))⟩
  case rest =>
    obtain ⟨rfl, HT1⟩ := hcut
    clear HT
    have HT := HT1
    clear HT1
    go_wp2
    go_ret
    refine ⟨rfl, Tw.bel (g := w.heap.size) (h := w.heap.size + 1) (x := #[.int .u64 a, .int .u64 b, .int .u64 c, .string s, .string m]) (y := #[.int .u64 a', .int .u64 b', .int .u64 c', .string s', .string m']) ?_⟩
    exact (by (with_reducible repeat (first | exact HT.out | apply Tw.drew | apply Tw.drewN | apply Tw.alloc)))
set_option maxHeartbeats 4000000 in
set_option maxRecDepth 100000 in
theorem tc_3 (n : Nat) (a b c a' b' c' : Int) (s m s' m' : ByteArray) (w : World) (hG : GlobE w) (h1 : laws_zzFits14.f a b c s m = some true) (h2 : laws_zzFits14.f a' b' c' s' m' = some true) (yy : List S24) (Ny : yy = [(⟨a, b, c, s, m⟩ : S24), (⟨a', b', c', s', m'⟩ : S24)]) (h3 : laws_svGood.f n yy = some false) :
  Calls Tryd.prog 13 #[.agg #[.int .u64 a, .int .u64 b, .int .u64 c, .string s, .string m], .agg #[.int .u64 a', .int .u64 b', .int .u64 c', .string s', .string m']] w fun e w' => e = .returned (.bool true) ∧ Below w.heap.size w w' := by
  have HG := Aside0.mk hG
  clear hG
  have HT := Aside0.mk (tw_start w #[.int .u64 a, .int .u64 b, .int .u64 c, .string s, .string m] #[.int .u64 a', .int .u64 b', .int .u64 c', .string s', .string m'])
  go_enter Tryd.func13, Tryd.ntmps13
  go_upto_region 1 with fail
  go_cut [12] (fun t W => t = .bool false ∧ Aside0 (Tw w w.heap.size (w.heap.size + 1) #[.int .u64 a, .int .u64 b, .int .u64 c, .string s, .string m] #[.int .u64 a', .int .u64 b', .int .u64 c', .string s', .string m'] W))
  case first =>
    have f0 := (blk_cell HT.out.k 0).trans (show _ = some (.int .u64 a) from rfl)
    have g0 := (blk_cell HT.out.l 0).trans (show _ = some (.int .u64 a') from rfl)
    have e0 := blk_frozen HT.out.k 0
    have d0 := blk_frozen HT.out.l 0
    have f1 := (blk_cell HT.out.k 1).trans (show _ = some (.int .u64 b) from rfl)
    have g1 := (blk_cell HT.out.l 1).trans (show _ = some (.int .u64 b') from rfl)
    have e1 := blk_frozen HT.out.k 1
    have d1 := blk_frozen HT.out.l 1
    have f2 := (blk_cell HT.out.k 2).trans (show _ = some (.int .u64 c) from rfl)
    have g2 := (blk_cell HT.out.l 2).trans (show _ = some (.int .u64 c') from rfl)
    have e2 := blk_frozen HT.out.k 2
    have d2 := blk_frozen HT.out.l 2
    have f3 := (blk_cell HT.out.k 3).trans (show _ = some (.string s) from rfl)
    have g3 := (blk_cell HT.out.l 3).trans (show _ = some (.string s') from rfl)
    have e3 := blk_frozen HT.out.k 3
    have d3 := blk_frozen HT.out.l 3
    have f4 := (blk_cell HT.out.k 4).trans (show _ = some (.string m) from rfl)
    have g4 := (blk_cell HT.out.l 4).trans (show _ = some (.string m') from rfl)
    have e4 := blk_frozen HT.out.k 4
    have d4 := blk_frozen HT.out.l 4
    go_wp2_with (first | (go_at_call 17; (with_reducible refine (laws_zzFits14.calls a b c s m _ _ h1).mono ?_); rintro e w3 ⟨rfl, hb⟩; replace HT := Aside0.mk (Tw.on (by (with_reducible repeat (first | exact HT.out | apply Tw.drew | apply Tw.drewN | apply Tw.alloc))) hb); clear hb; clear f0 g0 e0 d0 f1 g1 e1 d1 f2 g2 e2 d2 f3 g3 e3 d3 f4 g4 e4 d4; have f0 := (blk_cell HT.out.k 0).trans (show _ = some (.int .u64 a) from rfl); have g0 := (blk_cell HT.out.l 0).trans (show _ = some (.int .u64 a') from rfl); have e0 := blk_frozen HT.out.k 0; have d0 := blk_frozen HT.out.l 0; have f1 := (blk_cell HT.out.k 1).trans (show _ = some (.int .u64 b) from rfl); have g1 := (blk_cell HT.out.l 1).trans (show _ = some (.int .u64 b') from rfl); have e1 := blk_frozen HT.out.k 1; have d1 := blk_frozen HT.out.l 1; have f2 := (blk_cell HT.out.k 2).trans (show _ = some (.int .u64 c) from rfl); have g2 := (blk_cell HT.out.l 2).trans (show _ = some (.int .u64 c') from rfl); have e2 := blk_frozen HT.out.k 2; have d2 := blk_frozen HT.out.l 2; have f3 := (blk_cell HT.out.k 3).trans (show _ = some (.string s) from rfl); have g3 := (blk_cell HT.out.l 3).trans (show _ = some (.string s') from rfl); have e3 := blk_frozen HT.out.k 3; have d3 := blk_frozen HT.out.l 3; have f4 := (blk_cell HT.out.k 4).trans (show _ = some (.string m) from rfl); have g4 := (blk_cell HT.out.l 4).trans (show _ = some (.string m') from rfl); have e4 := blk_frozen HT.out.k 4; have d4 := blk_frozen HT.out.l 4) | (go_at_call 17; (with_reducible refine (laws_zzFits14.calls a' b' c' s' m' _ _ h2).mono ?_); rintro e w3 ⟨rfl, hb⟩; replace HT := Aside0.mk (Tw.on (by (with_reducible repeat (first | exact HT.out | apply Tw.drew | apply Tw.drewN | apply Tw.alloc))) hb); clear hb; clear f0 g0 e0 d0 f1 g1 e1 d1 f2 g2 e2 d2 f3 g3 e3 d3 f4 g4 e4 d4; have f0 := (blk_cell HT.out.k 0).trans (show _ = some (.int .u64 a) from rfl); have g0 := (blk_cell HT.out.l 0).trans (show _ = some (.int .u64 a') from rfl); have e0 := blk_frozen HT.out.k 0; have d0 := blk_frozen HT.out.l 0; have f1 := (blk_cell HT.out.k 1).trans (show _ = some (.int .u64 b) from rfl); have g1 := (blk_cell HT.out.l 1).trans (show _ = some (.int .u64 b') from rfl); have e1 := blk_frozen HT.out.k 1; have d1 := blk_frozen HT.out.l 1; have f2 := (blk_cell HT.out.k 2).trans (show _ = some (.int .u64 c) from rfl); have g2 := (blk_cell HT.out.l 2).trans (show _ = some (.int .u64 c') from rfl); have e2 := blk_frozen HT.out.k 2; have d2 := blk_frozen HT.out.l 2; have f3 := (blk_cell HT.out.k 3).trans (show _ = some (.string s) from rfl); have g3 := (blk_cell HT.out.l 3).trans (show _ = some (.string s') from rfl); have e3 := blk_frozen HT.out.k 3; have d3 := blk_frozen HT.out.l 3; have f4 := (blk_cell HT.out.k 4).trans (show _ = some (.string m) from rfl); have g4 := (blk_cell HT.out.l 4).trans (show _ = some (.string m') from rfl); have e4 := blk_frozen HT.out.k 4; have d4 := blk_frozen HT.out.l 4))
    go_meet
    exact ⟨rfl, Aside0.mk (by (with_reducible repeat (first | exact HT.out | apply Tw.drew | apply Tw.drewN | apply Tw.alloc)))⟩
  case rest =>
    obtain ⟨rfl, HT1⟩ := hcut
    clear HT
    have HT := HT1
    clear HT1
    have f0 := (blk_cell HT.out.k 0).trans (show _ = some (.int .u64 a) from rfl)
    have g0 := (blk_cell HT.out.l 0).trans (show _ = some (.int .u64 a') from rfl)
    have e0 := blk_frozen HT.out.k 0
    have d0 := blk_frozen HT.out.l 0
    have f1 := (blk_cell HT.out.k 1).trans (show _ = some (.int .u64 b) from rfl)
    have g1 := (blk_cell HT.out.l 1).trans (show _ = some (.int .u64 b') from rfl)
    have e1 := blk_frozen HT.out.k 1
    have d1 := blk_frozen HT.out.l 1
    have f2 := (blk_cell HT.out.k 2).trans (show _ = some (.int .u64 c) from rfl)
    have g2 := (blk_cell HT.out.l 2).trans (show _ = some (.int .u64 c') from rfl)
    have e2 := blk_frozen HT.out.k 2
    have d2 := blk_frozen HT.out.l 2
    have f3 := (blk_cell HT.out.k 3).trans (show _ = some (.string s) from rfl)
    have g3 := (blk_cell HT.out.l 3).trans (show _ = some (.string s') from rfl)
    have e3 := blk_frozen HT.out.k 3
    have d3 := blk_frozen HT.out.l 3
    have f4 := (blk_cell HT.out.k 4).trans (show _ = some (.string m) from rfl)
    have g4 := (blk_cell HT.out.l 4).trans (show _ = some (.string m') from rfl)
    have e4 := blk_frozen HT.out.k 4
    have d4 := blk_frozen HT.out.l 4
    go_upto_region 3 with fail
    go_cut [17] (fun t W => t = .bool true ∧ Aside0 (Tw w w.heap.size (w.heap.size + 1) #[.int .u64 a, .int .u64 b, .int .u64 c, .string s, .string m] #[.int .u64 a', .int .u64 b', .int .u64 c', .string s', .string m'] W))
    case first =>
      go_wp2_with (first | ((with_reducible refine gate_dst (N := 15) rfl ?_); refine Kd.R_lit k24 _ 24 ?hg (N := 15) ?hd (xs := ([(⟨a, b, c, s, m⟩ : S24), (⟨a', b', c', s', m'⟩ : S24)] : List (S24))) (inner := [.int .u64 a, .int .u64 b, .int .u64 c, .string s, .string m, .int .u64 a', .int .u64 b', .int .u64 c', .string s', .string m']) (ok := fun _ => True) (okp := fun _ => True) ?hr ?hp (fun _ hk => hk) trivial (Below.refl _ _) (Nat.le_refl _) (by simp) ?_; (case hd => rfl); (case hg => rfl); (case hr => first | (go_simp; done) | (go_simp; rfl)); (case hp => exact (Reps.c5 (show Kd.M k24 _ _ _ (⟨a, b, c, s, m⟩ : S24) [.int .u64 a, .int .u64 b, .int .u64 c, .string s, .string m] from (k24_mkM _ _ _ (⟨a, b, c, s, m⟩ : S24) )) (Reps.c5 (show Kd.M k24 _ _ _ (⟨a', b', c', s', m'⟩ : S24) [.int .u64 a', .int .u64 b', .int .u64 c', .string s', .string m'] from (k24_mkM _ _ _ (⟨a', b', c', s', m'⟩ : S24) )) (Reps.none _ _)))); intro v193 w4 ho hb hg_ hnew_; clear hg_ hnew_; (first | rw [← Ny] at ho | (simp only [Int.reduceToNat] at ho; rw [← Ny] at ho)); have HO := Aside0.mk ho; clear ho; replace HT := Aside0.mk (Tw.on (by (with_reducible repeat (first | exact HT.out | apply Tw.drew | apply Tw.drewN | apply Tw.alloc))) hb); clear hb; clear f0 g0 e0 d0 f1 g1 e1 d1 f2 g2 e2 d2 f3 g3 e3 d3 f4 g4 e4 d4; have f0 := (blk_cell HT.out.k 0).trans (show _ = some (.int .u64 a) from rfl); have g0 := (blk_cell HT.out.l 0).trans (show _ = some (.int .u64 a') from rfl); have e0 := blk_frozen HT.out.k 0; have d0 := blk_frozen HT.out.l 0; have f1 := (blk_cell HT.out.k 1).trans (show _ = some (.int .u64 b) from rfl); have g1 := (blk_cell HT.out.l 1).trans (show _ = some (.int .u64 b') from rfl); have e1 := blk_frozen HT.out.k 1; have d1 := blk_frozen HT.out.l 1; have f2 := (blk_cell HT.out.k 2).trans (show _ = some (.int .u64 c) from rfl); have g2 := (blk_cell HT.out.l 2).trans (show _ = some (.int .u64 c') from rfl); have e2 := blk_frozen HT.out.k 2; have d2 := blk_frozen HT.out.l 2; have f3 := (blk_cell HT.out.k 3).trans (show _ = some (.string s) from rfl); have g3 := (blk_cell HT.out.l 3).trans (show _ = some (.string s') from rfl); have e3 := blk_frozen HT.out.k 3; have d3 := blk_frozen HT.out.l 3; have f4 := (blk_cell HT.out.k 4).trans (show _ = some (.string m) from rfl); have g4 := (blk_cell HT.out.l 4).trans (show _ = some (.string m') from rfl); have e4 := blk_frozen HT.out.k 4; have d4 := blk_frozen HT.out.l 4; obtain ⟨Ao, co, eo⟩ := Kd.R_slice HO.out; subst eo) | ((with_reducible refine only_callee (f := 18) rfl ?_); refine goesL_ (some 16) rfl rfl Tryd.func18 (by kernel_rfl) rfl #[.slice Ao yy.length co] rfl (by (try simp only [List.map_toArray, List.map_cons, List.map_nil]); first | done | rfl | (simp only [List.length_drop, List.length_take]; rfl)) ?_; (with_reducible refine (laws_svGood.calls n _ _ yy false _ ?side1 ?side2 h3).mono ?_); (case side1 => repeat (first | exact (Kd.R_reads' HO.out).2.2 | (with_reducible refine Kd.C_alloc ?_ _) | (with_reducible refine Kd.C_drewN ?_ _) | (with_reducible refine Kd.C_drew ?_))); (case side2 => exact (Kd.R_reads' HO.out).2.1); rintro e w5 ⟨rfl, hb⟩; refine ⟨_, rfl, ?_⟩; replace HT := Aside0.mk (Tw.on (by (with_reducible repeat (first | exact HT.out | apply Tw.drew | apply Tw.drewN | apply Tw.alloc))) hb); clear hb; clear f0 g0 e0 d0 f1 g1 e1 d1 f2 g2 e2 d2 f3 g3 e3 d3 f4 g4 e4 d4; have f0 := (blk_cell HT.out.k 0).trans (show _ = some (.int .u64 a) from rfl); have g0 := (blk_cell HT.out.l 0).trans (show _ = some (.int .u64 a') from rfl); have e0 := blk_frozen HT.out.k 0; have d0 := blk_frozen HT.out.l 0; have f1 := (blk_cell HT.out.k 1).trans (show _ = some (.int .u64 b) from rfl); have g1 := (blk_cell HT.out.l 1).trans (show _ = some (.int .u64 b') from rfl); have e1 := blk_frozen HT.out.k 1; have d1 := blk_frozen HT.out.l 1; have f2 := (blk_cell HT.out.k 2).trans (show _ = some (.int .u64 c) from rfl); have g2 := (blk_cell HT.out.l 2).trans (show _ = some (.int .u64 c') from rfl); have e2 := blk_frozen HT.out.k 2; have d2 := blk_frozen HT.out.l 2; have f3 := (blk_cell HT.out.k 3).trans (show _ = some (.string s) from rfl); have g3 := (blk_cell HT.out.l 3).trans (show _ = some (.string s') from rfl); have e3 := blk_frozen HT.out.k 3; have d3 := blk_frozen HT.out.l 3; have f4 := (blk_cell HT.out.k 4).trans (show _ = some (.string m) from rfl); have g4 := (blk_cell HT.out.l 4).trans (show _ = some (.string m') from rfl); have e4 := blk_frozen HT.out.k 4; have d4 := blk_frozen HT.out.l 4))
      go_meet
      exact ⟨rfl, Aside0.mk (by (with_reducible repeat (first | exact HT.out | apply Tw.drew | apply Tw.drewN | apply Tw.alloc)))⟩
    case rest =>
      obtain ⟨rfl, HT1⟩ := hcut
      clear HT f0 g0 e0 d0 f1 g1 e1 d1 f2 g2 e2 d2 f3 g3 e3 d3 f4 g4 e4 d4
      have HT := HT1
      clear HT1
      go_wp2
      go_ret
      refine ⟨rfl, Tw.bel (g := w.heap.size) (h := w.heap.size + 1) (x := #[.int .u64 a, .int .u64 b, .int .u64 c, .string s, .string m]) (y := #[.int .u64 a', .int .u64 b', .int .u64 c', .string s', .string m']) ?_⟩
      exact (by (with_reducible repeat (first | exact HT.out | apply Tw.drew | apply Tw.drewN | apply Tw.alloc)))
set_option maxHeartbeats 4000000 in
set_option maxRecDepth 100000 in
theorem tc_4 (n : Nat) (a b c a' b' c' : Int) (s m s' m' : ByteArray) (w : World) (hG : GlobE w) (h1 : laws_zzFits14.f a b c s m = some true) (h2 : laws_zzFits14.f a' b' c' s' m' = some true) (yy : List S24) (Ny : yy = [(⟨a, b, c, s, m⟩ : S24), (⟨a', b', c', s', m'⟩ : S24)]) (h3 : laws_svGood.f n yy = some true) (q0 : laws_stHolds.f n 0 a' b' c' s' m' 3 a b c s m = some false) (q1 : impl_VersionEqual.f n a b c s m a' b' c' s' m' = some false) (q2 : laws_stHolds.f n 1 a' b' c' s' m' 3 a b c s m = some true) (q3 : impl_VersionEqual.f n a b c s m a' b' c' s' m' = some false) (q4 : laws_stHolds.f n 2 a' b' c' s' m' 3 a b c s m = some false) (q5 : impl_VersionGreater.f n a b c s m a' b' c' s' m' = some false) (q6 : laws_stHolds.f n 3 a' b' c' s' m' 3 a b c s m = some true) (q7 : impl_VersionLess.f n a b c s m a' b' c' s' m' = some true) (q8 : laws_stHolds.f n 4 a' b' c' s' m' 3 a b c s m = some false) (q9 : impl_VersionGreaterEqual.f n a b c s m a' b' c' s' m' = some false) (q10 : laws_stHolds.f n 5 a' b' c' s' m' 3 a b c s m = some true) (q11 : impl_VersionLessEqual.f n a b c s m a' b' c' s' m' = some true) :
  Calls Tryd.prog 13 #[.agg #[.int .u64 a, .int .u64 b, .int .u64 c, .string s, .string m], .agg #[.int .u64 a', .int .u64 b', .int .u64 c', .string s', .string m']] w fun e w' => e = .returned (.bool true) ∧ Below w.heap.size w w' := by
  have HG := Aside0.mk hG
  clear hG
  have HT := Aside0.mk (tw_start w #[.int .u64 a, .int .u64 b, .int .u64 c, .string s, .string m] #[.int .u64 a', .int .u64 b', .int .u64 c', .string s', .string m'])
  go_enter Tryd.func13, Tryd.ntmps13
  go_upto_region 1 with fail
  go_cut [12] (fun t W => t = .bool false ∧ Aside0 (Tw w w.heap.size (w.heap.size + 1) #[.int .u64 a, .int .u64 b, .int .u64 c, .string s, .string m] #[.int .u64 a', .int .u64 b', .int .u64 c', .string s', .string m'] W))
  case first =>
    have f0 := (blk_cell HT.out.k 0).trans (show _ = some (.int .u64 a) from rfl)
    have g0 := (blk_cell HT.out.l 0).trans (show _ = some (.int .u64 a') from rfl)
    have e0 := blk_frozen HT.out.k 0
    have d0 := blk_frozen HT.out.l 0
    have f1 := (blk_cell HT.out.k 1).trans (show _ = some (.int .u64 b) from rfl)
    have g1 := (blk_cell HT.out.l 1).trans (show _ = some (.int .u64 b') from rfl)
    have e1 := blk_frozen HT.out.k 1
    have d1 := blk_frozen HT.out.l 1
    have f2 := (blk_cell HT.out.k 2).trans (show _ = some (.int .u64 c) from rfl)
    have g2 := (blk_cell HT.out.l 2).trans (show _ = some (.int .u64 c') from rfl)
    have e2 := blk_frozen HT.out.k 2
    have d2 := blk_frozen HT.out.l 2
    have f3 := (blk_cell HT.out.k 3).trans (show _ = some (.string s) from rfl)
    have g3 := (blk_cell HT.out.l 3).trans (show _ = some (.string s') from rfl)
    have e3 := blk_frozen HT.out.k 3
    have d3 := blk_frozen HT.out.l 3
    have f4 := (blk_cell HT.out.k 4).trans (show _ = some (.string m) from rfl)
    have g4 := (blk_cell HT.out.l 4).trans (show _ = some (.string m') from rfl)
    have e4 := blk_frozen HT.out.k 4
    have d4 := blk_frozen HT.out.l 4
    go_wp2_with (first | (go_at_call 17; (with_reducible refine (laws_zzFits14.calls a b c s m _ _ h1).mono ?_); rintro e w3 ⟨rfl, hb⟩; replace HT := Aside0.mk (Tw.on (by (with_reducible repeat (first | exact HT.out | apply Tw.drew | apply Tw.drewN | apply Tw.alloc))) hb); clear hb; clear f0 g0 e0 d0 f1 g1 e1 d1 f2 g2 e2 d2 f3 g3 e3 d3 f4 g4 e4 d4; have f0 := (blk_cell HT.out.k 0).trans (show _ = some (.int .u64 a) from rfl); have g0 := (blk_cell HT.out.l 0).trans (show _ = some (.int .u64 a') from rfl); have e0 := blk_frozen HT.out.k 0; have d0 := blk_frozen HT.out.l 0; have f1 := (blk_cell HT.out.k 1).trans (show _ = some (.int .u64 b) from rfl); have g1 := (blk_cell HT.out.l 1).trans (show _ = some (.int .u64 b') from rfl); have e1 := blk_frozen HT.out.k 1; have d1 := blk_frozen HT.out.l 1; have f2 := (blk_cell HT.out.k 2).trans (show _ = some (.int .u64 c) from rfl); have g2 := (blk_cell HT.out.l 2).trans (show _ = some (.int .u64 c') from rfl); have e2 := blk_frozen HT.out.k 2; have d2 := blk_frozen HT.out.l 2; have f3 := (blk_cell HT.out.k 3).trans (show _ = some (.string s) from rfl); have g3 := (blk_cell HT.out.l 3).trans (show _ = some (.string s') from rfl); have e3 := blk_frozen HT.out.k 3; have d3 := blk_frozen HT.out.l 3; have f4 := (blk_cell HT.out.k 4).trans (show _ = some (.string m) from rfl); have g4 := (blk_cell HT.out.l 4).trans (show _ = some (.string m') from rfl); have e4 := blk_frozen HT.out.k 4; have d4 := blk_frozen HT.out.l 4) | (go_at_call 17; (with_reducible refine (laws_zzFits14.calls a' b' c' s' m' _ _ h2).mono ?_); rintro e w3 ⟨rfl, hb⟩; replace HT := Aside0.mk (Tw.on (by (with_reducible repeat (first | exact HT.out | apply Tw.drew | apply Tw.drewN | apply Tw.alloc))) hb); clear hb; clear f0 g0 e0 d0 f1 g1 e1 d1 f2 g2 e2 d2 f3 g3 e3 d3 f4 g4 e4 d4; have f0 := (blk_cell HT.out.k 0).trans (show _ = some (.int .u64 a) from rfl); have g0 := (blk_cell HT.out.l 0).trans (show _ = some (.int .u64 a') from rfl); have e0 := blk_frozen HT.out.k 0; have d0 := blk_frozen HT.out.l 0; have f1 := (blk_cell HT.out.k 1).trans (show _ = some (.int .u64 b) from rfl); have g1 := (blk_cell HT.out.l 1).trans (show _ = some (.int .u64 b') from rfl); have e1 := blk_frozen HT.out.k 1; have d1 := blk_frozen HT.out.l 1; have f2 := (blk_cell HT.out.k 2).trans (show _ = some (.int .u64 c) from rfl); have g2 := (blk_cell HT.out.l 2).trans (show _ = some (.int .u64 c') from rfl); have e2 := blk_frozen HT.out.k 2; have d2 := blk_frozen HT.out.l 2; have f3 := (blk_cell HT.out.k 3).trans (show _ = some (.string s) from rfl); have g3 := (blk_cell HT.out.l 3).trans (show _ = some (.string s') from rfl); have e3 := blk_frozen HT.out.k 3; have d3 := blk_frozen HT.out.l 3; have f4 := (blk_cell HT.out.k 4).trans (show _ = some (.string m) from rfl); have g4 := (blk_cell HT.out.l 4).trans (show _ = some (.string m') from rfl); have e4 := blk_frozen HT.out.k 4; have d4 := blk_frozen HT.out.l 4))
    go_meet
    exact ⟨rfl, Aside0.mk (by (with_reducible repeat (first | exact HT.out | apply Tw.drew | apply Tw.drewN | apply Tw.alloc)))⟩
  case rest =>
    obtain ⟨rfl, HT1⟩ := hcut
    clear HT
    have HT := HT1
    clear HT1
    have f0 := (blk_cell HT.out.k 0).trans (show _ = some (.int .u64 a) from rfl)
    have g0 := (blk_cell HT.out.l 0).trans (show _ = some (.int .u64 a') from rfl)
    have e0 := blk_frozen HT.out.k 0
    have d0 := blk_frozen HT.out.l 0
    have f1 := (blk_cell HT.out.k 1).trans (show _ = some (.int .u64 b) from rfl)
    have g1 := (blk_cell HT.out.l 1).trans (show _ = some (.int .u64 b') from rfl)
    have e1 := blk_frozen HT.out.k 1
    have d1 := blk_frozen HT.out.l 1
    have f2 := (blk_cell HT.out.k 2).trans (show _ = some (.int .u64 c) from rfl)
    have g2 := (blk_cell HT.out.l 2).trans (show _ = some (.int .u64 c') from rfl)
    have e2 := blk_frozen HT.out.k 2
    have d2 := blk_frozen HT.out.l 2
    have f3 := (blk_cell HT.out.k 3).trans (show _ = some (.string s) from rfl)
    have g3 := (blk_cell HT.out.l 3).trans (show _ = some (.string s') from rfl)
    have e3 := blk_frozen HT.out.k 3
    have d3 := blk_frozen HT.out.l 3
    have f4 := (blk_cell HT.out.k 4).trans (show _ = some (.string m) from rfl)
    have g4 := (blk_cell HT.out.l 4).trans (show _ = some (.string m') from rfl)
    have e4 := blk_frozen HT.out.k 4
    have d4 := blk_frozen HT.out.l 4
    go_upto_region 3 with fail
    go_cut [17] (fun t W => t = .bool false ∧ Aside0 (Tw w w.heap.size (w.heap.size + 1) #[.int .u64 a, .int .u64 b, .int .u64 c, .string s, .string m] #[.int .u64 a', .int .u64 b', .int .u64 c', .string s', .string m'] W))
    case first =>
      go_wp2_with (first | ((with_reducible refine gate_dst (N := 15) rfl ?_); refine Kd.R_lit k24 _ 24 ?hg (N := 15) ?hd (xs := ([(⟨a, b, c, s, m⟩ : S24), (⟨a', b', c', s', m'⟩ : S24)] : List (S24))) (inner := [.int .u64 a, .int .u64 b, .int .u64 c, .string s, .string m, .int .u64 a', .int .u64 b', .int .u64 c', .string s', .string m']) (ok := fun _ => True) (okp := fun _ => True) ?hr ?hp (fun _ hk => hk) trivial (Below.refl _ _) (Nat.le_refl _) (by simp) ?_; (case hd => rfl); (case hg => rfl); (case hr => first | (go_simp; done) | (go_simp; rfl)); (case hp => exact (Reps.c5 (show Kd.M k24 _ _ _ (⟨a, b, c, s, m⟩ : S24) [.int .u64 a, .int .u64 b, .int .u64 c, .string s, .string m] from (k24_mkM _ _ _ (⟨a, b, c, s, m⟩ : S24) )) (Reps.c5 (show Kd.M k24 _ _ _ (⟨a', b', c', s', m'⟩ : S24) [.int .u64 a', .int .u64 b', .int .u64 c', .string s', .string m'] from (k24_mkM _ _ _ (⟨a', b', c', s', m'⟩ : S24) )) (Reps.none _ _)))); intro v193 w4 ho hb hg_ hnew_; clear hg_ hnew_; (first | rw [← Ny] at ho | (simp only [Int.reduceToNat] at ho; rw [← Ny] at ho)); have HO := Aside0.mk ho; clear ho; replace HT := Aside0.mk (Tw.on (by (with_reducible repeat (first | exact HT.out | apply Tw.drew | apply Tw.drewN | apply Tw.alloc))) hb); clear hb; clear f0 g0 e0 d0 f1 g1 e1 d1 f2 g2 e2 d2 f3 g3 e3 d3 f4 g4 e4 d4; have f0 := (blk_cell HT.out.k 0).trans (show _ = some (.int .u64 a) from rfl); have g0 := (blk_cell HT.out.l 0).trans (show _ = some (.int .u64 a') from rfl); have e0 := blk_frozen HT.out.k 0; have d0 := blk_frozen HT.out.l 0; have f1 := (blk_cell HT.out.k 1).trans (show _ = some (.int .u64 b) from rfl); have g1 := (blk_cell HT.out.l 1).trans (show _ = some (.int .u64 b') from rfl); have e1 := blk_frozen HT.out.k 1; have d1 := blk_frozen HT.out.l 1; have f2 := (blk_cell HT.out.k 2).trans (show _ = some (.int .u64 c) from rfl); have g2 := (blk_cell HT.out.l 2).trans (show _ = some (.int .u64 c') from rfl); have e2 := blk_frozen HT.out.k 2; have d2 := blk_frozen HT.out.l 2; have f3 := (blk_cell HT.out.k 3).trans (show _ = some (.string s) from rfl); have g3 := (blk_cell HT.out.l 3).trans (show _ = some (.string s') from rfl); have e3 := blk_frozen HT.out.k 3; have d3 := blk_frozen HT.out.l 3; have f4 := (blk_cell HT.out.k 4).trans (show _ = some (.string m) from rfl); have g4 := (blk_cell HT.out.l 4).trans (show _ = some (.string m') from rfl); have e4 := blk_frozen HT.out.k 4; have d4 := blk_frozen HT.out.l 4; obtain ⟨Ao, co, eo⟩ := Kd.R_slice HO.out; subst eo) | ((with_reducible refine only_callee (f := 18) rfl ?_); refine goesL_ (some 16) rfl rfl Tryd.func18 (by kernel_rfl) rfl #[.slice Ao yy.length co] rfl (by (try simp only [List.map_toArray, List.map_cons, List.map_nil]); first | done | rfl | (simp only [List.length_drop, List.length_take]; rfl)) ?_; (with_reducible refine (laws_svGood.calls n _ _ yy true _ ?side1 ?side2 h3).mono ?_); (case side1 => repeat (first | exact (Kd.R_reads' HO.out).2.2 | (with_reducible refine Kd.C_alloc ?_ _) | (with_reducible refine Kd.C_drewN ?_ _) | (with_reducible refine Kd.C_drew ?_))); (case side2 => exact (Kd.R_reads' HO.out).2.1); rintro e w5 ⟨rfl, hb⟩; refine ⟨_, rfl, ?_⟩; replace HT := Aside0.mk (Tw.on (by (with_reducible repeat (first | exact HT.out | apply Tw.drew | apply Tw.drewN | apply Tw.alloc))) hb); clear hb; clear f0 g0 e0 d0 f1 g1 e1 d1 f2 g2 e2 d2 f3 g3 e3 d3 f4 g4 e4 d4; have f0 := (blk_cell HT.out.k 0).trans (show _ = some (.int .u64 a) from rfl); have g0 := (blk_cell HT.out.l 0).trans (show _ = some (.int .u64 a') from rfl); have e0 := blk_frozen HT.out.k 0; have d0 := blk_frozen HT.out.l 0; have f1 := (blk_cell HT.out.k 1).trans (show _ = some (.int .u64 b) from rfl); have g1 := (blk_cell HT.out.l 1).trans (show _ = some (.int .u64 b') from rfl); have e1 := blk_frozen HT.out.k 1; have d1 := blk_frozen HT.out.l 1; have f2 := (blk_cell HT.out.k 2).trans (show _ = some (.int .u64 c) from rfl); have g2 := (blk_cell HT.out.l 2).trans (show _ = some (.int .u64 c') from rfl); have e2 := blk_frozen HT.out.k 2; have d2 := blk_frozen HT.out.l 2; have f3 := (blk_cell HT.out.k 3).trans (show _ = some (.string s) from rfl); have g3 := (blk_cell HT.out.l 3).trans (show _ = some (.string s') from rfl); have e3 := blk_frozen HT.out.k 3; have d3 := blk_frozen HT.out.l 3; have f4 := (blk_cell HT.out.k 4).trans (show _ = some (.string m) from rfl); have g4 := (blk_cell HT.out.l 4).trans (show _ = some (.string m') from rfl); have e4 := blk_frozen HT.out.k 4; have d4 := blk_frozen HT.out.l 4))
      go_meet
      exact ⟨rfl, Aside0.mk (by (with_reducible repeat (first | exact HT.out | apply Tw.drew | apply Tw.drewN | apply Tw.alloc)))⟩
    case rest =>
      obtain ⟨rfl, HT1⟩ := hcut
      clear HT f0 g0 e0 d0 f1 g1 e1 d1 f2 g2 e2 d2 f3 g3 e3 d3 f4 g4 e4 d4
      have HT := HT1
      clear HT1
      go_upto_region 5 with fail
      refine start_ (n := 54) (S := fun w' => TwC w a b c s m a' b' c' s' m' w') (ds := []) #[false, false, false, false, false, false, false, false, false, false, false, false, false, false, false, false, false, false, false, false, false, false, false, false, false, false, false, false, false, false, false, false, false, false, false, false, false, false, false, false, false, false, false, false, false, false, false, false, false, false, false, false, false, false] (by kernel_rfl) rfl rfl (tw_held (HT.out.on (drew_below _))) (fun hHeld => ?_)
      refine take_ (i := 0) (N := some 18) (v := ?_) (a' := ?_) #[true, false, false, false, false, false, false, false, false, false, false, false, false, false, false, false, false, false, false, false, false, false, false, false, false, false, false, false, false, false, false, false, false, false, false, false, false, false, false, false, false, false, false, false, false, false, false, false, false, false, false, false, false, false] rfl rfl (by kernel_rfl) (fun _ _ _ h => h) (Or.inl ⟨by rfl, ?_⟩) hHeld ?_ ?_
      rotate_left
      · rintro w' ⟨s0, s1, s2, s3, s4, s5, s6, s7, s8, s9, s10⟩
        go_simp
        with_reducible rfl
      rotate_left
      · simp only [Act.put, List.setIfInBounds_toArray, List.set_cons_zero, List.set_cons_succ, i64_w, i32_w]
        rfl
      refine take_ (i := 1) (N := some 19) (v := ?_) (a' := ?_) #[true, true, false, false, false, false, false, false, false, false, false, false, false, false, false, false, false, false, false, false, false, false, false, false, false, false, false, false, false, false, false, false, false, false, false, false, false, false, false, false, false, false, false, false, false, false, false, false, false, false, false, false, false, false] rfl rfl (by kernel_rfl) (fun _ _ _ h => h) (Or.inl ⟨by rfl, ?_⟩) hHeld ?_ ?_
      rotate_left
      · rintro w' ⟨s0, s1, s2, s3, s4, s5, s6, s7, s8, s9, s10⟩
        go_simp
        with_reducible rfl
      rotate_left
      · simp only [Act.put, List.setIfInBounds_toArray, List.set_cons_zero, List.set_cons_succ, i64_w, i32_w]
        rfl
      refine take_ (i := 3) (N := some 21) (v := ?_) (a' := ?_) #[true, true, false, true, false, false, false, false, false, false, false, false, false, false, false, false, false, false, false, false, false, false, false, false, false, false, false, false, false, false, false, false, false, false, false, false, false, false, false, false, false, false, false, false, false, false, false, false, false, false, false, false, false, false] rfl rfl (by kernel_rfl) (fun _ _ _ h => h) (Or.inl ⟨by rfl, ?_⟩) hHeld ?_ ?_
      rotate_left
      · rintro w' ⟨s0, s1, s2, s3, s4, s5, s6, s7, s8, s9, s10⟩
        go_simp
        with_reducible rfl
      rotate_left
      · simp only [Act.put, List.setIfInBounds_toArray, List.set_cons_zero, List.set_cons_succ, i64_w, i32_w]
        rfl
      refine take_ (i := 4) (N := some 22) (v := ?_) (a' := ?_) #[true, true, false, true, true, false, false, false, false, false, false, false, false, false, false, false, false, false, false, false, false, false, false, false, false, false, false, false, false, false, false, false, false, false, false, false, false, false, false, false, false, false, false, false, false, false, false, false, false, false, false, false, false, false] rfl rfl (by kernel_rfl) (fun _ _ _ h => h) (Or.inl ⟨by rfl, ?_⟩) hHeld ?_ ?_
      rotate_left
      · rintro w' ⟨s0, s1, s2, s3, s4, s5, s6, s7, s8, s9, s10⟩
        go_simp
        with_reducible rfl
      rotate_left
      · simp only [Act.put, List.setIfInBounds_toArray, List.set_cons_zero, List.set_cons_succ, i64_w, i32_w]
        rfl
      refine one_ (i := 2) (N := some 20) #[true, true, true, true, true, false, false, false, false, false, false, false, false, false, false, false, false, false, false, false, false, false, false, false, false, false, false, false, false, false, false, false, false, false, false, false, false, false, false, false, false, false, false, false, false, false, false, false, false, false, false, false, false, false] rfl rfl (by kernel_rfl) (by decide) (fun K hK => ?_)
      refine goes_ Tryd.func51 (by kernel_rfl) rfl #[.int .i64 0, .agg #[.int .u64 a', .int .u64 b', .int .u64 c', .string s', .string m'], .int .i64 3, .agg #[.int .u64 a, .int .u64 b, .int .u64 c, .string s, .string m]] (by rfl) rfl rfl (by simp only [List.map_toArray, List.map_cons, List.map_nil]; rfl) ?_
      with_reducible refine (laws_stHolds.calls n 0 a' b' c' s' m' 3 a b c s m false _ (globE_below HG.out (Tw.bel (tw_last hHeld))) q0).mono ?_
      rintro e w3 ⟨rfl, hb⟩
      refine ⟨_, rfl, ?_⟩
      refine hK.out _ _ (tw_next hb hHeld) (fun hHeld => ?_)
      clear hK K
      refine norm_ (a' := ?_) ?_ ?_
      rotate_left
      · show Act.put _ (some 20) _ = _
        simp only [Act.put, List.setIfInBounds_toArray, List.set_cons_zero, List.set_cons_succ, i64_w, i32_w]
        rfl
      refine one_ (i := 5) (N := some 23) #[true, true, true, true, true, true, false, false, false, false, false, false, false, false, false, false, false, false, false, false, false, false, false, false, false, false, false, false, false, false, false, false, false, false, false, false, false, false, false, false, false, false, false, false, false, false, false, false, false, false, false, false, false, false] rfl rfl (by kernel_rfl) (by decide) (fun K hK => ?_)
      refine goes_ Tryd.func28 (by kernel_rfl) rfl #[.agg #[.int .u64 a, .int .u64 b, .int .u64 c, .string s, .string m], .agg #[.int .u64 a', .int .u64 b', .int .u64 c', .string s', .string m']] (by rfl) rfl rfl (by simp only [List.map_toArray, List.map_cons, List.map_nil]; rfl) ?_
      with_reducible refine (impl_VersionEqual.calls n a b c s m a' b' c' s' m' false _ (globE_below HG.out (Tw.bel (tw_last hHeld))) q1).mono ?_
      rintro e w3 ⟨rfl, hb⟩
      refine ⟨_, rfl, ?_⟩
      refine hK.out _ _ (tw_next hb hHeld) (fun hHeld => ?_)
      clear hK K
      refine norm_ (a' := ?_) ?_ ?_
      rotate_left
      · show Act.put _ (some 23) _ = _
        simp only [Act.put, List.setIfInBounds_toArray, List.set_cons_zero, List.set_cons_succ, i64_w, i32_w]
        rfl
      refine pure_ (i := 6) (N := some 24) (v := ?_) (a' := ?_) #[true, true, true, true, true, true, true, false, false, false, false, false, false, false, false, false, false, false, false, false, false, false, false, false, false, false, false, false, false, false, false, false, false, false, false, false, false, false, false, false, false, false, false, false, false, false, false, false, false, false, false, false, false, false] rfl rfl (by kernel_rfl) (fun _ _ _ h => h) (Or.inl ⟨by rfl, ?_⟩) ?_ ?_
      rotate_left
      · intro w'
        go_simp
        with_reducible rfl
      rotate_left
      · simp only [Act.put, List.setIfInBounds_toArray, List.set_cons_zero, List.set_cons_succ, i64_w, i32_w]
        rfl
      refine pure_ (i := 7) (N := some 25) (v := ?_) (a' := ?_) #[true, true, true, true, true, true, true, true, false, false, false, false, false, false, false, false, false, false, false, false, false, false, false, false, false, false, false, false, false, false, false, false, false, false, false, false, false, false, false, false, false, false, false, false, false, false, false, false, false, false, false, false, false, false] rfl rfl (by kernel_rfl) (fun _ _ _ h => h) (Or.inl ⟨by rfl, ?_⟩) ?_ ?_
      rotate_left
      · intro w'
        go_simp
        with_reducible rfl
      rotate_left
      · simp only [Act.put, List.setIfInBounds_toArray, List.set_cons_zero, List.set_cons_succ, i64_w, i32_w]
        rfl
      refine take_ (i := 8) (N := some 26) (v := ?_) (a' := ?_) #[true, true, true, true, true, true, true, true, true, false, false, false, false, false, false, false, false, false, false, false, false, false, false, false, false, false, false, false, false, false, false, false, false, false, false, false, false, false, false, false, false, false, false, false, false, false, false, false, false, false, false, false, false, false] rfl rfl (by kernel_rfl) (fun _ _ _ h => h) (Or.inl ⟨by rfl, ?_⟩) hHeld ?_ ?_
      rotate_left
      · rintro w' ⟨s0, s1, s2, s3, s4, s5, s6, s7, s8, s9, s10⟩
        go_simp
        with_reducible rfl
      rotate_left
      · simp only [Act.put, List.setIfInBounds_toArray, List.set_cons_zero, List.set_cons_succ, i64_w, i32_w]
        rfl
      refine take_ (i := 9) (N := some 27) (v := ?_) (a' := ?_) #[true, true, true, true, true, true, true, true, true, true, false, false, false, false, false, false, false, false, false, false, false, false, false, false, false, false, false, false, false, false, false, false, false, false, false, false, false, false, false, false, false, false, false, false, false, false, false, false, false, false, false, false, false, false] rfl rfl (by kernel_rfl) (fun _ _ _ h => h) (Or.inl ⟨by rfl, ?_⟩) hHeld ?_ ?_
      rotate_left
      · rintro w' ⟨s0, s1, s2, s3, s4, s5, s6, s7, s8, s9, s10⟩
        go_simp
        with_reducible rfl
      rotate_left
      · simp only [Act.put, List.setIfInBounds_toArray, List.set_cons_zero, List.set_cons_succ, i64_w, i32_w]
        rfl
      refine take_ (i := 11) (N := some 29) (v := ?_) (a' := ?_) #[true, true, true, true, true, true, true, true, true, true, false, true, false, false, false, false, false, false, false, false, false, false, false, false, false, false, false, false, false, false, false, false, false, false, false, false, false, false, false, false, false, false, false, false, false, false, false, false, false, false, false, false, false, false] rfl rfl (by kernel_rfl) (fun _ _ _ h => h) (Or.inl ⟨by rfl, ?_⟩) hHeld ?_ ?_
      rotate_left
      · rintro w' ⟨s0, s1, s2, s3, s4, s5, s6, s7, s8, s9, s10⟩
        go_simp
        with_reducible rfl
      rotate_left
      · simp only [Act.put, List.setIfInBounds_toArray, List.set_cons_zero, List.set_cons_succ, i64_w, i32_w]
        rfl
      refine take_ (i := 12) (N := some 30) (v := ?_) (a' := ?_) #[true, true, true, true, true, true, true, true, true, true, false, true, true, false, false, false, false, false, false, false, false, false, false, false, false, false, false, false, false, false, false, false, false, false, false, false, false, false, false, false, false, false, false, false, false, false, false, false, false, false, false, false, false, false] rfl rfl (by kernel_rfl) (fun _ _ _ h => h) (Or.inl ⟨by rfl, ?_⟩) hHeld ?_ ?_
      rotate_left
      · rintro w' ⟨s0, s1, s2, s3, s4, s5, s6, s7, s8, s9, s10⟩
        go_simp
        with_reducible rfl
      rotate_left
      · simp only [Act.put, List.setIfInBounds_toArray, List.set_cons_zero, List.set_cons_succ, i64_w, i32_w]
        rfl
      refine one_ (i := 10) (N := some 28) #[true, true, true, true, true, true, true, true, true, true, true, true, true, false, false, false, false, false, false, false, false, false, false, false, false, false, false, false, false, false, false, false, false, false, false, false, false, false, false, false, false, false, false, false, false, false, false, false, false, false, false, false, false, false] rfl rfl (by kernel_rfl) (by decide) (fun K hK => ?_)
      refine goes_ Tryd.func51 (by kernel_rfl) rfl #[.int .i64 1, .agg #[.int .u64 a', .int .u64 b', .int .u64 c', .string s', .string m'], .int .i64 3, .agg #[.int .u64 a, .int .u64 b, .int .u64 c, .string s, .string m]] (by rfl) rfl rfl (by simp only [List.map_toArray, List.map_cons, List.map_nil]; rfl) ?_
      with_reducible refine (laws_stHolds.calls n 1 a' b' c' s' m' 3 a b c s m true _ (globE_below HG.out (Tw.bel (tw_last hHeld))) q2).mono ?_
      rintro e w3 ⟨rfl, hb⟩
      refine ⟨_, rfl, ?_⟩
      refine hK.out _ _ (tw_next hb hHeld) (fun hHeld => ?_)
      clear hK K
      refine norm_ (a' := ?_) ?_ ?_
      rotate_left
      · show Act.put _ (some 28) _ = _
        simp only [Act.put, List.setIfInBounds_toArray, List.set_cons_zero, List.set_cons_succ, i64_w, i32_w]
        rfl
      refine one_ (i := 13) (N := some 31) #[true, true, true, true, true, true, true, true, true, true, true, true, true, true, false, false, false, false, false, false, false, false, false, false, false, false, false, false, false, false, false, false, false, false, false, false, false, false, false, false, false, false, false, false, false, false, false, false, false, false, false, false, false, false] rfl rfl (by kernel_rfl) (by decide) (fun K hK => ?_)
      refine goes_ Tryd.func28 (by kernel_rfl) rfl #[.agg #[.int .u64 a, .int .u64 b, .int .u64 c, .string s, .string m], .agg #[.int .u64 a', .int .u64 b', .int .u64 c', .string s', .string m']] (by rfl) rfl rfl (by simp only [List.map_toArray, List.map_cons, List.map_nil]; rfl) ?_
      with_reducible refine (impl_VersionEqual.calls n a b c s m a' b' c' s' m' false _ (globE_below HG.out (Tw.bel (tw_last hHeld))) q3).mono ?_
      rintro e w3 ⟨rfl, hb⟩
      refine ⟨_, rfl, ?_⟩
      refine hK.out _ _ (tw_next hb hHeld) (fun hHeld => ?_)
      clear hK K
      refine norm_ (a' := ?_) ?_ ?_
      rotate_left
      · show Act.put _ (some 31) _ = _
        simp only [Act.put, List.setIfInBounds_toArray, List.set_cons_zero, List.set_cons_succ, i64_w, i32_w]
        rfl
      refine pure_ (i := 14) (N := some 32) (v := ?_) (a' := ?_) #[true, true, true, true, true, true, true, true, true, true, true, true, true, true, true, false, false, false, false, false, false, false, false, false, false, false, false, false, false, false, false, false, false, false, false, false, false, false, false, false, false, false, false, false, false, false, false, false, false, false, false, false, false, false] rfl rfl (by kernel_rfl) (fun _ _ _ h => h) (Or.inl ⟨by rfl, ?_⟩) ?_ ?_
      rotate_left
      · intro w'
        go_simp
        with_reducible rfl
      rotate_left
      · simp only [Act.put, List.setIfInBounds_toArray, List.set_cons_zero, List.set_cons_succ, i64_w, i32_w]
        rfl
      refine pure_ (i := 15) (N := some 33) (v := ?_) (a' := ?_) #[true, true, true, true, true, true, true, true, true, true, true, true, true, true, true, true, false, false, false, false, false, false, false, false, false, false, false, false, false, false, false, false, false, false, false, false, false, false, false, false, false, false, false, false, false, false, false, false, false, false, false, false, false, false] rfl rfl (by kernel_rfl) (fun _ _ _ h => h) (Or.inl ⟨by rfl, ?_⟩) ?_ ?_
      rotate_left
      · intro w'
        go_simp
        with_reducible rfl
      rotate_left
      · simp only [Act.put, List.setIfInBounds_toArray, List.set_cons_zero, List.set_cons_succ, i64_w, i32_w]
        rfl
      refine pure_ (i := 16) (N := some 34) (v := ?_) (a' := ?_) #[true, true, true, true, true, true, true, true, true, true, true, true, true, true, true, true, true, false, false, false, false, false, false, false, false, false, false, false, false, false, false, false, false, false, false, false, false, false, false, false, false, false, false, false, false, false, false, false, false, false, false, false, false, false] rfl rfl (by kernel_rfl) (fun _ _ _ h => h) (Or.inl ⟨by rfl, ?_⟩) ?_ ?_
      rotate_left
      · intro w'
        go_simp
        with_reducible rfl
      rotate_left
      · simp only [Act.put, List.setIfInBounds_toArray, List.set_cons_zero, List.set_cons_succ, i64_w, i32_w]
        rfl
      refine pure_ (i := 17) (N := some 35) (v := ?_) (a' := ?_) #[true, true, true, true, true, true, true, true, true, true, true, true, true, true, true, true, true, true, false, false, false, false, false, false, false, false, false, false, false, false, false, false, false, false, false, false, false, false, false, false, false, false, false, false, false, false, false, false, false, false, false, false, false, false] rfl rfl (by kernel_rfl) (fun _ _ _ h => h) (Or.inl ⟨by rfl, ?_⟩) ?_ ?_
      rotate_left
      · intro w'
        go_simp
        with_reducible rfl
      rotate_left
      · simp only [Act.put, List.setIfInBounds_toArray, List.set_cons_zero, List.set_cons_succ, i64_w, i32_w]
        rfl
      refine take_ (i := 18) (N := some 36) (v := ?_) (a' := ?_) #[true, true, true, true, true, true, true, true, true, true, true, true, true, true, true, true, true, true, true, false, false, false, false, false, false, false, false, false, false, false, false, false, false, false, false, false, false, false, false, false, false, false, false, false, false, false, false, false, false, false, false, false, false, false] rfl rfl (by kernel_rfl) (fun _ _ _ h => h) (Or.inl ⟨by rfl, ?_⟩) hHeld ?_ ?_
      rotate_left
      · rintro w' ⟨s0, s1, s2, s3, s4, s5, s6, s7, s8, s9, s10⟩
        go_simp
        with_reducible rfl
      rotate_left
      · simp only [Act.put, List.setIfInBounds_toArray, List.set_cons_zero, List.set_cons_succ, i64_w, i32_w]
        rfl
      refine take_ (i := 19) (N := some 37) (v := ?_) (a' := ?_) #[true, true, true, true, true, true, true, true, true, true, true, true, true, true, true, true, true, true, true, true, false, false, false, false, false, false, false, false, false, false, false, false, false, false, false, false, false, false, false, false, false, false, false, false, false, false, false, false, false, false, false, false, false, false] rfl rfl (by kernel_rfl) (fun _ _ _ h => h) (Or.inl ⟨by rfl, ?_⟩) hHeld ?_ ?_
      rotate_left
      · rintro w' ⟨s0, s1, s2, s3, s4, s5, s6, s7, s8, s9, s10⟩
        go_simp
        with_reducible rfl
      rotate_left
      · simp only [Act.put, List.setIfInBounds_toArray, List.set_cons_zero, List.set_cons_succ, i64_w, i32_w]
        rfl
      refine take_ (i := 21) (N := some 39) (v := ?_) (a' := ?_) #[true, true, true, true, true, true, true, true, true, true, true, true, true, true, true, true, true, true, true, true, false, true, false, false, false, false, false, false, false, false, false, false, false, false, false, false, false, false, false, false, false, false, false, false, false, false, false, false, false, false, false, false, false, false] rfl rfl (by kernel_rfl) (fun _ _ _ h => h) (Or.inl ⟨by rfl, ?_⟩) hHeld ?_ ?_
      rotate_left
      · rintro w' ⟨s0, s1, s2, s3, s4, s5, s6, s7, s8, s9, s10⟩
        go_simp
        with_reducible rfl
      rotate_left
      · simp only [Act.put, List.setIfInBounds_toArray, List.set_cons_zero, List.set_cons_succ, i64_w, i32_w]
        rfl
      refine take_ (i := 22) (N := some 40) (v := ?_) (a' := ?_) #[true, true, true, true, true, true, true, true, true, true, true, true, true, true, true, true, true, true, true, true, false, true, true, false, false, false, false, false, false, false, false, false, false, false, false, false, false, false, false, false, false, false, false, false, false, false, false, false, false, false, false, false, false, false] rfl rfl (by kernel_rfl) (fun _ _ _ h => h) (Or.inl ⟨by rfl, ?_⟩) hHeld ?_ ?_
      rotate_left
      · rintro w' ⟨s0, s1, s2, s3, s4, s5, s6, s7, s8, s9, s10⟩
        go_simp
        with_reducible rfl
      rotate_left
      · simp only [Act.put, List.setIfInBounds_toArray, List.set_cons_zero, List.set_cons_succ, i64_w, i32_w]
        rfl
      refine one_ (i := 20) (N := some 38) #[true, true, true, true, true, true, true, true, true, true, true, true, true, true, true, true, true, true, true, true, true, true, true, false, false, false, false, false, false, false, false, false, false, false, false, false, false, false, false, false, false, false, false, false, false, false, false, false, false, false, false, false, false, false] rfl rfl (by kernel_rfl) (by decide) (fun K hK => ?_)
      refine goes_ Tryd.func51 (by kernel_rfl) rfl #[.int .i64 2, .agg #[.int .u64 a', .int .u64 b', .int .u64 c', .string s', .string m'], .int .i64 3, .agg #[.int .u64 a, .int .u64 b, .int .u64 c, .string s, .string m]] (by rfl) rfl rfl (by simp only [List.map_toArray, List.map_cons, List.map_nil]; rfl) ?_
      with_reducible refine (laws_stHolds.calls n 2 a' b' c' s' m' 3 a b c s m false _ (globE_below HG.out (Tw.bel (tw_last hHeld))) q4).mono ?_
      rintro e w3 ⟨rfl, hb⟩
      refine ⟨_, rfl, ?_⟩
      refine hK.out _ _ (tw_next hb hHeld) (fun hHeld => ?_)
      clear hK K
      refine norm_ (a' := ?_) ?_ ?_
      rotate_left
      · show Act.put _ (some 38) _ = _
        simp only [Act.put, List.setIfInBounds_toArray, List.set_cons_zero, List.set_cons_succ, i64_w, i32_w]
        rfl
      refine one_ (i := 23) (N := some 41) #[true, true, true, true, true, true, true, true, true, true, true, true, true, true, true, true, true, true, true, true, true, true, true, true, false, false, false, false, false, false, false, false, false, false, false, false, false, false, false, false, false, false, false, false, false, false, false, false, false, false, false, false, false, false] rfl rfl (by kernel_rfl) (by decide) (fun K hK => ?_)
      refine goes_ Tryd.func31 (by kernel_rfl) rfl #[.agg #[.int .u64 a, .int .u64 b, .int .u64 c, .string s, .string m], .agg #[.int .u64 a', .int .u64 b', .int .u64 c', .string s', .string m']] (by rfl) rfl rfl (by simp only [List.map_toArray, List.map_cons, List.map_nil]; rfl) ?_
      with_reducible refine (impl_VersionGreater.calls n a b c s m a' b' c' s' m' false _ (globE_below HG.out (Tw.bel (tw_last hHeld))) q5).mono ?_
      rintro e w3 ⟨rfl, hb⟩
      refine ⟨_, rfl, ?_⟩
      refine hK.out _ _ (tw_next hb hHeld) (fun hHeld => ?_)
      clear hK K
      refine norm_ (a' := ?_) ?_ ?_
      rotate_left
      · show Act.put _ (some 41) _ = _
        simp only [Act.put, List.setIfInBounds_toArray, List.set_cons_zero, List.set_cons_succ, i64_w, i32_w]
        rfl
      refine pure_ (i := 24) (N := some 42) (v := ?_) (a' := ?_) #[true, true, true, true, true, true, true, true, true, true, true, true, true, true, true, true, true, true, true, true, true, true, true, true, true, false, false, false, false, false, false, false, false, false, false, false, false, false, false, false, false, false, false, false, false, false, false, false, false, false, false, false, false, false] rfl rfl (by kernel_rfl) (fun _ _ _ h => h) (Or.inl ⟨by rfl, ?_⟩) ?_ ?_
      rotate_left
      · intro w'
        go_simp
        with_reducible rfl
      rotate_left
      · simp only [Act.put, List.setIfInBounds_toArray, List.set_cons_zero, List.set_cons_succ, i64_w, i32_w]
        rfl
      refine pure_ (i := 25) (N := some 43) (v := ?_) (a' := ?_) #[true, true, true, true, true, true, true, true, true, true, true, true, true, true, true, true, true, true, true, true, true, true, true, true, true, true, false, false, false, false, false, false, false, false, false, false, false, false, false, false, false, false, false, false, false, false, false, false, false, false, false, false, false, false] rfl rfl (by kernel_rfl) (fun _ _ _ h => h) (Or.inl ⟨by rfl, ?_⟩) ?_ ?_
      rotate_left
      · intro w'
        go_simp
        with_reducible rfl
      rotate_left
      · simp only [Act.put, List.setIfInBounds_toArray, List.set_cons_zero, List.set_cons_succ, i64_w, i32_w]
        rfl
      refine pure_ (i := 26) (N := some 44) (v := ?_) (a' := ?_) #[true, true, true, true, true, true, true, true, true, true, true, true, true, true, true, true, true, true, true, true, true, true, true, true, true, true, true, false, false, false, false, false, false, false, false, false, false, false, false, false, false, false, false, false, false, false, false, false, false, false, false, false, false, false] rfl rfl (by kernel_rfl) (fun _ _ _ h => h) (Or.inl ⟨by rfl, ?_⟩) ?_ ?_
      rotate_left
      · intro w'
        go_simp
        with_reducible rfl
      rotate_left
      · simp only [Act.put, List.setIfInBounds_toArray, List.set_cons_zero, List.set_cons_succ, i64_w, i32_w]
        rfl
      refine take_ (i := 27) (N := some 45) (v := ?_) (a' := ?_) #[true, true, true, true, true, true, true, true, true, true, true, true, true, true, true, true, true, true, true, true, true, true, true, true, true, true, true, true, false, false, false, false, false, false, false, false, false, false, false, false, false, false, false, false, false, false, false, false, false, false, false, false, false, false] rfl rfl (by kernel_rfl) (fun _ _ _ h => h) (Or.inl ⟨by rfl, ?_⟩) hHeld ?_ ?_
      rotate_left
      · rintro w' ⟨s0, s1, s2, s3, s4, s5, s6, s7, s8, s9, s10⟩
        go_simp
        with_reducible rfl
      rotate_left
      · simp only [Act.put, List.setIfInBounds_toArray, List.set_cons_zero, List.set_cons_succ, i64_w, i32_w]
        rfl
      refine take_ (i := 28) (N := some 46) (v := ?_) (a' := ?_) #[true, true, true, true, true, true, true, true, true, true, true, true, true, true, true, true, true, true, true, true, true, true, true, true, true, true, true, true, true, false, false, false, false, false, false, false, false, false, false, false, false, false, false, false, false, false, false, false, false, false, false, false, false, false] rfl rfl (by kernel_rfl) (fun _ _ _ h => h) (Or.inl ⟨by rfl, ?_⟩) hHeld ?_ ?_
      rotate_left
      · rintro w' ⟨s0, s1, s2, s3, s4, s5, s6, s7, s8, s9, s10⟩
        go_simp
        with_reducible rfl
      rotate_left
      · simp only [Act.put, List.setIfInBounds_toArray, List.set_cons_zero, List.set_cons_succ, i64_w, i32_w]
        rfl
      refine take_ (i := 30) (N := some 48) (v := ?_) (a' := ?_) #[true, true, true, true, true, true, true, true, true, true, true, true, true, true, true, true, true, true, true, true, true, true, true, true, true, true, true, true, true, false, true, false, false, false, false, false, false, false, false, false, false, false, false, false, false, false, false, false, false, false, false, false, false, false] rfl rfl (by kernel_rfl) (fun _ _ _ h => h) (Or.inl ⟨by rfl, ?_⟩) hHeld ?_ ?_
      rotate_left
      · rintro w' ⟨s0, s1, s2, s3, s4, s5, s6, s7, s8, s9, s10⟩
        go_simp
        with_reducible rfl
      rotate_left
      · simp only [Act.put, List.setIfInBounds_toArray, List.set_cons_zero, List.set_cons_succ, i64_w, i32_w]
        rfl
      refine take_ (i := 31) (N := some 49) (v := ?_) (a' := ?_) #[true, true, true, true, true, true, true, true, true, true, true, true, true, true, true, true, true, true, true, true, true, true, true, true, true, true, true, true, true, false, true, true, false, false, false, false, false, false, false, false, false, false, false, false, false, false, false, false, false, false, false, false, false, false] rfl rfl (by kernel_rfl) (fun _ _ _ h => h) (Or.inl ⟨by rfl, ?_⟩) hHeld ?_ ?_
      rotate_left
      · rintro w' ⟨s0, s1, s2, s3, s4, s5, s6, s7, s8, s9, s10⟩
        go_simp
        with_reducible rfl
      rotate_left
      · simp only [Act.put, List.setIfInBounds_toArray, List.set_cons_zero, List.set_cons_succ, i64_w, i32_w]
        rfl
      refine one_ (i := 29) (N := some 47) #[true, true, true, true, true, true, true, true, true, true, true, true, true, true, true, true, true, true, true, true, true, true, true, true, true, true, true, true, true, true, true, true, false, false, false, false, false, false, false, false, false, false, false, false, false, false, false, false, false, false, false, false, false, false] rfl rfl (by kernel_rfl) (by decide) (fun K hK => ?_)
      refine goes_ Tryd.func51 (by kernel_rfl) rfl #[.int .i64 3, .agg #[.int .u64 a', .int .u64 b', .int .u64 c', .string s', .string m'], .int .i64 3, .agg #[.int .u64 a, .int .u64 b, .int .u64 c, .string s, .string m]] (by rfl) rfl rfl (by simp only [List.map_toArray, List.map_cons, List.map_nil]; rfl) ?_
      with_reducible refine (laws_stHolds.calls n 3 a' b' c' s' m' 3 a b c s m true _ (globE_below HG.out (Tw.bel (tw_last hHeld))) q6).mono ?_
      rintro e w3 ⟨rfl, hb⟩
      refine ⟨_, rfl, ?_⟩
      refine hK.out _ _ (tw_next hb hHeld) (fun hHeld => ?_)
      clear hK K
      refine norm_ (a' := ?_) ?_ ?_
      rotate_left
      · show Act.put _ (some 47) _ = _
        simp only [Act.put, List.setIfInBounds_toArray, List.set_cons_zero, List.set_cons_succ, i64_w, i32_w]
        rfl
      refine one_ (i := 32) (N := some 50) #[true, true, true, true, true, true, true, true, true, true, true, true, true, true, true, true, true, true, true, true, true, true, true, true, true, true, true, true, true, true, true, true, true, false, false, false, false, false, false, false, false, false, false, false, false, false, false, false, false, false, false, false, false, false] rfl rfl (by kernel_rfl) (by decide) (fun K hK => ?_)
      refine goes_ Tryd.func29 (by kernel_rfl) rfl #[.agg #[.int .u64 a, .int .u64 b, .int .u64 c, .string s, .string m], .agg #[.int .u64 a', .int .u64 b', .int .u64 c', .string s', .string m']] (by rfl) rfl rfl (by simp only [List.map_toArray, List.map_cons, List.map_nil]; rfl) ?_
      with_reducible refine (impl_VersionLess.calls n a b c s m a' b' c' s' m' true _ (globE_below HG.out (Tw.bel (tw_last hHeld))) q7).mono ?_
      rintro e w3 ⟨rfl, hb⟩
      refine ⟨_, rfl, ?_⟩
      refine hK.out _ _ (tw_next hb hHeld) (fun hHeld => ?_)
      clear hK K
      refine norm_ (a' := ?_) ?_ ?_
      rotate_left
      · show Act.put _ (some 50) _ = _
        simp only [Act.put, List.setIfInBounds_toArray, List.set_cons_zero, List.set_cons_succ, i64_w, i32_w]
        rfl
      refine pure_ (i := 33) (N := some 51) (v := ?_) (a' := ?_) #[true, true, true, true, true, true, true, true, true, true, true, true, true, true, true, true, true, true, true, true, true, true, true, true, true, true, true, true, true, true, true, true, true, true, false, false, false, false, false, false, false, false, false, false, false, false, false, false, false, false, false, false, false, false] rfl rfl (by kernel_rfl) (fun _ _ _ h => h) (Or.inl ⟨by rfl, ?_⟩) ?_ ?_
      rotate_left
      · intro w'
        go_simp
        with_reducible rfl
      rotate_left
      · simp only [Act.put, List.setIfInBounds_toArray, List.set_cons_zero, List.set_cons_succ, i64_w, i32_w]
        rfl
      refine pure_ (i := 34) (N := some 52) (v := ?_) (a' := ?_) #[true, true, true, true, true, true, true, true, true, true, true, true, true, true, true, true, true, true, true, true, true, true, true, true, true, true, true, true, true, true, true, true, true, true, true, false, false, false, false, false, false, false, false, false, false, false, false, false, false, false, false, false, false, false] rfl rfl (by kernel_rfl) (fun _ _ _ h => h) (Or.inl ⟨by rfl, ?_⟩) ?_ ?_
      rotate_left
      · intro w'
        go_simp
        with_reducible rfl
      rotate_left
      · simp only [Act.put, List.setIfInBounds_toArray, List.set_cons_zero, List.set_cons_succ, i64_w, i32_w]
        rfl
      refine pure_ (i := 35) (N := some 53) (v := ?_) (a' := ?_) #[true, true, true, true, true, true, true, true, true, true, true, true, true, true, true, true, true, true, true, true, true, true, true, true, true, true, true, true, true, true, true, true, true, true, true, true, false, false, false, false, false, false, false, false, false, false, false, false, false, false, false, false, false, false] rfl rfl (by kernel_rfl) (fun _ _ _ h => h) (Or.inl ⟨by rfl, ?_⟩) ?_ ?_
      rotate_left
      · intro w'
        go_simp
        with_reducible rfl
      rotate_left
      · simp only [Act.put, List.setIfInBounds_toArray, List.set_cons_zero, List.set_cons_succ, i64_w, i32_w]
        rfl
      refine take_ (i := 36) (N := some 54) (v := ?_) (a' := ?_) #[true, true, true, true, true, true, true, true, true, true, true, true, true, true, true, true, true, true, true, true, true, true, true, true, true, true, true, true, true, true, true, true, true, true, true, true, true, false, false, false, false, false, false, false, false, false, false, false, false, false, false, false, false, false] rfl rfl (by kernel_rfl) (fun _ _ _ h => h) (Or.inl ⟨by rfl, ?_⟩) hHeld ?_ ?_
      rotate_left
      · rintro w' ⟨s0, s1, s2, s3, s4, s5, s6, s7, s8, s9, s10⟩
        go_simp
        with_reducible rfl
      rotate_left
      · simp only [Act.put, List.setIfInBounds_toArray, List.set_cons_zero, List.set_cons_succ, i64_w, i32_w]
        rfl
      refine take_ (i := 37) (N := some 55) (v := ?_) (a' := ?_) #[true, true, true, true, true, true, true, true, true, true, true, true, true, true, true, true, true, true, true, true, true, true, true, true, true, true, true, true, true, true, true, true, true, true, true, true, true, true, false, false, false, false, false, false, false, false, false, false, false, false, false, false, false, false] rfl rfl (by kernel_rfl) (fun _ _ _ h => h) (Or.inl ⟨by rfl, ?_⟩) hHeld ?_ ?_
      rotate_left
      · rintro w' ⟨s0, s1, s2, s3, s4, s5, s6, s7, s8, s9, s10⟩
        go_simp
        with_reducible rfl
      rotate_left
      · simp only [Act.put, List.setIfInBounds_toArray, List.set_cons_zero, List.set_cons_succ, i64_w, i32_w]
        rfl
      refine take_ (i := 39) (N := some 57) (v := ?_) (a' := ?_) #[true, true, true, true, true, true, true, true, true, true, true, true, true, true, true, true, true, true, true, true, true, true, true, true, true, true, true, true, true, true, true, true, true, true, true, true, true, true, false, true, false, false, false, false, false, false, false, false, false, false, false, false, false, false] rfl rfl (by kernel_rfl) (fun _ _ _ h => h) (Or.inl ⟨by rfl, ?_⟩) hHeld ?_ ?_
      rotate_left
      · rintro w' ⟨s0, s1, s2, s3, s4, s5, s6, s7, s8, s9, s10⟩
        go_simp
        with_reducible rfl
      rotate_left
      · simp only [Act.put, List.setIfInBounds_toArray, List.set_cons_zero, List.set_cons_succ, i64_w, i32_w]
        rfl
      refine take_ (i := 40) (N := some 58) (v := ?_) (a' := ?_) #[true, true, true, true, true, true, true, true, true, true, true, true, true, true, true, true, true, true, true, true, true, true, true, true, true, true, true, true, true, true, true, true, true, true, true, true, true, true, false, true, true, false, false, false, false, false, false, false, false, false, false, false, false, false] rfl rfl (by kernel_rfl) (fun _ _ _ h => h) (Or.inl ⟨by rfl, ?_⟩) hHeld ?_ ?_
      rotate_left
      · rintro w' ⟨s0, s1, s2, s3, s4, s5, s6, s7, s8, s9, s10⟩
        go_simp
        with_reducible rfl
      rotate_left
      · simp only [Act.put, List.setIfInBounds_toArray, List.set_cons_zero, List.set_cons_succ, i64_w, i32_w]
        rfl
      refine one_ (i := 38) (N := some 56) #[true, true, true, true, true, true, true, true, true, true, true, true, true, true, true, true, true, true, true, true, true, true, true, true, true, true, true, true, true, true, true, true, true, true, true, true, true, true, true, true, true, false, false, false, false, false, false, false, false, false, false, false, false, false] rfl rfl (by kernel_rfl) (by decide) (fun K hK => ?_)
      refine goes_ Tryd.func51 (by kernel_rfl) rfl #[.int .i64 4, .agg #[.int .u64 a', .int .u64 b', .int .u64 c', .string s', .string m'], .int .i64 3, .agg #[.int .u64 a, .int .u64 b, .int .u64 c, .string s, .string m]] (by rfl) rfl rfl (by simp only [List.map_toArray, List.map_cons, List.map_nil]; rfl) ?_
      with_reducible refine (laws_stHolds.calls n 4 a' b' c' s' m' 3 a b c s m false _ (globE_below HG.out (Tw.bel (tw_last hHeld))) q8).mono ?_
      rintro e w3 ⟨rfl, hb⟩
      refine ⟨_, rfl, ?_⟩
      refine hK.out _ _ (tw_next hb hHeld) (fun hHeld => ?_)
      clear hK K
      refine norm_ (a' := ?_) ?_ ?_
      rotate_left
      · show Act.put _ (some 56) _ = _
        simp only [Act.put, List.setIfInBounds_toArray, List.set_cons_zero, List.set_cons_succ, i64_w, i32_w]
        rfl
      refine one_ (i := 41) (N := some 59) #[true, true, true, true, true, true, true, true, true, true, true, true, true, true, true, true, true, true, true, true, true, true, true, true, true, true, true, true, true, true, true, true, true, true, true, true, true, true, true, true, true, true, false, false, false, false, false, false, false, false, false, false, false, false] rfl rfl (by kernel_rfl) (by decide) (fun K hK => ?_)
      refine goes_ Tryd.func32 (by kernel_rfl) rfl #[.agg #[.int .u64 a, .int .u64 b, .int .u64 c, .string s, .string m], .agg #[.int .u64 a', .int .u64 b', .int .u64 c', .string s', .string m']] (by rfl) rfl rfl (by simp only [List.map_toArray, List.map_cons, List.map_nil]; rfl) ?_
      with_reducible refine (impl_VersionGreaterEqual.calls n a b c s m a' b' c' s' m' false _ (globE_below HG.out (Tw.bel (tw_last hHeld))) q9).mono ?_
      rintro e w3 ⟨rfl, hb⟩
      refine ⟨_, rfl, ?_⟩
      refine hK.out _ _ (tw_next hb hHeld) (fun hHeld => ?_)
      clear hK K
      refine norm_ (a' := ?_) ?_ ?_
      rotate_left
      · show Act.put _ (some 59) _ = _
        simp only [Act.put, List.setIfInBounds_toArray, List.set_cons_zero, List.set_cons_succ, i64_w, i32_w]
        rfl
      refine pure_ (i := 42) (N := some 60) (v := ?_) (a' := ?_) #[true, true, true, true, true, true, true, true, true, true, true, true, true, true, true, true, true, true, true, true, true, true, true, true, true, true, true, true, true, true, true, true, true, true, true, true, true, true, true, true, true, true, true, false, false, false, false, false, false, false, false, false, false, false] rfl rfl (by kernel_rfl) (fun _ _ _ h => h) (Or.inl ⟨by rfl, ?_⟩) ?_ ?_
      rotate_left
      · intro w'
        go_simp
        with_reducible rfl
      rotate_left
      · simp only [Act.put, List.setIfInBounds_toArray, List.set_cons_zero, List.set_cons_succ, i64_w, i32_w]
        rfl
      refine pure_ (i := 43) (N := some 61) (v := ?_) (a' := ?_) #[true, true, true, true, true, true, true, true, true, true, true, true, true, true, true, true, true, true, true, true, true, true, true, true, true, true, true, true, true, true, true, true, true, true, true, true, true, true, true, true, true, true, true, true, false, false, false, false, false, false, false, false, false, false] rfl rfl (by kernel_rfl) (fun _ _ _ h => h) (Or.inl ⟨by rfl, ?_⟩) ?_ ?_
      rotate_left
      · intro w'
        go_simp
        with_reducible rfl
      rotate_left
      · simp only [Act.put, List.setIfInBounds_toArray, List.set_cons_zero, List.set_cons_succ, i64_w, i32_w]
        rfl
      refine pure_ (i := 44) (N := some 62) (v := ?_) (a' := ?_) #[true, true, true, true, true, true, true, true, true, true, true, true, true, true, true, true, true, true, true, true, true, true, true, true, true, true, true, true, true, true, true, true, true, true, true, true, true, true, true, true, true, true, true, true, true, false, false, false, false, false, false, false, false, false] rfl rfl (by kernel_rfl) (fun _ _ _ h => h) (Or.inl ⟨by rfl, ?_⟩) ?_ ?_
      rotate_left
      · intro w'
        go_simp
        with_reducible rfl
      rotate_left
      · simp only [Act.put, List.setIfInBounds_toArray, List.set_cons_zero, List.set_cons_succ, i64_w, i32_w]
        rfl
      refine take_ (i := 45) (N := some 63) (v := ?_) (a' := ?_) #[true, true, true, true, true, true, true, true, true, true, true, true, true, true, true, true, true, true, true, true, true, true, true, true, true, true, true, true, true, true, true, true, true, true, true, true, true, true, true, true, true, true, true, true, true, true, false, false, false, false, false, false, false, false] rfl rfl (by kernel_rfl) (fun _ _ _ h => h) (Or.inl ⟨by rfl, ?_⟩) hHeld ?_ ?_
      rotate_left
      · rintro w' ⟨s0, s1, s2, s3, s4, s5, s6, s7, s8, s9, s10⟩
        go_simp
        with_reducible rfl
      rotate_left
      · simp only [Act.put, List.setIfInBounds_toArray, List.set_cons_zero, List.set_cons_succ, i64_w, i32_w]
        rfl
      refine take_ (i := 46) (N := some 64) (v := ?_) (a' := ?_) #[true, true, true, true, true, true, true, true, true, true, true, true, true, true, true, true, true, true, true, true, true, true, true, true, true, true, true, true, true, true, true, true, true, true, true, true, true, true, true, true, true, true, true, true, true, true, true, false, false, false, false, false, false, false] rfl rfl (by kernel_rfl) (fun _ _ _ h => h) (Or.inl ⟨by rfl, ?_⟩) hHeld ?_ ?_
      rotate_left
      · rintro w' ⟨s0, s1, s2, s3, s4, s5, s6, s7, s8, s9, s10⟩
        go_simp
        with_reducible rfl
      rotate_left
      · simp only [Act.put, List.setIfInBounds_toArray, List.set_cons_zero, List.set_cons_succ, i64_w, i32_w]
        rfl
      refine take_ (i := 48) (N := some 66) (v := ?_) (a' := ?_) #[true, true, true, true, true, true, true, true, true, true, true, true, true, true, true, true, true, true, true, true, true, true, true, true, true, true, true, true, true, true, true, true, true, true, true, true, true, true, true, true, true, true, true, true, true, true, true, false, true, false, false, false, false, false] rfl rfl (by kernel_rfl) (fun _ _ _ h => h) (Or.inl ⟨by rfl, ?_⟩) hHeld ?_ ?_
      rotate_left
      · rintro w' ⟨s0, s1, s2, s3, s4, s5, s6, s7, s8, s9, s10⟩
        go_simp
        with_reducible rfl
      rotate_left
      · simp only [Act.put, List.setIfInBounds_toArray, List.set_cons_zero, List.set_cons_succ, i64_w, i32_w]
        rfl
      refine take_ (i := 49) (N := some 67) (v := ?_) (a' := ?_) #[true, true, true, true, true, true, true, true, true, true, true, true, true, true, true, true, true, true, true, true, true, true, true, true, true, true, true, true, true, true, true, true, true, true, true, true, true, true, true, true, true, true, true, true, true, true, true, false, true, true, false, false, false, false] rfl rfl (by kernel_rfl) (fun _ _ _ h => h) (Or.inl ⟨by rfl, ?_⟩) hHeld ?_ ?_
      rotate_left
      · rintro w' ⟨s0, s1, s2, s3, s4, s5, s6, s7, s8, s9, s10⟩
        go_simp
        with_reducible rfl
      rotate_left
      · simp only [Act.put, List.setIfInBounds_toArray, List.set_cons_zero, List.set_cons_succ, i64_w, i32_w]
        rfl
      refine one_ (i := 47) (N := some 65) #[true, true, true, true, true, true, true, true, true, true, true, true, true, true, true, true, true, true, true, true, true, true, true, true, true, true, true, true, true, true, true, true, true, true, true, true, true, true, true, true, true, true, true, true, true, true, true, true, true, true, false, false, false, false] rfl rfl (by kernel_rfl) (by decide) (fun K hK => ?_)
      refine goes_ Tryd.func51 (by kernel_rfl) rfl #[.int .i64 5, .agg #[.int .u64 a', .int .u64 b', .int .u64 c', .string s', .string m'], .int .i64 3, .agg #[.int .u64 a, .int .u64 b, .int .u64 c, .string s, .string m]] (by rfl) rfl rfl (by simp only [List.map_toArray, List.map_cons, List.map_nil]; rfl) ?_
      with_reducible refine (laws_stHolds.calls n 5 a' b' c' s' m' 3 a b c s m true _ (globE_below HG.out (Tw.bel (tw_last hHeld))) q10).mono ?_
      rintro e w3 ⟨rfl, hb⟩
      refine ⟨_, rfl, ?_⟩
      refine hK.out _ _ (tw_next hb hHeld) (fun hHeld => ?_)
      clear hK K
      refine norm_ (a' := ?_) ?_ ?_
      rotate_left
      · show Act.put _ (some 65) _ = _
        simp only [Act.put, List.setIfInBounds_toArray, List.set_cons_zero, List.set_cons_succ, i64_w, i32_w]
        rfl
      refine one_ (i := 50) (N := some 68) #[true, true, true, true, true, true, true, true, true, true, true, true, true, true, true, true, true, true, true, true, true, true, true, true, true, true, true, true, true, true, true, true, true, true, true, true, true, true, true, true, true, true, true, true, true, true, true, true, true, true, true, false, false, false] rfl rfl (by kernel_rfl) (by decide) (fun K hK => ?_)
      refine goes_ Tryd.func30 (by kernel_rfl) rfl #[.agg #[.int .u64 a, .int .u64 b, .int .u64 c, .string s, .string m], .agg #[.int .u64 a', .int .u64 b', .int .u64 c', .string s', .string m']] (by rfl) rfl rfl (by simp only [List.map_toArray, List.map_cons, List.map_nil]; rfl) ?_
      with_reducible refine (impl_VersionLessEqual.calls n a b c s m a' b' c' s' m' true _ (globE_below HG.out (Tw.bel (tw_last hHeld))) q11).mono ?_
      rintro e w3 ⟨rfl, hb⟩
      refine ⟨_, rfl, ?_⟩
      refine hK.out _ _ (tw_next hb hHeld) (fun hHeld => ?_)
      clear hK K
      refine norm_ (a' := ?_) ?_ ?_
      rotate_left
      · show Act.put _ (some 68) _ = _
        simp only [Act.put, List.setIfInBounds_toArray, List.set_cons_zero, List.set_cons_succ, i64_w, i32_w]
        rfl
      refine pure_ (i := 51) (N := some 69) (v := ?_) (a' := ?_) #[true, true, true, true, true, true, true, true, true, true, true, true, true, true, true, true, true, true, true, true, true, true, true, true, true, true, true, true, true, true, true, true, true, true, true, true, true, true, true, true, true, true, true, true, true, true, true, true, true, true, true, true, false, false] rfl rfl (by kernel_rfl) (fun _ _ _ h => h) (Or.inl ⟨by rfl, ?_⟩) ?_ ?_
      rotate_left
      · intro w'
        go_simp
        with_reducible rfl
      rotate_left
      · simp only [Act.put, List.setIfInBounds_toArray, List.set_cons_zero, List.set_cons_succ, i64_w, i32_w]
        rfl
      refine pure_ (i := 52) (N := some 70) (v := ?_) (a' := ?_) #[true, true, true, true, true, true, true, true, true, true, true, true, true, true, true, true, true, true, true, true, true, true, true, true, true, true, true, true, true, true, true, true, true, true, true, true, true, true, true, true, true, true, true, true, true, true, true, true, true, true, true, true, true, false] rfl rfl (by kernel_rfl) (fun _ _ _ h => h) (Or.inl ⟨by rfl, ?_⟩) ?_ ?_
      rotate_left
      · intro w'
        go_simp
        with_reducible rfl
      rotate_left
      · simp only [Act.put, List.setIfInBounds_toArray, List.set_cons_zero, List.set_cons_succ, i64_w, i32_w]
        rfl
      refine pure_ (i := 53) (N := some 4) (v := ?_) (a' := ?_) #[true, true, true, true, true, true, true, true, true, true, true, true, true, true, true, true, true, true, true, true, true, true, true, true, true, true, true, true, true, true, true, true, true, true, true, true, true, true, true, true, true, true, true, true, true, true, true, true, true, true, true, true, true, true] rfl rfl (by kernel_rfl) (fun _ _ _ h => h) (Or.inl ⟨by rfl, ?_⟩) ?_ ?_
      rotate_left
      · intro w'
        go_simp
        with_reducible rfl
      rotate_left
      · simp only [Act.put, List.setIfInBounds_toArray, List.set_cons_zero, List.set_cons_succ, i64_w, i32_w]
        rfl
      refine done_ (by kernel_rfl) ?_
      go_wp2
      go_ret
      exact ⟨by first | rfl | simp, Tw.bel (tw_last hHeld)⟩
set_option maxHeartbeats 4000000 in
set_option maxRecDepth 100000 in
theorem tc_5 (n : Nat) (a b c a' b' c' : Int) (s m s' m' : ByteArray) (w : World) (hG : GlobE w) (h1 : laws_zzFits14.f a b c s m = some true) (h2 : laws_zzFits14.f a' b' c' s' m' = some true) (yy : List S24) (Ny : yy = [(⟨a, b, c, s, m⟩ : S24), (⟨a', b', c', s', m'⟩ : S24)]) (h3 : laws_svGood.f n yy = some true) (q0 : laws_stHolds.f n 0 a' b' c' s' m' 3 a b c s m = some true) (q1 : impl_VersionEqual.f n a b c s m a' b' c' s' m' = some true) (q2 : laws_stHolds.f n 1 a' b' c' s' m' 3 a b c s m = some false) (q3 : impl_VersionEqual.f n a b c s m a' b' c' s' m' = some true) (q4 : laws_stHolds.f n 2 a' b' c' s' m' 3 a b c s m = some false) (q5 : impl_VersionGreater.f n a b c s m a' b' c' s' m' = some false) (q6 : laws_stHolds.f n 3 a' b' c' s' m' 3 a b c s m = some false) (q7 : impl_VersionLess.f n a b c s m a' b' c' s' m' = some false) (q8 : laws_stHolds.f n 4 a' b' c' s' m' 3 a b c s m = some true) (q9 : impl_VersionGreaterEqual.f n a b c s m a' b' c' s' m' = some true) (q10 : laws_stHolds.f n 5 a' b' c' s' m' 3 a b c s m = some true) (q11 : impl_VersionLessEqual.f n a b c s m a' b' c' s' m' = some true) :
  Calls Tryd.prog 13 #[.agg #[.int .u64 a, .int .u64 b, .int .u64 c, .string s, .string m], .agg #[.int .u64 a', .int .u64 b', .int .u64 c', .string s', .string m']] w fun e w' => e = .returned (.bool true) ∧ Below w.heap.size w w' := by
  have HG := Aside0.mk hG
  clear hG
  have HT := Aside0.mk (tw_start w #[.int .u64 a, .int .u64 b, .int .u64 c, .string s, .string m] #[.int .u64 a', .int .u64 b', .int .u64 c', .string s', .string m'])
  go_enter Tryd.func13, Tryd.ntmps13
  go_upto_region 1 with fail
  go_cut [12] (fun t W => t = .bool false ∧ Aside0 (Tw w w.heap.size (w.heap.size + 1) #[.int .u64 a, .int .u64 b, .int .u64 c, .string s, .string m] #[.int .u64 a', .int .u64 b', .int .u64 c', .string s', .string m'] W))
  case first =>
    have f0 := (blk_cell HT.out.k 0).trans (show _ = some (.int .u64 a) from rfl)
    have g0 := (blk_cell HT.out.l 0).trans (show _ = some (.int .u64 a') from rfl)
    have e0 := blk_frozen HT.out.k 0
    have d0 := blk_frozen HT.out.l 0
    have f1 := (blk_cell HT.out.k 1).trans (show _ = some (.int .u64 b) from rfl)
    have g1 := (blk_cell HT.out.l 1).trans (show _ = some (.int .u64 b') from rfl)
    have e1 := blk_frozen HT.out.k 1
    have d1 := blk_frozen HT.out.l 1
    have f2 := (blk_cell HT.out.k 2).trans (show _ = some (.int .u64 c) from rfl)
    have g2 := (blk_cell HT.out.l 2).trans (show _ = some (.int .u64 c') from rfl)
    have e2 := blk_frozen HT.out.k 2
    have d2 := blk_frozen HT.out.l 2
    have f3 := (blk_cell HT.out.k 3).trans (show _ = some (.string s) from rfl)
    have g3 := (blk_cell HT.out.l 3).trans (show _ = some (.string s') from rfl)
    have e3 := blk_frozen HT.out.k 3
    have d3 := blk_frozen HT.out.l 3
    have f4 := (blk_cell HT.out.k 4).trans (show _ = some (.string m) from rfl)
    have g4 := (blk_cell HT.out.l 4).trans (show _ = some (.string m') from rfl)
    have e4 := blk_frozen HT.out.k 4
    have d4 := blk_frozen HT.out.l 4
    go_wp2_with (first | (go_at_call 17; (with_reducible refine (laws_zzFits14.calls a b c s m _ _ h1).mono ?_); rintro e w3 ⟨rfl, hb⟩; replace HT := Aside0.mk (Tw.on (by (with_reducible repeat (first | exact HT.out | apply Tw.drew | apply Tw.drewN | apply Tw.alloc))) hb); clear hb; clear f0 g0 e0 d0 f1 g1 e1 d1 f2 g2 e2 d2 f3 g3 e3 d3 f4 g4 e4 d4; have f0 := (blk_cell HT.out.k 0).trans (show _ = some (.int .u64 a) from rfl); have g0 := (blk_cell HT.out.l 0).trans (show _ = some (.int .u64 a') from rfl); have e0 := blk_frozen HT.out.k 0; have d0 := blk_frozen HT.out.l 0; have f1 := (blk_cell HT.out.k 1).trans (show _ = some (.int .u64 b) from rfl); have g1 := (blk_cell HT.out.l 1).trans (show _ = some (.int .u64 b') from rfl); have e1 := blk_frozen HT.out.k 1; have d1 := blk_frozen HT.out.l 1; have f2 := (blk_cell HT.out.k 2).trans (show _ = some (.int .u64 c) from rfl); have g2 := (blk_cell HT.out.l 2).trans (show _ = some (.int .u64 c') from rfl); have e2 := blk_frozen HT.out.k 2; have d2 := blk_frozen HT.out.l 2; have f3 := (blk_cell HT.out.k 3).trans (show _ = some (.string s) from rfl); have g3 := (blk_cell HT.out.l 3).trans (show _ = some (.string s') from rfl); have e3 := blk_frozen HT.out.k 3; have d3 := blk_frozen HT.out.l 3; have f4 := (blk_cell HT.out.k 4).trans (show _ = some (.string m) from rfl); have g4 := (blk_cell HT.out.l 4).trans (show _ = some (.string m') from rfl); have e4 := blk_frozen HT.out.k 4; have d4 := blk_frozen HT.out.l 4) | (go_at_call 17; (with_reducible refine (laws_zzFits14.calls a' b' c' s' m' _ _ h2).mono ?_); rintro e w3 ⟨rfl, hb⟩; replace HT := Aside0.mk (Tw.on (by (with_reducible repeat (first | exact HT.out | apply Tw.drew | apply Tw.drewN | apply Tw.alloc))) hb); clear hb; clear f0 g0 e0 d0 f1 g1 e1 d1 f2 g2 e2 d2 f3 g3 e3 d3 f4 g4 e4 d4; have f0 := (blk_cell HT.out.k 0).trans (show _ = some (.int .u64 a) from rfl); have g0 := (blk_cell HT.out.l 0).trans (show _ = some (.int .u64 a') from rfl); have e0 := blk_frozen HT.out.k 0; have d0 := blk_frozen HT.out.l 0; have f1 := (blk_cell HT.out.k 1).trans (show _ = some (.int .u64 b) from rfl); have g1 := (blk_cell HT.out.l 1).trans (show _ = some (.int .u64 b') from rfl); have e1 := blk_frozen HT.out.k 1; have d1 := blk_frozen HT.out.l 1; have f2 := (blk_cell HT.out.k 2).trans (show _ = some (.int .u64 c) from rfl); have g2 := (blk_cell HT.out.l 2).trans (show _ = some (.int .u64 c') from rfl); have e2 := blk_frozen HT.out.k 2; have d2 := blk_frozen HT.out.l 2; have f3 := (blk_cell HT.out.k 3).trans (show _ = some (.string s) from rfl); have g3 := (blk_cell HT.out.l 3).trans (show _ = some (.string s') from rfl); have e3 := blk_frozen HT.out.k 3; have d3 := blk_frozen HT.out.l 3; have f4 := (blk_cell HT.out.k 4).trans (show _ = some (.string m) from rfl); have g4 := (blk_cell HT.out.l 4).trans (show _ = some (.string m') from rfl); have e4 := blk_frozen HT.out.k 4; have d4 := blk_frozen HT.out.l 4))
    go_meet
    exact ⟨rfl, Aside0.mk (by (with_reducible repeat (first | exact HT.out | apply Tw.drew | apply Tw.drewN | apply Tw.alloc)))⟩
  case rest =>
    obtain ⟨rfl, HT1⟩ := hcut
    clear HT
    have HT := HT1
    clear HT1
    have f0 := (blk_cell HT.out.k 0).trans (show _ = some (.int .u64 a) from rfl)
    have g0 := (blk_cell HT.out.l 0).trans (show _ = some (.int .u64 a') from rfl)
    have e0 := blk_frozen HT.out.k 0
    have d0 := blk_frozen HT.out.l 0
    have f1 := (blk_cell HT.out.k 1).trans (show _ = some (.int .u64 b) from rfl)
    have g1 := (blk_cell HT.out.l 1).trans (show _ = some (.int .u64 b') from rfl)
    have e1 := blk_frozen HT.out.k 1
    have d1 := blk_frozen HT.out.l 1
    have f2 := (blk_cell HT.out.k 2).trans (show _ = some (.int .u64 c) from rfl)
    have g2 := (blk_cell HT.out.l 2).trans (show _ = some (.int .u64 c') from rfl)
    have e2 := blk_frozen HT.out.k 2
    have d2 := blk_frozen HT.out.l 2
    have f3 := (blk_cell HT.out.k 3).trans (show _ = some (.string s) from rfl)
    have g3 := (blk_cell HT.out.l 3).trans (show _ = some (.string s') from rfl)
    have e3 := blk_frozen HT.out.k 3
    have d3 := blk_frozen HT.out.l 3
    have f4 := (blk_cell HT.out.k 4).trans (show _ = some (.string m) from rfl)
    have g4 := (blk_cell HT.out.l 4).trans (show _ = some (.string m') from rfl)
    have e4 := blk_frozen HT.out.k 4
    have d4 := blk_frozen HT.out.l 4
    go_upto_region 3 with fail
    go_cut [17] (fun t W => t = .bool false ∧ Aside0 (Tw w w.heap.size (w.heap.size + 1) #[.int .u64 a, .int .u64 b, .int .u64 c, .string s, .string m] #[.int .u64 a', .int .u64 b', .int .u64 c', .string s', .string m'] W))
    case first =>
      go_wp2_with (first | ((with_reducible refine gate_dst (N := 15) rfl ?_); refine Kd.R_lit k24 _ 24 ?hg (N := 15) ?hd (xs := ([(⟨a, b, c, s, m⟩ : S24), (⟨a', b', c', s', m'⟩ : S24)] : List (S24))) (inner := [.int .u64 a, .int .u64 b, .int .u64 c, .string s, .string m, .int .u64 a', .int .u64 b', .int .u64 c', .string s', .string m']) (ok := fun _ => True) (okp := fun _ => True) ?hr ?hp (fun _ hk => hk) trivial (Below.refl _ _) (Nat.le_refl _) (by simp) ?_; (case hd => rfl); (case hg => rfl); (case hr => first | (go_simp; done) | (go_simp; rfl)); (case hp => exact (Reps.c5 (show Kd.M k24 _ _ _ (⟨a, b, c, s, m⟩ : S24) [.int .u64 a, .int .u64 b, .int .u64 c, .string s, .string m] from (k24_mkM _ _ _ (⟨a, b, c, s, m⟩ : S24) )) (Reps.c5 (show Kd.M k24 _ _ _ (⟨a', b', c', s', m'⟩ : S24) [.int .u64 a', .int .u64 b', .int .u64 c', .string s', .string m'] from (k24_mkM _ _ _ (⟨a', b', c', s', m'⟩ : S24) )) (Reps.none _ _)))); intro v193 w4 ho hb hg_ hnew_; clear hg_ hnew_; (first | rw [← Ny] at ho | (simp only [Int.reduceToNat] at ho; rw [← Ny] at ho)); have HO := Aside0.mk ho; clear ho; replace HT := Aside0.mk (Tw.on (by (with_reducible repeat (first | exact HT.out | apply Tw.drew | apply Tw.drewN | apply Tw.alloc))) hb); clear hb; clear f0 g0 e0 d0 f1 g1 e1 d1 f2 g2 e2 d2 f3 g3 e3 d3 f4 g4 e4 d4; have f0 := (blk_cell HT.out.k 0).trans (show _ = some (.int .u64 a) from rfl); have g0 := (blk_cell HT.out.l 0).trans (show _ = some (.int .u64 a') from rfl); have e0 := blk_frozen HT.out.k 0; have d0 := blk_frozen HT.out.l 0; have f1 := (blk_cell HT.out.k 1).trans (show _ = some (.int .u64 b) from rfl); have g1 := (blk_cell HT.out.l 1).trans (show _ = some (.int .u64 b') from rfl); have e1 := blk_frozen HT.out.k 1; have d1 := blk_frozen HT.out.l 1; have f2 := (blk_cell HT.out.k 2).trans (show _ = some (.int .u64 c) from rfl); have g2 := (blk_cell HT.out.l 2).trans (show _ = some (.int .u64 c') from rfl); have e2 := blk_frozen HT.out.k 2; have d2 := blk_frozen HT.out.l 2; have f3 := (blk_cell HT.out.k 3).trans (show _ = some (.string s) from rfl); have g3 := (blk_cell HT.out.l 3).trans (show _ = some (.string s') from rfl); have e3 := blk_frozen HT.out.k 3; have d3 := blk_frozen HT.out.l 3; have f4 := (blk_cell HT.out.k 4).trans (show _ = some (.string m) from rfl); have g4 := (blk_cell HT.out.l 4).trans (show _ = some (.string m') from rfl); have e4 := blk_frozen HT.out.k 4; have d4 := blk_frozen HT.out.l 4; obtain ⟨Ao, co, eo⟩ := Kd.R_slice HO.out; subst eo) | ((with_reducible refine only_callee (f := 18) rfl ?_); refine goesL_ (some 16) rfl rfl Tryd.func18 (by kernel_rfl) rfl #[.slice Ao yy.length co] rfl (by (try simp only [List.map_toArray, List.map_cons, List.map_nil]); first | done | rfl | (simp only [List.length_drop, List.length_take]; rfl)) ?_; (with_reducible refine (laws_svGood.calls n _ _ yy true _ ?side1 ?side2 h3).mono ?_); (case side1 => repeat (first | exact (Kd.R_reads' HO.out).2.2 | (with_reducible refine Kd.C_alloc ?_ _) | (with_reducible refine Kd.C_drewN ?_ _) | (with_reducible refine Kd.C_drew ?_))); (case side2 => exact (Kd.R_reads' HO.out).2.1); rintro e w5 ⟨rfl, hb⟩; refine ⟨_, rfl, ?_⟩; replace HT := Aside0.mk (Tw.on (by (with_reducible repeat (first | exact HT.out | apply Tw.drew | apply Tw.drewN | apply Tw.alloc))) hb); clear hb; clear f0 g0 e0 d0 f1 g1 e1 d1 f2 g2 e2 d2 f3 g3 e3 d3 f4 g4 e4 d4; have f0 := (blk_cell HT.out.k 0).trans (show _ = some (.int .u64 a) from rfl); have g0 := (blk_cell HT.out.l 0).trans (show _ = some (.int .u64 a') from rfl); have e0 := blk_frozen HT.out.k 0; have d0 := blk_frozen HT.out.l 0; have f1 := (blk_cell HT.out.k 1).trans (show _ = some (.int .u64 b) from rfl); have g1 := (blk_cell HT.out.l 1).trans (show _ = some (.int .u64 b') from rfl); have e1 := blk_frozen HT.out.k 1; have d1 := blk_frozen HT.out.l 1; have f2 := (blk_cell HT.out.k 2).trans (show _ = some (.int .u64 c) from rfl); have g2 := (blk_cell HT.out.l 2).trans (show _ = some (.int .u64 c') from rfl); have e2 := blk_frozen HT.out.k 2; have d2 := blk_frozen HT.out.l 2; have f3 := (blk_cell HT.out.k 3).trans (show _ = some (.string s) from rfl); have g3 := (blk_cell HT.out.l 3).trans (show _ = some (.string s') from rfl); have e3 := blk_frozen HT.out.k 3; have d3 := blk_frozen HT.out.l 3; have f4 := (blk_cell HT.out.k 4).trans (show _ = some (.string m) from rfl); have g4 := (blk_cell HT.out.l 4).trans (show _ = some (.string m') from rfl); have e4 := blk_frozen HT.out.k 4; have d4 := blk_frozen HT.out.l 4))
      go_meet
      exact ⟨rfl, Aside0.mk (by (with_reducible repeat (first | exact HT.out | apply Tw.drew | apply Tw.drewN | apply Tw.alloc)))⟩
    case rest =>
      obtain ⟨rfl, HT1⟩ := hcut
      clear HT f0 g0 e0 d0 f1 g1 e1 d1 f2 g2 e2 d2 f3 g3 e3 d3 f4 g4 e4 d4
      have HT := HT1
      clear HT1
      go_upto_region 5 with fail
      refine start_ (n := 54) (S := fun w' => TwC w a b c s m a' b' c' s' m' w') (ds := []) #[false, false, false, false, false, false, false, false, false, false, false, false, false, false, false, false, false, false, false, false, false, false, false, false, false, false, false, false, false, false, false, false, false, false, false, false, false, false, false, false, false, false, false, false, false, false, false, false, false, false, false, false, false, false] (by kernel_rfl) rfl rfl (tw_held (HT.out.on (drew_below _))) (fun hHeld => ?_)
      refine take_ (i := 0) (N := some 18) (v := ?_) (a' := ?_) #[true, false, false, false, false, false, false, false, false, false, false, false, false, false, false, false, false, false, false, false, false, false, false, false, false, false, false, false, false, false, false, false, false, false, false, false, false, false, false, false, false, false, false, false, false, false, false, false, false, false, false, false, false, false] rfl rfl (by kernel_rfl) (fun _ _ _ h => h) (Or.inl ⟨by rfl, ?_⟩) hHeld ?_ ?_
      rotate_left
      · rintro w' ⟨s0, s1, s2, s3, s4, s5, s6, s7, s8, s9, s10⟩
        go_simp
        with_reducible rfl
      rotate_left
      · simp only [Act.put, List.setIfInBounds_toArray, List.set_cons_zero, List.set_cons_succ, i64_w, i32_w]
        rfl
      refine take_ (i := 1) (N := some 19) (v := ?_) (a' := ?_) #[true, true, false, false, false, false, false, false, false, false, false, false, false, false, false, false, false, false, false, false, false, false, false, false, false, false, false, false, false, false, false, false, false, false, false, false, false, false, false, false, false, false, false, false, false, false, false, false, false, false, false, false, false, false] rfl rfl (by kernel_rfl) (fun _ _ _ h => h) (Or.inl ⟨by rfl, ?_⟩) hHeld ?_ ?_
      rotate_left
      · rintro w' ⟨s0, s1, s2, s3, s4, s5, s6, s7, s8, s9, s10⟩
        go_simp
        with_reducible rfl
      rotate_left
      · simp only [Act.put, List.setIfInBounds_toArray, List.set_cons_zero, List.set_cons_succ, i64_w, i32_w]
        rfl
      refine take_ (i := 3) (N := some 21) (v := ?_) (a' := ?_) #[true, true, false, true, false, false, false, false, false, false, false, false, false, false, false, false, false, false, false, false, false, false, false, false, false, false, false, false, false, false, false, false, false, false, false, false, false, false, false, false, false, false, false, false, false, false, false, false, false, false, false, false, false, false] rfl rfl (by kernel_rfl) (fun _ _ _ h => h) (Or.inl ⟨by rfl, ?_⟩) hHeld ?_ ?_
      rotate_left
      · rintro w' ⟨s0, s1, s2, s3, s4, s5, s6, s7, s8, s9, s10⟩
        go_simp
        with_reducible rfl
      rotate_left
      · simp only [Act.put, List.setIfInBounds_toArray, List.set_cons_zero, List.set_cons_succ, i64_w, i32_w]
        rfl
      refine take_ (i := 4) (N := some 22) (v := ?_) (a' := ?_) #[true, true, false, true, true, false, false, false, false, false, false, false, false, false, false, false, false, false, false, false, false, false, false, false, false, false, false, false, false, false, false, false, false, false, false, false, false, false, false, false, false, false, false, false, false, false, false, false, false, false, false, false, false, false] rfl rfl (by kernel_rfl) (fun _ _ _ h => h) (Or.inl ⟨by rfl, ?_⟩) hHeld ?_ ?_
      rotate_left
      · rintro w' ⟨s0, s1, s2, s3, s4, s5, s6, s7, s8, s9, s10⟩
        go_simp
        with_reducible rfl
      rotate_left
      · simp only [Act.put, List.setIfInBounds_toArray, List.set_cons_zero, List.set_cons_succ, i64_w, i32_w]
        rfl
      refine one_ (i := 2) (N := some 20) #[true, true, true, true, true, false, false, false, false, false, false, false, false, false, false, false, false, false, false, false, false, false, false, false, false, false, false, false, false, false, false, false, false, false, false, false, false, false, false, false, false, false, false, false, false, false, false, false, false, false, false, false, false, false] rfl rfl (by kernel_rfl) (by decide) (fun K hK => ?_)
      refine goes_ Tryd.func51 (by kernel_rfl) rfl #[.int .i64 0, .agg #[.int .u64 a', .int .u64 b', .int .u64 c', .string s', .string m'], .int .i64 3, .agg #[.int .u64 a, .int .u64 b, .int .u64 c, .string s, .string m]] (by rfl) rfl rfl (by simp only [List.map_toArray, List.map_cons, List.map_nil]; rfl) ?_
      with_reducible refine (laws_stHolds.calls n 0 a' b' c' s' m' 3 a b c s m true _ (globE_below HG.out (Tw.bel (tw_last hHeld))) q0).mono ?_
      rintro e w3 ⟨rfl, hb⟩
      refine ⟨_, rfl, ?_⟩
      refine hK.out _ _ (tw_next hb hHeld) (fun hHeld => ?_)
      clear hK K
      refine norm_ (a' := ?_) ?_ ?_
      rotate_left
      · show Act.put _ (some 20) _ = _
        simp only [Act.put, List.setIfInBounds_toArray, List.set_cons_zero, List.set_cons_succ, i64_w, i32_w]
        rfl
      refine one_ (i := 5) (N := some 23) #[true, true, true, true, true, true, false, false, false, false, false, false, false, false, false, false, false, false, false, false, false, false, false, false, false, false, false, false, false, false, false, false, false, false, false, false, false, false, false, false, false, false, false, false, false, false, false, false, false, false, false, false, false, false] rfl rfl (by kernel_rfl) (by decide) (fun K hK => ?_)
      refine goes_ Tryd.func28 (by kernel_rfl) rfl #[.agg #[.int .u64 a, .int .u64 b, .int .u64 c, .string s, .string m], .agg #[.int .u64 a', .int .u64 b', .int .u64 c', .string s', .string m']] (by rfl) rfl rfl (by simp only [List.map_toArray, List.map_cons, List.map_nil]; rfl) ?_
      with_reducible refine (impl_VersionEqual.calls n a b c s m a' b' c' s' m' true _ (globE_below HG.out (Tw.bel (tw_last hHeld))) q1).mono ?_
      rintro e w3 ⟨rfl, hb⟩
      refine ⟨_, rfl, ?_⟩
      refine hK.out _ _ (tw_next hb hHeld) (fun hHeld => ?_)
      clear hK K
      refine norm_ (a' := ?_) ?_ ?_
      rotate_left
      · show Act.put _ (some 23) _ = _
        simp only [Act.put, List.setIfInBounds_toArray, List.set_cons_zero, List.set_cons_succ, i64_w, i32_w]
        rfl
      refine pure_ (i := 6) (N := some 24) (v := ?_) (a' := ?_) #[true, true, true, true, true, true, true, false, false, false, false, false, false, false, false, false, false, false, false, false, false, false, false, false, false, false, false, false, false, false, false, false, false, false, false, false, false, false, false, false, false, false, false, false, false, false, false, false, false, false, false, false, false, false] rfl rfl (by kernel_rfl) (fun _ _ _ h => h) (Or.inl ⟨by rfl, ?_⟩) ?_ ?_
      rotate_left
      · intro w'
        go_simp
        with_reducible rfl
      rotate_left
      · simp only [Act.put, List.setIfInBounds_toArray, List.set_cons_zero, List.set_cons_succ, i64_w, i32_w]
        rfl
      refine pure_ (i := 7) (N := some 25) (v := ?_) (a' := ?_) #[true, true, true, true, true, true, true, true, false, false, false, false, false, false, false, false, false, false, false, false, false, false, false, false, false, false, false, false, false, false, false, false, false, false, false, false, false, false, false, false, false, false, false, false, false, false, false, false, false, false, false, false, false, false] rfl rfl (by kernel_rfl) (fun _ _ _ h => h) (Or.inl ⟨by rfl, ?_⟩) ?_ ?_
      rotate_left
      · intro w'
        go_simp
        with_reducible rfl
      rotate_left
      · simp only [Act.put, List.setIfInBounds_toArray, List.set_cons_zero, List.set_cons_succ, i64_w, i32_w]
        rfl
      refine take_ (i := 8) (N := some 26) (v := ?_) (a' := ?_) #[true, true, true, true, true, true, true, true, true, false, false, false, false, false, false, false, false, false, false, false, false, false, false, false, false, false, false, false, false, false, false, false, false, false, false, false, false, false, false, false, false, false, false, false, false, false, false, false, false, false, false, false, false, false] rfl rfl (by kernel_rfl) (fun _ _ _ h => h) (Or.inl ⟨by rfl, ?_⟩) hHeld ?_ ?_
      rotate_left
      · rintro w' ⟨s0, s1, s2, s3, s4, s5, s6, s7, s8, s9, s10⟩
        go_simp
        with_reducible rfl
      rotate_left
      · simp only [Act.put, List.setIfInBounds_toArray, List.set_cons_zero, List.set_cons_succ, i64_w, i32_w]
        rfl
      refine take_ (i := 9) (N := some 27) (v := ?_) (a' := ?_) #[true, true, true, true, true, true, true, true, true, true, false, false, false, false, false, false, false, false, false, false, false, false, false, false, false, false, false, false, false, false, false, false, false, false, false, false, false, false, false, false, false, false, false, false, false, false, false, false, false, false, false, false, false, false] rfl rfl (by kernel_rfl) (fun _ _ _ h => h) (Or.inl ⟨by rfl, ?_⟩) hHeld ?_ ?_
      rotate_left
      · rintro w' ⟨s0, s1, s2, s3, s4, s5, s6, s7, s8, s9, s10⟩
        go_simp
        with_reducible rfl
      rotate_left
      · simp only [Act.put, List.setIfInBounds_toArray, List.set_cons_zero, List.set_cons_succ, i64_w, i32_w]
        rfl
      refine take_ (i := 11) (N := some 29) (v := ?_) (a' := ?_) #[true, true, true, true, true, true, true, true, true, true, false, true, false, false, false, false, false, false, false, false, false, false, false, false, false, false, false, false, false, false, false, false, false, false, false, false, false, false, false, false, false, false, false, false, false, false, false, false, false, false, false, false, false, false] rfl rfl (by kernel_rfl) (fun _ _ _ h => h) (Or.inl ⟨by rfl, ?_⟩) hHeld ?_ ?_
      rotate_left
      · rintro w' ⟨s0, s1, s2, s3, s4, s5, s6, s7, s8, s9, s10⟩
        go_simp
        with_reducible rfl
      rotate_left
      · simp only [Act.put, List.setIfInBounds_toArray, List.set_cons_zero, List.set_cons_succ, i64_w, i32_w]
        rfl
      refine take_ (i := 12) (N := some 30) (v := ?_) (a' := ?_) #[true, true, true, true, true, true, true, true, true, true, false, true, true, false, false, false, false, false, false, false, false, false, false, false, false, false, false, false, false, false, false, false, false, false, false, false, false, false, false, false, false, false, false, false, false, false, false, false, false, false, false, false, false, false] rfl rfl (by kernel_rfl) (fun _ _ _ h => h) (Or.inl ⟨by rfl, ?_⟩) hHeld ?_ ?_
      rotate_left
      · rintro w' ⟨s0, s1, s2, s3, s4, s5, s6, s7, s8, s9, s10⟩
        go_simp
        with_reducible rfl
      rotate_left
      · simp only [Act.put, List.setIfInBounds_toArray, List.set_cons_zero, List.set_cons_succ, i64_w, i32_w]
        rfl
      refine one_ (i := 10) (N := some 28) #[true, true, true, true, true, true, true, true, true, true, true, true, true, false, false, false, false, false, false, false, false, false, false, false, false, false, false, false, false, false, false, false, false, false, false, false, false, false, false, false, false, false, false, false, false, false, false, false, false, false, false, false, false, false] rfl rfl (by kernel_rfl) (by decide) (fun K hK => ?_)
      refine goes_ Tryd.func51 (by kernel_rfl) rfl #[.int .i64 1, .agg #[.int .u64 a', .int .u64 b', .int .u64 c', .string s', .string m'], .int .i64 3, .agg #[.int .u64 a, .int .u64 b, .int .u64 c, .string s, .string m]] (by rfl) rfl rfl (by simp only [List.map_toArray, List.map_cons, List.map_nil]; rfl) ?_
      with_reducible refine (laws_stHolds.calls n 1 a' b' c' s' m' 3 a b c s m false _ (globE_below HG.out (Tw.bel (tw_last hHeld))) q2).mono ?_
      rintro e w3 ⟨rfl, hb⟩
      refine ⟨_, rfl, ?_⟩
      refine hK.out _ _ (tw_next hb hHeld) (fun hHeld => ?_)
      clear hK K
      refine norm_ (a' := ?_) ?_ ?_
      rotate_left
      · show Act.put _ (some 28) _ = _
        simp only [Act.put, List.setIfInBounds_toArray, List.set_cons_zero, List.set_cons_succ, i64_w, i32_w]
        rfl
      refine one_ (i := 13) (N := some 31) #[true, true, true, true, true, true, true, true, true, true, true, true, true, true, false, false, false, false, false, false, false, false, false, false, false, false, false, false, false, false, false, false, false, false, false, false, false, false, false, false, false, false, false, false, false, false, false, false, false, false, false, false, false, false] rfl rfl (by kernel_rfl) (by decide) (fun K hK => ?_)
      refine goes_ Tryd.func28 (by kernel_rfl) rfl #[.agg #[.int .u64 a, .int .u64 b, .int .u64 c, .string s, .string m], .agg #[.int .u64 a', .int .u64 b', .int .u64 c', .string s', .string m']] (by rfl) rfl rfl (by simp only [List.map_toArray, List.map_cons, List.map_nil]; rfl) ?_
      with_reducible refine (impl_VersionEqual.calls n a b c s m a' b' c' s' m' true _ (globE_below HG.out (Tw.bel (tw_last hHeld))) q3).mono ?_
      rintro e w3 ⟨rfl, hb⟩
      refine ⟨_, rfl, ?_⟩
      refine hK.out _ _ (tw_next hb hHeld) (fun hHeld => ?_)
      clear hK K
      refine norm_ (a' := ?_) ?_ ?_
      rotate_left
      · show Act.put _ (some 31) _ = _
        simp only [Act.put, List.setIfInBounds_toArray, List.set_cons_zero, List.set_cons_succ, i64_w, i32_w]
        rfl
      refine pure_ (i := 14) (N := some 32) (v := ?_) (a' := ?_) #[true, true, true, true, true, true, true, true, true, true, true, true, true, true, true, false, false, false, false, false, false, false, false, false, false, false, false, false, false, false, false, false, false, false, false, false, false, false, false, false, false, false, false, false, false, false, false, false, false, false, false, false, false, false] rfl rfl (by kernel_rfl) (fun _ _ _ h => h) (Or.inl ⟨by rfl, ?_⟩) ?_ ?_
      rotate_left
      · intro w'
        go_simp
        with_reducible rfl
      rotate_left
      · simp only [Act.put, List.setIfInBounds_toArray, List.set_cons_zero, List.set_cons_succ, i64_w, i32_w]
        rfl
      refine pure_ (i := 15) (N := some 33) (v := ?_) (a' := ?_) #[true, true, true, true, true, true, true, true, true, true, true, true, true, true, true, true, false, false, false, false, false, false, false, false, false, false, false, false, false, false, false, false, false, false, false, false, false, false, false, false, false, false, false, false, false, false, false, false, false, false, false, false, false, false] rfl rfl (by kernel_rfl) (fun _ _ _ h => h) (Or.inl ⟨by rfl, ?_⟩) ?_ ?_
      rotate_left
      · intro w'
        go_simp
        with_reducible rfl
      rotate_left
      · simp only [Act.put, List.setIfInBounds_toArray, List.set_cons_zero, List.set_cons_succ, i64_w, i32_w]
        rfl
      refine pure_ (i := 16) (N := some 34) (v := ?_) (a' := ?_) #[true, true, true, true, true, true, true, true, true, true, true, true, true, true, true, true, true, false, false, false, false, false, false, false, false, false, false, false, false, false, false, false, false, false, false, false, false, false, false, false, false, false, false, false, false, false, false, false, false, false, false, false, false, false] rfl rfl (by kernel_rfl) (fun _ _ _ h => h) (Or.inl ⟨by rfl, ?_⟩) ?_ ?_
      rotate_left
      · intro w'
        go_simp
        with_reducible rfl
      rotate_left
      · simp only [Act.put, List.setIfInBounds_toArray, List.set_cons_zero, List.set_cons_succ, i64_w, i32_w]
        rfl
      refine pure_ (i := 17) (N := some 35) (v := ?_) (a' := ?_) #[true, true, true, true, true, true, true, true, true, true, true, true, true, true, true, true, true, true, false, false, false, false, false, false, false, false, false, false, false, false, false, false, false, false, false, false, false, false, false, false, false, false, false, false, false, false, false, false, false, false, false, false, false, false] rfl rfl (by kernel_rfl) (fun _ _ _ h => h) (Or.inl ⟨by rfl, ?_⟩) ?_ ?_
      rotate_left
      · intro w'
        go_simp
        with_reducible rfl
      rotate_left
      · simp only [Act.put, List.setIfInBounds_toArray, List.set_cons_zero, List.set_cons_succ, i64_w, i32_w]
        rfl
      refine take_ (i := 18) (N := some 36) (v := ?_) (a' := ?_) #[true, true, true, true, true, true, true, true, true, true, true, true, true, true, true, true, true, true, true, false, false, false, false, false, false, false, false, false, false, false, false, false, false, false, false, false, false, false, false, false, false, false, false, false, false, false, false, false, false, false, false, false, false, false] rfl rfl (by kernel_rfl) (fun _ _ _ h => h) (Or.inl ⟨by rfl, ?_⟩) hHeld ?_ ?_
      rotate_left
      · rintro w' ⟨s0, s1, s2, s3, s4, s5, s6, s7, s8, s9, s10⟩
        go_simp
        with_reducible rfl
      rotate_left
      · simp only [Act.put, List.setIfInBounds_toArray, List.set_cons_zero, List.set_cons_succ, i64_w, i32_w]
        rfl
      refine take_ (i := 19) (N := some 37) (v := ?_) (a' := ?_) #[true, true, true, true, true, true, true, true, true, true, true, true, true, true, true, true, true, true, true, true, false, false, false, false, false, false, false, false, false, false, false, false, false, false, false, false, false, false, false, false, false, false, false, false, false, false, false, false, false, false, false, false, false, false] rfl rfl (by kernel_rfl) (fun _ _ _ h => h) (Or.inl ⟨by rfl, ?_⟩) hHeld ?_ ?_
      rotate_left
      · rintro w' ⟨s0, s1, s2, s3, s4, s5, s6, s7, s8, s9, s10⟩
        go_simp
        with_reducible rfl
      rotate_left
      · simp only [Act.put, List.setIfInBounds_toArray, List.set_cons_zero, List.set_cons_succ, i64_w, i32_w]
        rfl
      refine take_ (i := 21) (N := some 39) (v := ?_) (a' := ?_) #[true, true, true, true, true, true, true, true, true, true, true, true, true, true, true, true, true, true, true, true, false, true, false, false, false, false, false, false, false, false, false, false, false, false, false, false, false, false, false, false, false, false, false, false, false, false, false, false, false, false, false, false, false, false] rfl rfl (by kernel_rfl) (fun _ _ _ h => h) (Or.inl ⟨by rfl, ?_⟩) hHeld ?_ ?_
      rotate_left
      · rintro w' ⟨s0, s1, s2, s3, s4, s5, s6, s7, s8, s9, s10⟩
        go_simp
        with_reducible rfl
      rotate_left
      · simp only [Act.put, List.setIfInBounds_toArray, List.set_cons_zero, List.set_cons_succ, i64_w, i32_w]
        rfl
      refine take_ (i := 22) (N := some 40) (v := ?_) (a' := ?_) #[true, true, true, true, true, true, true, true, true, true, true, true, true, true, true, true, true, true, true, true, false, true, true, false, false, false, false, false, false, false, false, false, false, false, false, false, false, false, false, false, false, false, false, false, false, false, false, false, false, false, false, false, false, false] rfl rfl (by kernel_rfl) (fun _ _ _ h => h) (Or.inl ⟨by rfl, ?_⟩) hHeld ?_ ?_
      rotate_left
      · rintro w' ⟨s0, s1, s2, s3, s4, s5, s6, s7, s8, s9, s10⟩
        go_simp
        with_reducible rfl
      rotate_left
      · simp only [Act.put, List.setIfInBounds_toArray, List.set_cons_zero, List.set_cons_succ, i64_w, i32_w]
        rfl
      refine one_ (i := 20) (N := some 38) #[true, true, true, true, true, true, true, true, true, true, true, true, true, true, true, true, true, true, true, true, true, true, true, false, false, false, false, false, false, false, false, false, false, false, false, false, false, false, false, false, false, false, false, false, false, false, false, false, false, false, false, false, false, false] rfl rfl (by kernel_rfl) (by decide) (fun K hK => ?_)
      refine goes_ Tryd.func51 (by kernel_rfl) rfl #[.int .i64 2, .agg #[.int .u64 a', .int .u64 b', .int .u64 c', .string s', .string m'], .int .i64 3, .agg #[.int .u64 a, .int .u64 b, .int .u64 c, .string s, .string m]] (by rfl) rfl rfl (by simp only [List.map_toArray, List.map_cons, List.map_nil]; rfl) ?_
      with_reducible refine (laws_stHolds.calls n 2 a' b' c' s' m' 3 a b c s m false _ (globE_below HG.out (Tw.bel (tw_last hHeld))) q4).mono ?_
      rintro e w3 ⟨rfl, hb⟩
      refine ⟨_, rfl, ?_⟩
      refine hK.out _ _ (tw_next hb hHeld) (fun hHeld => ?_)
      clear hK K
      refine norm_ (a' := ?_) ?_ ?_
      rotate_left
      · show Act.put _ (some 38) _ = _
        simp only [Act.put, List.setIfInBounds_toArray, List.set_cons_zero, List.set_cons_succ, i64_w, i32_w]
        rfl
      refine one_ (i := 23) (N := some 41) #[true, true, true, true, true, true, true, true, true, true, true, true, true, true, true, true, true, true, true, true, true, true, true, true, false, false, false, false, false, false, false, false, false, false, false, false, false, false, false, false, false, false, false, false, false, false, false, false, false, false, false, false, false, false] rfl rfl (by kernel_rfl) (by decide) (fun K hK => ?_)
      refine goes_ Tryd.func31 (by kernel_rfl) rfl #[.agg #[.int .u64 a, .int .u64 b, .int .u64 c, .string s, .string m], .agg #[.int .u64 a', .int .u64 b', .int .u64 c', .string s', .string m']] (by rfl) rfl rfl (by simp only [List.map_toArray, List.map_cons, List.map_nil]; rfl) ?_
      with_reducible refine (impl_VersionGreater.calls n a b c s m a' b' c' s' m' false _ (globE_below HG.out (Tw.bel (tw_last hHeld))) q5).mono ?_
      rintro e w3 ⟨rfl, hb⟩
      refine ⟨_, rfl, ?_⟩
      refine hK.out _ _ (tw_next hb hHeld) (fun hHeld => ?_)
      clear hK K
      refine norm_ (a' := ?_) ?_ ?_
      rotate_left
      · show Act.put _ (some 41) _ = _
        simp only [Act.put, List.setIfInBounds_toArray, List.set_cons_zero, List.set_cons_succ, i64_w, i32_w]
        rfl
      refine pure_ (i := 24) (N := some 42) (v := ?_) (a' := ?_) #[true, true, true, true, true, true, true, true, true, true, true, true, true, true, true, true, true, true, true, true, true, true, true, true, true, false, false, false, false, false, false, false, false, false, false, false, false, false, false, false, false, false, false, false, false, false, false, false, false, false, false, false, false, false] rfl rfl (by kernel_rfl) (fun _ _ _ h => h) (Or.inl ⟨by rfl, ?_⟩) ?_ ?_
      rotate_left
      · intro w'
        go_simp
        with_reducible rfl
      rotate_left
      · simp only [Act.put, List.setIfInBounds_toArray, List.set_cons_zero, List.set_cons_succ, i64_w, i32_w]
        rfl
      refine pure_ (i := 25) (N := some 43) (v := ?_) (a' := ?_) #[true, true, true, true, true, true, true, true, true, true, true, true, true, true, true, true, true, true, true, true, true, true, true, true, true, true, false, false, false, false, false, false, false, false, false, false, false, false, false, false, false, false, false, false, false, false, false, false, false, false, false, false, false, false] rfl rfl (by kernel_rfl) (fun _ _ _ h => h) (Or.inl ⟨by rfl, ?_⟩) ?_ ?_
      rotate_left
      · intro w'
        go_simp
        with_reducible rfl
      rotate_left
      · simp only [Act.put, List.setIfInBounds_toArray, List.set_cons_zero, List.set_cons_succ, i64_w, i32_w]
        rfl
      refine pure_ (i := 26) (N := some 44) (v := ?_) (a' := ?_) #[true, true, true, true, true, true, true, true, true, true, true, true, true, true, true, true, true, true, true, true, true, true, true, true, true, true, true, false, false, false, false, false, false, false, false, false, false, false, false, false, false, false, false, false, false, false, false, false, false, false, false, false, false, false] rfl rfl (by kernel_rfl) (fun _ _ _ h => h) (Or.inl ⟨by rfl, ?_⟩) ?_ ?_
      rotate_left
      · intro w'
        go_simp
        with_reducible rfl
      rotate_left
      · simp only [Act.put, List.setIfInBounds_toArray, List.set_cons_zero, List.set_cons_succ, i64_w, i32_w]
        rfl
      refine take_ (i := 27) (N := some 45) (v := ?_) (a' := ?_) #[true, true, true, true, true, true, true, true, true, true, true, true, true, true, true, true, true, true, true, true, true, true, true, true, true, true, true, true, false, false, false, false, false, false, false, false, false, false, false, false, false, false, false, false, false, false, false, false, false, false, false, false, false, false] rfl rfl (by kernel_rfl) (fun _ _ _ h => h) (Or.inl ⟨by rfl, ?_⟩) hHeld ?_ ?_
      rotate_left
      · rintro w' ⟨s0, s1, s2, s3, s4, s5, s6, s7, s8, s9, s10⟩
        go_simp
        with_reducible rfl
      rotate_left
      · simp only [Act.put, List.setIfInBounds_toArray, List.set_cons_zero, List.set_cons_succ, i64_w, i32_w]
        rfl
      refine take_ (i := 28) (N := some 46) (v := ?_) (a' := ?_) #[true, true, true, true, true, true, true, true, true, true, true, true, true, true, true, true, true, true, true, true, true, true, true, true, true, true, true, true, true, false, false, false, false, false, false, false, false, false, false, false, false, false, false, false, false, false, false, false, false, false, false, false, false, false] rfl rfl (by kernel_rfl) (fun _ _ _ h => h) (Or.inl ⟨by rfl, ?_⟩) hHeld ?_ ?_
      rotate_left
      · rintro w' ⟨s0, s1, s2, s3, s4, s5, s6, s7, s8, s9, s10⟩
        go_simp
        with_reducible rfl
      rotate_left
      · simp only [Act.put, List.setIfInBounds_toArray, List.set_cons_zero, List.set_cons_succ, i64_w, i32_w]
        rfl
      refine take_ (i := 30) (N := some 48) (v := ?_) (a' := ?_) #[true, true, true, true, true, true, true, true, true, true, true, true, true, true, true, true, true, true, true, true, true, true, true, true, true, true, true, true, true, false, true, false, false, false, false, false, false, false, false, false, false, false, false, false, false, false, false, false, false, false, false, false, false, false] rfl rfl (by kernel_rfl) (fun _ _ _ h => h) (Or.inl ⟨by rfl, ?_⟩) hHeld ?_ ?_
      rotate_left
      · rintro w' ⟨s0, s1, s2, s3, s4, s5, s6, s7, s8, s9, s10⟩
        go_simp
        with_reducible rfl
      rotate_left
      · simp only [Act.put, List.setIfInBounds_toArray, List.set_cons_zero, List.set_cons_succ, i64_w, i32_w]
        rfl
      refine take_ (i := 31) (N := some 49) (v := ?_) (a' := ?_) #[true, true, true, true, true, true, true, true, true, true, true, true, true, true, true, true, true, true, true, true, true, true, true, true, true, true, true, true, true, false, true, true, false, false, false, false, false, false, false, false, false, false, false, false, false, false, false, false, false, false, false, false, false, false] rfl rfl (by kernel_rfl) (fun _ _ _ h => h) (Or.inl ⟨by rfl, ?_⟩) hHeld ?_ ?_
      rotate_left
      · rintro w' ⟨s0, s1, s2, s3, s4, s5, s6, s7, s8, s9, s10⟩
        go_simp
        with_reducible rfl
      rotate_left
      · simp only [Act.put, List.setIfInBounds_toArray, List.set_cons_zero, List.set_cons_succ, i64_w, i32_w]
        rfl
      refine one_ (i := 29) (N := some 47) #[true, true, true, true, true, true, true, true, true, true, true, true, true, true, true, true, true, true, true, true, true, true, true, true, true, true, true, true, true, true, true, true, false, false, false, false, false, false, false, false, false, false, false, false, false, false, false, false, false, false, false, false, false, false] rfl rfl (by kernel_rfl) (by decide) (fun K hK => ?_)
      refine goes_ Tryd.func51 (by kernel_rfl) rfl #[.int .i64 3, .agg #[.int .u64 a', .int .u64 b', .int .u64 c', .string s', .string m'], .int .i64 3, .agg #[.int .u64 a, .int .u64 b, .int .u64 c, .string s, .string m]] (by rfl) rfl rfl (by simp only [List.map_toArray, List.map_cons, List.map_nil]; rfl) ?_
      with_reducible refine (laws_stHolds.calls n 3 a' b' c' s' m' 3 a b c s m false _ (globE_below HG.out (Tw.bel (tw_last hHeld))) q6).mono ?_
      rintro e w3 ⟨rfl, hb⟩
      refine ⟨_, rfl, ?_⟩
      refine hK.out _ _ (tw_next hb hHeld) (fun hHeld => ?_)
      clear hK K
      refine norm_ (a' := ?_) ?_ ?_
      rotate_left
      · show Act.put _ (some 47) _ = _
        simp only [Act.put, List.setIfInBounds_toArray, List.set_cons_zero, List.set_cons_succ, i64_w, i32_w]
        rfl
      refine one_ (i := 32) (N := some 50) #[true, true, true, true, true, true, true, true, true, true, true, true, true, true, true, true, true, true, true, true, true, true, true, true, true, true, true, true, true, true, true, true, true, false, false, false, false, false, false, false, false, false, false, false, false, false, false, false, false, false, false, false, false, false] rfl rfl (by kernel_rfl) (by decide) (fun K hK => ?_)
      refine goes_ Tryd.func29 (by kernel_rfl) rfl #[.agg #[.int .u64 a, .int .u64 b, .int .u64 c, .string s, .string m], .agg #[.int .u64 a', .int .u64 b', .int .u64 c', .string s', .string m']] (by rfl) rfl rfl (by simp only [List.map_toArray, List.map_cons, List.map_nil]; rfl) ?_
      with_reducible refine (impl_VersionLess.calls n a b c s m a' b' c' s' m' false _ (globE_below HG.out (Tw.bel (tw_last hHeld))) q7).mono ?_
      rintro e w3 ⟨rfl, hb⟩
      refine ⟨_, rfl, ?_⟩
      refine hK.out _ _ (tw_next hb hHeld) (fun hHeld => ?_)
      clear hK K
      refine norm_ (a' := ?_) ?_ ?_
      rotate_left
      · show Act.put _ (some 50) _ = _
        simp only [Act.put, List.setIfInBounds_toArray, List.set_cons_zero, List.set_cons_succ, i64_w, i32_w]
        rfl
      refine pure_ (i := 33) (N := some 51) (v := ?_) (a' := ?_) #[true, true, true, true, true, true, true, true, true, true, true, true, true, true, true, true, true, true, true, true, true, true, true, true, true, true, true, true, true, true, true, true, true, true, false, false, false, false, false, false, false, false, false, false, false, false, false, false, false, false, false, false, false, false] rfl rfl (by kernel_rfl) (fun _ _ _ h => h) (Or.inl ⟨by rfl, ?_⟩) ?_ ?_
      rotate_left
      · intro w'
        go_simp
        with_reducible rfl
      rotate_left
      · simp only [Act.put, List.setIfInBounds_toArray, List.set_cons_zero, List.set_cons_succ, i64_w, i32_w]
        rfl
      refine pure_ (i := 34) (N := some 52) (v := ?_) (a' := ?_) #[true, true, true, true, true, true, true, true, true, true, true, true, true, true, true, true, true, true, true, true, true, true, true, true, true, true, true, true, true, true, true, true, true, true, true, false, false, false, false, false, false, false, false, false, false, false, false, false, false, false, false, false, false, false] rfl rfl (by kernel_rfl) (fun _ _ _ h => h) (Or.inl ⟨by rfl, ?_⟩) ?_ ?_
      rotate_left
      · intro w'
        go_simp
        with_reducible rfl
      rotate_left
      · simp only [Act.put, List.setIfInBounds_toArray, List.set_cons_zero, List.set_cons_succ, i64_w, i32_w]
        rfl
      refine pure_ (i := 35) (N := some 53) (v := ?_) (a' := ?_) #[true, true, true, true, true, true, true, true, true, true, true, true, true, true, true, true, true, true, true, true, true, true, true, true, true, true, true, true, true, true, true, true, true, true, true, true, false, false, false, false, false, false, false, false, false, false, false, false, false, false, false, false, false, false] rfl rfl (by kernel_rfl) (fun _ _ _ h => h) (Or.inl ⟨by rfl, ?_⟩) ?_ ?_
      rotate_left
      · intro w'
        go_simp
        with_reducible rfl
      rotate_left
      · simp only [Act.put, List.setIfInBounds_toArray, List.set_cons_zero, List.set_cons_succ, i64_w, i32_w]
        rfl
      refine take_ (i := 36) (N := some 54) (v := ?_) (a' := ?_) #[true, true, true, true, true, true, true, true, true, true, true, true, true, true, true, true, true, true, true, true, true, true, true, true, true, true, true, true, true, true, true, true, true, true, true, true, true, false, false, false, false, false, false, false, false, false, false, false, false, false, false, false, false, false] rfl rfl (by kernel_rfl) (fun _ _ _ h => h) (Or.inl ⟨by rfl, ?_⟩) hHeld ?_ ?_
      rotate_left
      · rintro w' ⟨s0, s1, s2, s3, s4, s5, s6, s7, s8, s9, s10⟩
        go_simp
        with_reducible rfl
      rotate_left
      · simp only [Act.put, List.setIfInBounds_toArray, List.set_cons_zero, List.set_cons_succ, i64_w, i32_w]
        rfl
      refine take_ (i := 37) (N := some 55) (v := ?_) (a' := ?_) #[true, true, true, true, true, true, true, true, true, true, true, true, true, true, true, true, true, true, true, true, true, true, true, true, true, true, true, true, true, true, true, true, true, true, true, true, true, true, false, false, false, false, false, false, false, false, false, false, false, false, false, false, false, false] rfl rfl (by kernel_rfl) (fun _ _ _ h => h) (Or.inl ⟨by rfl, ?_⟩) hHeld ?_ ?_
      rotate_left
      · rintro w' ⟨s0, s1, s2, s3, s4, s5, s6, s7, s8, s9, s10⟩
        go_simp
        with_reducible rfl
      rotate_left
      · simp only [Act.put, List.setIfInBounds_toArray, List.set_cons_zero, List.set_cons_succ, i64_w, i32_w]
        rfl
      refine take_ (i := 39) (N := some 57) (v := ?_) (a' := ?_) #[true, true, true, true, true, true, true, true, true, true, true, true, true, true, true, true, true, true, true, true, true, true, true, true, true, true, true, true, true, true, true, true, true, true, true, true, true, true, false, true, false, false, false, false, false, false, false, false, false, false, false, false, false, false] rfl rfl (by kernel_rfl) (fun _ _ _ h => h) (Or.inl ⟨by rfl, ?_⟩) hHeld ?_ ?_
      rotate_left
      · rintro w' ⟨s0, s1, s2, s3, s4, s5, s6, s7, s8, s9, s10⟩
        go_simp
        with_reducible rfl
      rotate_left
      · simp only [Act.put, List.setIfInBounds_toArray, List.set_cons_zero, List.set_cons_succ, i64_w, i32_w]
        rfl
      refine take_ (i := 40) (N := some 58) (v := ?_) (a' := ?_) #[true, true, true, true, true, true, true, true, true, true, true, true, true, true, true, true, true, true, true, true, true, true, true, true, true, true, true, true, true, true, true, true, true, true, true, true, true, true, false, true, true, false, false, false, false, false, false, false, false, false, false, false, false, false] rfl rfl (by kernel_rfl) (fun _ _ _ h => h) (Or.inl ⟨by rfl, ?_⟩) hHeld ?_ ?_
      rotate_left
      · rintro w' ⟨s0, s1, s2, s3, s4, s5, s6, s7, s8, s9, s10⟩
        go_simp
        with_reducible rfl
      rotate_left
      · simp only [Act.put, List.setIfInBounds_toArray, List.set_cons_zero, List.set_cons_succ, i64_w, i32_w]
        rfl
      refine one_ (i := 38) (N := some 56) #[true, true, true, true, true, true, true, true, true, true, true, true, true, true, true, true, true, true, true, true, true, true, true, true, true, true, true, true, true, true, true, true, true, true, true, true, true, true, true, true, true, false, false, false, false, false, false, false, false, false, false, false, false, false] rfl rfl (by kernel_rfl) (by decide) (fun K hK => ?_)
      refine goes_ Tryd.func51 (by kernel_rfl) rfl #[.int .i64 4, .agg #[.int .u64 a', .int .u64 b', .int .u64 c', .string s', .string m'], .int .i64 3, .agg #[.int .u64 a, .int .u64 b, .int .u64 c, .string s, .string m]] (by rfl) rfl rfl (by simp only [List.map_toArray, List.map_cons, List.map_nil]; rfl) ?_
      with_reducible refine (laws_stHolds.calls n 4 a' b' c' s' m' 3 a b c s m true _ (globE_below HG.out (Tw.bel (tw_last hHeld))) q8).mono ?_
      rintro e w3 ⟨rfl, hb⟩
      refine ⟨_, rfl, ?_⟩
      refine hK.out _ _ (tw_next hb hHeld) (fun hHeld => ?_)
      clear hK K
      refine norm_ (a' := ?_) ?_ ?_
      rotate_left
      · show Act.put _ (some 56) _ = _
        simp only [Act.put, List.setIfInBounds_toArray, List.set_cons_zero, List.set_cons_succ, i64_w, i32_w]
        rfl
      refine one_ (i := 41) (N := some 59) #[true, true, true, true, true, true, true, true, true, true, true, true, true, true, true, true, true, true, true, true, true, true, true, true, true, true, true, true, true, true, true, true, true, true, true, true, true, true, true, true, true, true, false, false, false, false, false, false, false, false, false, false, false, false] rfl rfl (by kernel_rfl) (by decide) (fun K hK => ?_)
      refine goes_ Tryd.func32 (by kernel_rfl) rfl #[.agg #[.int .u64 a, .int .u64 b, .int .u64 c, .string s, .string m], .agg #[.int .u64 a', .int .u64 b', .int .u64 c', .string s', .string m']] (by rfl) rfl rfl (by simp only [List.map_toArray, List.map_cons, List.map_nil]; rfl) ?_
      with_reducible refine (impl_VersionGreaterEqual.calls n a b c s m a' b' c' s' m' true _ (globE_below HG.out (Tw.bel (tw_last hHeld))) q9).mono ?_
      rintro e w3 ⟨rfl, hb⟩
      refine ⟨_, rfl, ?_⟩
      refine hK.out _ _ (tw_next hb hHeld) (fun hHeld => ?_)
      clear hK K
      refine norm_ (a' := ?_) ?_ ?_
      rotate_left
      · show Act.put _ (some 59) _ = _
        simp only [Act.put, List.setIfInBounds_toArray, List.set_cons_zero, List.set_cons_succ, i64_w, i32_w]
        rfl
      refine pure_ (i := 42) (N := some 60) (v := ?_) (a' := ?_) #[true, true, true, true, true, true, true, true, true, true, true, true, true, true, true, true, true, true, true, true, true, true, true, true, true, true, true, true, true, true, true, true, true, true, true, true, true, true, true, true, true, true, true, false, false, false, false, false, false, false, false, false, false, false] rfl rfl (by kernel_rfl) (fun _ _ _ h => h) (Or.inl ⟨by rfl, ?_⟩) ?_ ?_
      rotate_left
      · intro w'
        go_simp
        with_reducible rfl
      rotate_left
      · simp only [Act.put, List.setIfInBounds_toArray, List.set_cons_zero, List.set_cons_succ, i64_w, i32_w]
        rfl
      refine pure_ (i := 43) (N := some 61) (v := ?_) (a' := ?_) #[true, true, true, true, true, true, true, true, true, true, true, true, true, true, true, true, true, true, true, true, true, true, true, true, true, true, true, true, true, true, true, true, true, true, true, true, true, true, true, true, true, true, true, true, false, false, false, false, false, false, false, false, false, false] rfl rfl (by kernel_rfl) (fun _ _ _ h => h) (Or.inl ⟨by rfl, ?_⟩) ?_ ?_
      rotate_left
      · intro w'
        go_simp
        with_reducible rfl
      rotate_left
      · simp only [Act.put, List.setIfInBounds_toArray, List.set_cons_zero, List.set_cons_succ, i64_w, i32_w]
        rfl
      refine pure_ (i := 44) (N := some 62) (v := ?_) (a' := ?_) #[true, true, true, true, true, true, true, true, true, true, true, true, true, true, true, true, true, true, true, true, true, true, true, true, true, true, true, true, true, true, true, true, true, true, true, true, true, true, true, true, true, true, true, true, true, false, false, false, false, false, false, false, false, false] rfl rfl (by kernel_rfl) (fun _ _ _ h => h) (Or.inl ⟨by rfl, ?_⟩) ?_ ?_
      rotate_left
      · intro w'
        go_simp
        with_reducible rfl
      rotate_left
      · simp only [Act.put, List.setIfInBounds_toArray, List.set_cons_zero, List.set_cons_succ, i64_w, i32_w]
        rfl
      refine take_ (i := 45) (N := some 63) (v := ?_) (a' := ?_) #[true, true, true, true, true, true, true, true, true, true, true, true, true, true, true, true, true, true, true, true, true, true, true, true, true, true, true, true, true, true, true, true, true, true, true, true, true, true, true, true, true, true, true, true, true, true, false, false, false, false, false, false, false, false] rfl rfl (by kernel_rfl) (fun _ _ _ h => h) (Or.inl ⟨by rfl, ?_⟩) hHeld ?_ ?_
      rotate_left
      · rintro w' ⟨s0, s1, s2, s3, s4, s5, s6, s7, s8, s9, s10⟩
        go_simp
        with_reducible rfl
      rotate_left
      · simp only [Act.put, List.setIfInBounds_toArray, List.set_cons_zero, List.set_cons_succ, i64_w, i32_w]
        rfl
      refine take_ (i := 46) (N := some 64) (v := ?_) (a' := ?_) #[true, true, true, true, true, true, true, true, true, true, true, true, true, true, true, true, true, true, true, true, true, true, true, true, true, true, true, true, true, true, true, true, true, true, true, true, true, true, true, true, true, true, true, true, true, true, true, false, false, false, false, false, false, false] rfl rfl (by kernel_rfl) (fun _ _ _ h => h) (Or.inl ⟨by rfl, ?_⟩) hHeld ?_ ?_
      rotate_left
      · rintro w' ⟨s0, s1, s2, s3, s4, s5, s6, s7, s8, s9, s10⟩
        go_simp
        with_reducible rfl
      rotate_left
      · simp only [Act.put, List.setIfInBounds_toArray, List.set_cons_zero, List.set_cons_succ, i64_w, i32_w]
        rfl
      refine take_ (i := 48) (N := some 66) (v := ?_) (a' := ?_) #[true, true, true, true, true, true, true, true, true, true, true, true, true, true, true, true, true, true, true, true, true, true, true, true, true, true, true, true, true, true, true, true, true, true, true, true, true, true, true, true, true, true, true, true, true, true, true, false, true, false, false, false, false, false] rfl rfl (by kernel_rfl) (fun _ _ _ h => h) (Or.inl ⟨by rfl, ?_⟩) hHeld ?_ ?_
      rotate_left
      · rintro w' ⟨s0, s1, s2, s3, s4, s5, s6, s7, s8, s9, s10⟩
        go_simp
        with_reducible rfl
      rotate_left
      · simp only [Act.put, List.setIfInBounds_toArray, List.set_cons_zero, List.set_cons_succ, i64_w, i32_w]
        rfl
      refine take_ (i := 49) (N := some 67) (v := ?_) (a' := ?_) #[true, true, true, true, true, true, true, true, true, true, true, true, true, true, true, true, true, true, true, true, true, true, true, true, true, true, true, true, true, true, true, true, true, true, true, true, true, true, true, true, true, true, true, true, true, true, true, false, true, true, false, false, false, false] rfl rfl (by kernel_rfl) (fun _ _ _ h => h) (Or.inl ⟨by rfl, ?_⟩) hHeld ?_ ?_
      rotate_left
      · rintro w' ⟨s0, s1, s2, s3, s4, s5, s6, s7, s8, s9, s10⟩
        go_simp
        with_reducible rfl
      rotate_left
      · simp only [Act.put, List.setIfInBounds_toArray, List.set_cons_zero, List.set_cons_succ, i64_w, i32_w]
        rfl
      refine one_ (i := 47) (N := some 65) #[true, true, true, true, true, true, true, true, true, true, true, true, true, true, true, true, true, true, true, true, true, true, true, true, true, true, true, true, true, true, true, true, true, true, true, true, true, true, true, true, true, true, true, true, true, true, true, true, true, true, false, false, false, false] rfl rfl (by kernel_rfl) (by decide) (fun K hK => ?_)
      refine goes_ Tryd.func51 (by kernel_rfl) rfl #[.int .i64 5, .agg #[.int .u64 a', .int .u64 b', .int .u64 c', .string s', .string m'], .int .i64 3, .agg #[.int .u64 a, .int .u64 b, .int .u64 c, .string s, .string m]] (by rfl) rfl rfl (by simp only [List.map_toArray, List.map_cons, List.map_nil]; rfl) ?_
      with_reducible refine (laws_stHolds.calls n 5 a' b' c' s' m' 3 a b c s m true _ (globE_below HG.out (Tw.bel (tw_last hHeld))) q10).mono ?_
      rintro e w3 ⟨rfl, hb⟩
      refine ⟨_, rfl, ?_⟩
      refine hK.out _ _ (tw_next hb hHeld) (fun hHeld => ?_)
      clear hK K
      refine norm_ (a' := ?_) ?_ ?_
      rotate_left
      · show Act.put _ (some 65) _ = _
        simp only [Act.put, List.setIfInBounds_toArray, List.set_cons_zero, List.set_cons_succ, i64_w, i32_w]
        rfl
      refine one_ (i := 50) (N := some 68) #[true, true, true, true, true, true, true, true, true, true, true, true, true, true, true, true, true, true, true, true, true, true, true, true, true, true, true, true, true, true, true, true, true, true, true, true, true, true, true, true, true, true, true, true, true, true, true, true, true, true, true, false, false, false] rfl rfl (by kernel_rfl) (by decide) (fun K hK => ?_)
      refine goes_ Tryd.func30 (by kernel_rfl) rfl #[.agg #[.int .u64 a, .int .u64 b, .int .u64 c, .string s, .string m], .agg #[.int .u64 a', .int .u64 b', .int .u64 c', .string s', .string m']] (by rfl) rfl rfl (by simp only [List.map_toArray, List.map_cons, List.map_nil]; rfl) ?_
      with_reducible refine (impl_VersionLessEqual.calls n a b c s m a' b' c' s' m' true _ (globE_below HG.out (Tw.bel (tw_last hHeld))) q11).mono ?_
      rintro e w3 ⟨rfl, hb⟩
      refine ⟨_, rfl, ?_⟩
      refine hK.out _ _ (tw_next hb hHeld) (fun hHeld => ?_)
      clear hK K
      refine norm_ (a' := ?_) ?_ ?_
      rotate_left
      · show Act.put _ (some 68) _ = _
        simp only [Act.put, List.setIfInBounds_toArray, List.set_cons_zero, List.set_cons_succ, i64_w, i32_w]
        rfl
      refine pure_ (i := 51) (N := some 69) (v := ?_) (a' := ?_) #[true, true, true, true, true, true, true, true, true, true, true, true, true, true, true, true, true, true, true, true, true, true, true, true, true, true, true, true, true, true, true, true, true, true, true, true, true, true, true, true, true, true, true, true, true, true, true, true, true, true, true, true, false, false] rfl rfl (by kernel_rfl) (fun _ _ _ h => h) (Or.inl ⟨by rfl, ?_⟩) ?_ ?_
      rotate_left
      · intro w'
        go_simp
        with_reducible rfl
      rotate_left
      · simp only [Act.put, List.setIfInBounds_toArray, List.set_cons_zero, List.set_cons_succ, i64_w, i32_w]
        rfl
      refine pure_ (i := 52) (N := some 70) (v := ?_) (a' := ?_) #[true, true, true, true, true, true, true, true, true, true, true, true, true, true, true, true, true, true, true, true, true, true, true, true, true, true, true, true, true, true, true, true, true, true, true, true, true, true, true, true, true, true, true, true, true, true, true, true, true, true, true, true, true, false] rfl rfl (by kernel_rfl) (fun _ _ _ h => h) (Or.inl ⟨by rfl, ?_⟩) ?_ ?_
      rotate_left
      · intro w'
        go_simp
        with_reducible rfl
      rotate_left
      · simp only [Act.put, List.setIfInBounds_toArray, List.set_cons_zero, List.set_cons_succ, i64_w, i32_w]
        rfl
      refine pure_ (i := 53) (N := some 4) (v := ?_) (a' := ?_) #[true, true, true, true, true, true, true, true, true, true, true, true, true, true, true, true, true, true, true, true, true, true, true, true, true, true, true, true, true, true, true, true, true, true, true, true, true, true, true, true, true, true, true, true, true, true, true, true, true, true, true, true, true, true] rfl rfl (by kernel_rfl) (fun _ _ _ h => h) (Or.inl ⟨by rfl, ?_⟩) ?_ ?_
      rotate_left
      · intro w'
        go_simp
        with_reducible rfl
      rotate_left
      · simp only [Act.put, List.setIfInBounds_toArray, List.set_cons_zero, List.set_cons_succ, i64_w, i32_w]
        rfl
      refine done_ (by kernel_rfl) ?_
      go_wp2
      go_ret
      exact ⟨by first | rfl | simp, Tw.bel (tw_last hHeld)⟩
set_option maxHeartbeats 4000000 in
set_option maxRecDepth 100000 in
theorem tc_6 (n : Nat) (a b c a' b' c' : Int) (s m s' m' : ByteArray) (w : World) (hG : GlobE w) (h1 : laws_zzFits14.f a b c s m = some true) (h2 : laws_zzFits14.f a' b' c' s' m' = some true) (yy : List S24) (Ny : yy = [(⟨a, b, c, s, m⟩ : S24), (⟨a', b', c', s', m'⟩ : S24)]) (h3 : laws_svGood.f n yy = some true) (q0 : laws_stHolds.f n 0 a' b' c' s' m' 3 a b c s m = some false) (q1 : impl_VersionEqual.f n a b c s m a' b' c' s' m' = some false) (q2 : laws_stHolds.f n 1 a' b' c' s' m' 3 a b c s m = some true) (q3 : impl_VersionEqual.f n a b c s m a' b' c' s' m' = some false) (q4 : laws_stHolds.f n 2 a' b' c' s' m' 3 a b c s m = some true) (q5 : impl_VersionGreater.f n a b c s m a' b' c' s' m' = some true) (q6 : laws_stHolds.f n 3 a' b' c' s' m' 3 a b c s m = some false) (q7 : impl_VersionLess.f n a b c s m a' b' c' s' m' = some false) (q8 : laws_stHolds.f n 4 a' b' c' s' m' 3 a b c s m = some true) (q9 : impl_VersionGreaterEqual.f n a b c s m a' b' c' s' m' = some true) (q10 : laws_stHolds.f n 5 a' b' c' s' m' 3 a b c s m = some false) (q11 : impl_VersionLessEqual.f n a b c s m a' b' c' s' m' = some false) :
  Calls Tryd.prog 13 #[.agg #[.int .u64 a, .int .u64 b, .int .u64 c, .string s, .string m], .agg #[.int .u64 a', .int .u64 b', .int .u64 c', .string s', .string m']] w fun e w' => e = .returned (.bool true) ∧ Below w.heap.size w w' := by
  have HG := Aside0.mk hG
  clear hG
  have HT := Aside0.mk (tw_start w #[.int .u64 a, .int .u64 b, .int .u64 c, .string s, .string m] #[.int .u64 a', .int .u64 b', .int .u64 c', .string s', .string m'])
  go_enter Tryd.func13, Tryd.ntmps13
  go_upto_region 1 with fail
  go_cut [12] (fun t W => t = .bool false ∧ Aside0 (Tw w w.heap.size (w.heap.size + 1) #[.int .u64 a, .int .u64 b, .int .u64 c, .string s, .string m] #[.int .u64 a', .int .u64 b', .int .u64 c', .string s', .string m'] W))
  case first =>
    have f0 := (blk_cell HT.out.k 0).trans (show _ = some (.int .u64 a) from rfl)
    have g0 := (blk_cell HT.out.l 0).trans (show _ = some (.int .u64 a') from rfl)
    have e0 := blk_frozen HT.out.k 0
    have d0 := blk_frozen HT.out.l 0
    have f1 := (blk_cell HT.out.k 1).trans (show _ = some (.int .u64 b) from rfl)
    have g1 := (blk_cell HT.out.l 1).trans (show _ = some (.int .u64 b') from rfl)
    have e1 := blk_frozen HT.out.k 1
    have d1 := blk_frozen HT.out.l 1
    have f2 := (blk_cell HT.out.k 2).trans (show _ = some (.int .u64 c) from rfl)
    have g2 := (blk_cell HT.out.l 2).trans (show _ = some (.int .u64 c') from rfl)
    have e2 := blk_frozen HT.out.k 2
    have d2 := blk_frozen HT.out.l 2
    have f3 := (blk_cell HT.out.k 3).trans (show _ = some (.string s) from rfl)
    have g3 := (blk_cell HT.out.l 3).trans (show _ = some (.string s') from rfl)
    have e3 := blk_frozen HT.out.k 3
    have d3 := blk_frozen HT.out.l 3
    have f4 := (blk_cell HT.out.k 4).trans (show _ = some (.string m) from rfl)
    have g4 := (blk_cell HT.out.l 4).trans (show _ = some (.string m') from rfl)
    have e4 := blk_frozen HT.out.k 4
    have d4 := blk_frozen HT.out.l 4
    go_wp2_with (first | (go_at_call 17; (with_reducible refine (laws_zzFits14.calls a b c s m _ _ h1).mono ?_); rintro e w3 ⟨rfl, hb⟩; replace HT := Aside0.mk (Tw.on (by (with_reducible repeat (first | exact HT.out | apply Tw.drew | apply Tw.drewN | apply Tw.alloc))) hb); clear hb; clear f0 g0 e0 d0 f1 g1 e1 d1 f2 g2 e2 d2 f3 g3 e3 d3 f4 g4 e4 d4; have f0 := (blk_cell HT.out.k 0).trans (show _ = some (.int .u64 a) from rfl); have g0 := (blk_cell HT.out.l 0).trans (show _ = some (.int .u64 a') from rfl); have e0 := blk_frozen HT.out.k 0; have d0 := blk_frozen HT.out.l 0; have f1 := (blk_cell HT.out.k 1).trans (show _ = some (.int .u64 b) from rfl); have g1 := (blk_cell HT.out.l 1).trans (show _ = some (.int .u64 b') from rfl); have e1 := blk_frozen HT.out.k 1; have d1 := blk_frozen HT.out.l 1; have f2 := (blk_cell HT.out.k 2).trans (show _ = some (.int .u64 c) from rfl); have g2 := (blk_cell HT.out.l 2).trans (show _ = some (.int .u64 c') from rfl); have e2 := blk_frozen HT.out.k 2; have d2 := blk_frozen HT.out.l 2; have f3 := (blk_cell HT.out.k 3).trans (show _ = some (.string s) from rfl); have g3 := (blk_cell HT.out.l 3).trans (show _ = some (.string s') from rfl); have e3 := blk_frozen HT.out.k 3; have d3 := blk_frozen HT.out.l 3; have f4 := (blk_cell HT.out.k 4).trans (show _ = some (.string m) from rfl); have g4 := (blk_cell HT.out.l 4).trans (show _ = some (.string m') from rfl); have e4 := blk_frozen HT.out.k 4; have d4 := blk_frozen HT.out.l 4) | (go_at_call 17; (with_reducible refine (laws_zzFits14.calls a' b' c' s' m' _ _ h2).mono ?_); rintro e w3 ⟨rfl, hb⟩; replace HT := Aside0.mk (Tw.on (by (with_reducible repeat (first | exact HT.out | apply Tw.drew | apply Tw.drewN | apply Tw.alloc))) hb); clear hb; clear f0 g0 e0 d0 f1 g1 e1 d1 f2 g2 e2 d2 f3 g3 e3 d3 f4 g4 e4 d4; have f0 := (blk_cell HT.out.k 0).trans (show _ = some (.int .u64 a) from rfl); have g0 := (blk_cell HT.out.l 0).trans (show _ = some (.int .u64 a') from rfl); have e0 := blk_frozen HT.out.k 0; have d0 := blk_frozen HT.out.l 0; have f1 := (blk_cell HT.out.k 1).trans (show _ = some (.int .u64 b) from rfl); have g1 := (blk_cell HT.out.l 1).trans (show _ = some (.int .u64 b') from rfl); have e1 := blk_frozen HT.out.k 1; have d1 := blk_frozen HT.out.l 1; have f2 := (blk_cell HT.out.k 2).trans (show _ = some (.int .u64 c) from rfl); have g2 := (blk_cell HT.out.l 2).trans (show _ = some (.int .u64 c') from rfl); have e2 := blk_frozen HT.out.k 2; have d2 := blk_frozen HT.out.l 2; have f3 := (blk_cell HT.out.k 3).trans (show _ = some (.string s) from rfl); have g3 := (blk_cell HT.out.l 3).trans (show _ = some (.string s') from rfl); have e3 := blk_frozen HT.out.k 3; have d3 := blk_frozen HT.out.l 3; have f4 := (blk_cell HT.out.k 4).trans (show _ = some (.string m) from rfl); have g4 := (blk_cell HT.out.l 4).trans (show _ = some (.string m') from rfl); have e4 := blk_frozen HT.out.k 4; have d4 := blk_frozen HT.out.l 4))
    go_meet
    exact ⟨rfl, Aside0.mk (by (with_reducible repeat (first | exact HT.out | apply Tw.drew | apply Tw.drewN | apply Tw.alloc)))⟩
  case rest =>
    obtain ⟨rfl, HT1⟩ := hcut
    clear HT
    have HT := HT1
    clear HT1
    have f0 := (blk_cell HT.out.k 0).trans (show _ = some (.int .u64 a) from rfl)
    have g0 := (blk_cell HT.out.l 0).trans (show _ = some (.int .u64 a') from rfl)
    have e0 := blk_frozen HT.out.k 0
    have d0 := blk_frozen HT.out.l 0
    have f1 := (blk_cell HT.out.k 1).trans (show _ = some (.int .u64 b) from rfl)
    have g1 := (blk_cell HT.out.l 1).trans (show _ = some (.int .u64 b') from rfl)
    have e1 := blk_frozen HT.out.k 1
    have d1 := blk_frozen HT.out.l 1
    have f2 := (blk_cell HT.out.k 2).trans (show _ = some (.int .u64 c) from rfl)
    have g2 := (blk_cell HT.out.l 2).trans (show _ = some (.int .u64 c') from rfl)
    have e2 := blk_frozen HT.out.k 2
    have d2 := blk_frozen HT.out.l 2
    have f3 := (blk_cell HT.out.k 3).trans (show _ = some (.string s) from rfl)
    have g3 := (blk_cell HT.out.l 3).trans (show _ = some (.string s') from rfl)
    have e3 := blk_frozen HT.out.k 3
    have d3 := blk_frozen HT.out.l 3
    have f4 := (blk_cell HT.out.k 4).trans (show _ = some (.string m) from rfl)
    have g4 := (blk_cell HT.out.l 4).trans (show _ = some (.string m') from rfl)
    have e4 := blk_frozen HT.out.k 4
    have d4 := blk_frozen HT.out.l 4
    go_upto_region 3 with fail
    go_cut [17] (fun t W => t = .bool false ∧ Aside0 (Tw w w.heap.size (w.heap.size + 1) #[.int .u64 a, .int .u64 b, .int .u64 c, .string s, .string m] #[.int .u64 a', .int .u64 b', .int .u64 c', .string s', .string m'] W))
    case first =>
      go_wp2_with (first | ((with_reducible refine gate_dst (N := 15) rfl ?_); refine Kd.R_lit k24 _ 24 ?hg (N := 15) ?hd (xs := ([(⟨a, b, c, s, m⟩ : S24), (⟨a', b', c', s', m'⟩ : S24)] : List (S24))) (inner := [.int .u64 a, .int .u64 b, .int .u64 c, .string s, .string m, .int .u64 a', .int .u64 b', .int .u64 c', .string s', .string m']) (ok := fun _ => True) (okp := fun _ => True) ?hr ?hp (fun _ hk => hk) trivial (Below.refl _ _) (Nat.le_refl _) (by simp) ?_; (case hd => rfl); (case hg => rfl); (case hr => first | (go_simp; done) | (go_simp; rfl)); (case hp => exact (Reps.c5 (show Kd.M k24 _ _ _ (⟨a, b, c, s, m⟩ : S24) [.int .u64 a, .int .u64 b, .int .u64 c, .string s, .string m] from (k24_mkM _ _ _ (⟨a, b, c, s, m⟩ : S24) )) (Reps.c5 (show Kd.M k24 _ _ _ (⟨a', b', c', s', m'⟩ : S24) [.int .u64 a', .int .u64 b', .int .u64 c', .string s', .string m'] from (k24_mkM _ _ _ (⟨a', b', c', s', m'⟩ : S24) )) (Reps.none _ _)))); intro v193 w4 ho hb hg_ hnew_; clear hg_ hnew_; (first | rw [← Ny] at ho | (simp only [Int.reduceToNat] at ho; rw [← Ny] at ho)); have HO := Aside0.mk ho; clear ho; replace HT := Aside0.mk (Tw.on (by (with_reducible repeat (first | exact HT.out | apply Tw.drew | apply Tw.drewN | apply Tw.alloc))) hb); clear hb; clear f0 g0 e0 d0 f1 g1 e1 d1 f2 g2 e2 d2 f3 g3 e3 d3 f4 g4 e4 d4; have f0 := (blk_cell HT.out.k 0).trans (show _ = some (.int .u64 a) from rfl); have g0 := (blk_cell HT.out.l 0).trans (show _ = some (.int .u64 a') from rfl); have e0 := blk_frozen HT.out.k 0; have d0 := blk_frozen HT.out.l 0; have f1 := (blk_cell HT.out.k 1).trans (show _ = some (.int .u64 b) from rfl); have g1 := (blk_cell HT.out.l 1).trans (show _ = some (.int .u64 b') from rfl); have e1 := blk_frozen HT.out.k 1; have d1 := blk_frozen HT.out.l 1; have f2 := (blk_cell HT.out.k 2).trans (show _ = some (.int .u64 c) from rfl); have g2 := (blk_cell HT.out.l 2).trans (show _ = some (.int .u64 c') from rfl); have e2 := blk_frozen HT.out.k 2; have d2 := blk_frozen HT.out.l 2; have f3 := (blk_cell HT.out.k 3).trans (show _ = some (.string s) from rfl); have g3 := (blk_cell HT.out.l 3).trans (show _ = some (.string s') from rfl); have e3 := blk_frozen HT.out.k 3; have d3 := blk_frozen HT.out.l 3; have f4 := (blk_cell HT.out.k 4).trans (show _ = some (.string m) from rfl); have g4 := (blk_cell HT.out.l 4).trans (show _ = some (.string m') from rfl); have e4 := blk_frozen HT.out.k 4; have d4 := blk_frozen HT.out.l 4; obtain ⟨Ao, co, eo⟩ := Kd.R_slice HO.out; subst eo) | ((with_reducible refine only_callee (f := 18) rfl ?_); refine goesL_ (some 16) rfl rfl Tryd.func18 (by kernel_rfl) rfl #[.slice Ao yy.length co] rfl (by (try simp only [List.map_toArray, List.map_cons, List.map_nil]); first | done | rfl | (simp only [List.length_drop, List.length_take]; rfl)) ?_; (with_reducible refine (laws_svGood.calls n _ _ yy true _ ?side1 ?side2 h3).mono ?_); (case side1 => repeat (first | exact (Kd.R_reads' HO.out).2.2 | (with_reducible refine Kd.C_alloc ?_ _) | (with_reducible refine Kd.C_drewN ?_ _) | (with_reducible refine Kd.C_drew ?_))); (case side2 => exact (Kd.R_reads' HO.out).2.1); rintro e w5 ⟨rfl, hb⟩; refine ⟨_, rfl, ?_⟩; replace HT := Aside0.mk (Tw.on (by (with_reducible repeat (first | exact HT.out | apply Tw.drew | apply Tw.drewN | apply Tw.alloc))) hb); clear hb; clear f0 g0 e0 d0 f1 g1 e1 d1 f2 g2 e2 d2 f3 g3 e3 d3 f4 g4 e4 d4; have f0 := (blk_cell HT.out.k 0).trans (show _ = some (.int .u64 a) from rfl); have g0 := (blk_cell HT.out.l 0).trans (show _ = some (.int .u64 a') from rfl); have e0 := blk_frozen HT.out.k 0; have d0 := blk_frozen HT.out.l 0; have f1 := (blk_cell HT.out.k 1).trans (show _ = some (.int .u64 b) from rfl); have g1 := (blk_cell HT.out.l 1).trans (show _ = some (.int .u64 b') from rfl); have e1 := blk_frozen HT.out.k 1; have d1 := blk_frozen HT.out.l 1; have f2 := (blk_cell HT.out.k 2).trans (show _ = some (.int .u64 c) from rfl); have g2 := (blk_cell HT.out.l 2).trans (show _ = some (.int .u64 c') from rfl); have e2 := blk_frozen HT.out.k 2; have d2 := blk_frozen HT.out.l 2; have f3 := (blk_cell HT.out.k 3).trans (show _ = some (.string s) from rfl); have g3 := (blk_cell HT.out.l 3).trans (show _ = some (.string s') from rfl); have e3 := blk_frozen HT.out.k 3; have d3 := blk_frozen HT.out.l 3; have f4 := (blk_cell HT.out.k 4).trans (show _ = some (.string m) from rfl); have g4 := (blk_cell HT.out.l 4).trans (show _ = some (.string m') from rfl); have e4 := blk_frozen HT.out.k 4; have d4 := blk_frozen HT.out.l 4))
      go_meet
      exact ⟨rfl, Aside0.mk (by (with_reducible repeat (first | exact HT.out | apply Tw.drew | apply Tw.drewN | apply Tw.alloc)))⟩
    case rest =>
      obtain ⟨rfl, HT1⟩ := hcut
      clear HT f0 g0 e0 d0 f1 g1 e1 d1 f2 g2 e2 d2 f3 g3 e3 d3 f4 g4 e4 d4
      have HT := HT1
      clear HT1
      go_upto_region 5 with fail
      refine start_ (n := 54) (S := fun w' => TwC w a b c s m a' b' c' s' m' w') (ds := []) #[false, false, false, false, false, false, false, false, false, false, false, false, false, false, false, false, false, false, false, false, false, false, false, false, false, false, false, false, false, false, false, false, false, false, false, false, false, false, false, false, false, false, false, false, false, false, false, false, false, false, false, false, false, false] (by kernel_rfl) rfl rfl (tw_held (HT.out.on (drew_below _))) (fun hHeld => ?_)
      refine take_ (i := 0) (N := some 18) (v := ?_) (a' := ?_) #[true, false, false, false, false, false, false, false, false, false, false, false, false, false, false, false, false, false, false, false, false, false, false, false, false, false, false, false, false, false, false, false, false, false, false, false, false, false, false, false, false, false, false, false, false, false, false, false, false, false, false, false, false, false] rfl rfl (by kernel_rfl) (fun _ _ _ h => h) (Or.inl ⟨by rfl, ?_⟩) hHeld ?_ ?_
      rotate_left
      · rintro w' ⟨s0, s1, s2, s3, s4, s5, s6, s7, s8, s9, s10⟩
        go_simp
        with_reducible rfl
      rotate_left
      · simp only [Act.put, List.setIfInBounds_toArray, List.set_cons_zero, List.set_cons_succ, i64_w, i32_w]
        rfl
      refine take_ (i := 1) (N := some 19) (v := ?_) (a' := ?_) #[true, true, false, false, false, false, false, false, false, false, false, false, false, false, false, false, false, false, false, false, false, false, false, false, false, false, false, false, false, false, false, false, false, false, false, false, false, false, false, false, false, false, false, false, false, false, false, false, false, false, false, false, false, false] rfl rfl (by kernel_rfl) (fun _ _ _ h => h) (Or.inl ⟨by rfl, ?_⟩) hHeld ?_ ?_
      rotate_left
      · rintro w' ⟨s0, s1, s2, s3, s4, s5, s6, s7, s8, s9, s10⟩
        go_simp
        with_reducible rfl
      rotate_left
      · simp only [Act.put, List.setIfInBounds_toArray, List.set_cons_zero, List.set_cons_succ, i64_w, i32_w]
        rfl
      refine take_ (i := 3) (N := some 21) (v := ?_) (a' := ?_) #[true, true, false, true, false, false, false, false, false, false, false, false, false, false, false, false, false, false, false, false, false, false, false, false, false, false, false, false, false, false, false, false, false, false, false, false, false, false, false, false, false, false, false, false, false, false, false, false, false, false, false, false, false, false] rfl rfl (by kernel_rfl) (fun _ _ _ h => h) (Or.inl ⟨by rfl, ?_⟩) hHeld ?_ ?_
      rotate_left
      · rintro w' ⟨s0, s1, s2, s3, s4, s5, s6, s7, s8, s9, s10⟩
        go_simp
        with_reducible rfl
      rotate_left
      · simp only [Act.put, List.setIfInBounds_toArray, List.set_cons_zero, List.set_cons_succ, i64_w, i32_w]
        rfl
      refine take_ (i := 4) (N := some 22) (v := ?_) (a' := ?_) #[true, true, false, true, true, false, false, false, false, false, false, false, false, false, false, false, false, false, false, false, false, false, false, false, false, false, false, false, false, false, false, false, false, false, false, false, false, false, false, false, false, false, false, false, false, false, false, false, false, false, false, false, false, false] rfl rfl (by kernel_rfl) (fun _ _ _ h => h) (Or.inl ⟨by rfl, ?_⟩) hHeld ?_ ?_
      rotate_left
      · rintro w' ⟨s0, s1, s2, s3, s4, s5, s6, s7, s8, s9, s10⟩
        go_simp
        with_reducible rfl
      rotate_left
      · simp only [Act.put, List.setIfInBounds_toArray, List.set_cons_zero, List.set_cons_succ, i64_w, i32_w]
        rfl
      refine one_ (i := 2) (N := some 20) #[true, true, true, true, true, false, false, false, false, false, false, false, false, false, false, false, false, false, false, false, false, false, false, false, false, false, false, false, false, false, false, false, false, false, false, false, false, false, false, false, false, false, false, false, false, false, false, false, false, false, false, false, false, false] rfl rfl (by kernel_rfl) (by decide) (fun K hK => ?_)
      refine goes_ Tryd.func51 (by kernel_rfl) rfl #[.int .i64 0, .agg #[.int .u64 a', .int .u64 b', .int .u64 c', .string s', .string m'], .int .i64 3, .agg #[.int .u64 a, .int .u64 b, .int .u64 c, .string s, .string m]] (by rfl) rfl rfl (by simp only [List.map_toArray, List.map_cons, List.map_nil]; rfl) ?_
      with_reducible refine (laws_stHolds.calls n 0 a' b' c' s' m' 3 a b c s m false _ (globE_below HG.out (Tw.bel (tw_last hHeld))) q0).mono ?_
      rintro e w3 ⟨rfl, hb⟩
      refine ⟨_, rfl, ?_⟩
      refine hK.out _ _ (tw_next hb hHeld) (fun hHeld => ?_)
      clear hK K
      refine norm_ (a' := ?_) ?_ ?_
      rotate_left
      · show Act.put _ (some 20) _ = _
        simp only [Act.put, List.setIfInBounds_toArray, List.set_cons_zero, List.set_cons_succ, i64_w, i32_w]
        rfl
      refine one_ (i := 5) (N := some 23) #[true, true, true, true, true, true, false, false, false, false, false, false, false, false, false, false, false, false, false, false, false, false, false, false, false, false, false, false, false, false, false, false, false, false, false, false, false, false, false, false, false, false, false, false, false, false, false, false, false, false, false, false, false, false] rfl rfl (by kernel_rfl) (by decide) (fun K hK => ?_)
      refine goes_ Tryd.func28 (by kernel_rfl) rfl #[.agg #[.int .u64 a, .int .u64 b, .int .u64 c, .string s, .string m], .agg #[.int .u64 a', .int .u64 b', .int .u64 c', .string s', .string m']] (by rfl) rfl rfl (by simp only [List.map_toArray, List.map_cons, List.map_nil]; rfl) ?_
      with_reducible refine (impl_VersionEqual.calls n a b c s m a' b' c' s' m' false _ (globE_below HG.out (Tw.bel (tw_last hHeld))) q1).mono ?_
      rintro e w3 ⟨rfl, hb⟩
      refine ⟨_, rfl, ?_⟩
      refine hK.out _ _ (tw_next hb hHeld) (fun hHeld => ?_)
      clear hK K
      refine norm_ (a' := ?_) ?_ ?_
      rotate_left
      · show Act.put _ (some 23) _ = _
        simp only [Act.put, List.setIfInBounds_toArray, List.set_cons_zero, List.set_cons_succ, i64_w, i32_w]
        rfl
      refine pure_ (i := 6) (N := some 24) (v := ?_) (a' := ?_) #[true, true, true, true, true, true, true, false, false, false, false, false, false, false, false, false, false, false, false, false, false, false, false, false, false, false, false, false, false, false, false, false, false, false, false, false, false, false, false, false, false, false, false, false, false, false, false, false, false, false, false, false, false, false] rfl rfl (by kernel_rfl) (fun _ _ _ h => h) (Or.inl ⟨by rfl, ?_⟩) ?_ ?_
      rotate_left
      · intro w'
        go_simp
        with_reducible rfl
      rotate_left
      · simp only [Act.put, List.setIfInBounds_toArray, List.set_cons_zero, List.set_cons_succ, i64_w, i32_w]
        rfl
      refine pure_ (i := 7) (N := some 25) (v := ?_) (a' := ?_) #[true, true, true, true, true, true, true, true, false, false, false, false, false, false, false, false, false, false, false, false, false, false, false, false, false, false, false, false, false, false, false, false, false, false, false, false, false, false, false, false, false, false, false, false, false, false, false, false, false, false, false, false, false, false] rfl rfl (by kernel_rfl) (fun _ _ _ h => h) (Or.inl ⟨by rfl, ?_⟩) ?_ ?_
      rotate_left
      · intro w'
        go_simp
        with_reducible rfl
      rotate_left
      · simp only [Act.put, List.setIfInBounds_toArray, List.set_cons_zero, List.set_cons_succ, i64_w, i32_w]
        rfl
      refine take_ (i := 8) (N := some 26) (v := ?_) (a' := ?_) #[true, true, true, true, true, true, true, true, true, false, false, false, false, false, false, false, false, false, false, false, false, false, false, false, false, false, false, false, false, false, false, false, false, false, false, false, false, false, false, false, false, false, false, false, false, false, false, false, false, false, false, false, false, false] rfl rfl (by kernel_rfl) (fun _ _ _ h => h) (Or.inl ⟨by rfl, ?_⟩) hHeld ?_ ?_
      rotate_left
      · rintro w' ⟨s0, s1, s2, s3, s4, s5, s6, s7, s8, s9, s10⟩
        go_simp
        with_reducible rfl
      rotate_left
      · simp only [Act.put, List.setIfInBounds_toArray, List.set_cons_zero, List.set_cons_succ, i64_w, i32_w]
        rfl
      refine take_ (i := 9) (N := some 27) (v := ?_) (a' := ?_) #[true, true, true, true, true, true, true, true, true, true, false, false, false, false, false, false, false, false, false, false, false, false, false, false, false, false, false, false, false, false, false, false, false, false, false, false, false, false, false, false, false, false, false, false, false, false, false, false, false, false, false, false, false, false] rfl rfl (by kernel_rfl) (fun _ _ _ h => h) (Or.inl ⟨by rfl, ?_⟩) hHeld ?_ ?_
      rotate_left
      · rintro w' ⟨s0, s1, s2, s3, s4, s5, s6, s7, s8, s9, s10⟩
        go_simp
        with_reducible rfl
      rotate_left
      · simp only [Act.put, List.setIfInBounds_toArray, List.set_cons_zero, List.set_cons_succ, i64_w, i32_w]
        rfl
      refine take_ (i := 11) (N := some 29) (v := ?_) (a' := ?_) #[true, true, true, true, true, true, true, true, true, true, false, true, false, false, false, false, false, false, false, false, false, false, false, false, false, false, false, false, false, false, false, false, false, false, false, false, false, false, false, false, false, false, false, false, false, false, false, false, false, false, false, false, false, false] rfl rfl (by kernel_rfl) (fun _ _ _ h => h) (Or.inl ⟨by rfl, ?_⟩) hHeld ?_ ?_
      rotate_left
      · rintro w' ⟨s0, s1, s2, s3, s4, s5, s6, s7, s8, s9, s10⟩
        go_simp
        with_reducible rfl
      rotate_left
      · simp only [Act.put, List.setIfInBounds_toArray, List.set_cons_zero, List.set_cons_succ, i64_w, i32_w]
        rfl
      refine take_ (i := 12) (N := some 30) (v := ?_) (a' := ?_) #[true, true, true, true, true, true, true, true, true, true, false, true, true, false, false, false, false, false, false, false, false, false, false, false, false, false, false, false, false, false, false, false, false, false, false, false, false, false, false, false, false, false, false, false, false, false, false, false, false, false, false, false, false, false] rfl rfl (by kernel_rfl) (fun _ _ _ h => h) (Or.inl ⟨by rfl, ?_⟩) hHeld ?_ ?_
      rotate_left
      · rintro w' ⟨s0, s1, s2, s3, s4, s5, s6, s7, s8, s9, s10⟩
        go_simp
        with_reducible rfl
      rotate_left
      · simp only [Act.put, List.setIfInBounds_toArray, List.set_cons_zero, List.set_cons_succ, i64_w, i32_w]
        rfl
      refine one_ (i := 10) (N := some 28) #[true, true, true, true, true, true, true, true, true, true, true, true, true, false, false, false, false, false, false, false, false, false, false, false, false, false, false, false, false, false, false, false, false, false, false, false, false, false, false, false, false, false, false, false, false, false, false, false, false, false, false, false, false, false] rfl rfl (by kernel_rfl) (by decide) (fun K hK => ?_)
      refine goes_ Tryd.func51 (by kernel_rfl) rfl #[.int .i64 1, .agg #[.int .u64 a', .int .u64 b', .int .u64 c', .string s', .string m'], .int .i64 3, .agg #[.int .u64 a, .int .u64 b, .int .u64 c, .string s, .string m]] (by rfl) rfl rfl (by simp only [List.map_toArray, List.map_cons, List.map_nil]; rfl) ?_
      with_reducible refine (laws_stHolds.calls n 1 a' b' c' s' m' 3 a b c s m true _ (globE_below HG.out (Tw.bel (tw_last hHeld))) q2).mono ?_
      rintro e w3 ⟨rfl, hb⟩
      refine ⟨_, rfl, ?_⟩
      refine hK.out _ _ (tw_next hb hHeld) (fun hHeld => ?_)
      clear hK K
      refine norm_ (a' := ?_) ?_ ?_
      rotate_left
      · show Act.put _ (some 28) _ = _
        simp only [Act.put, List.setIfInBounds_toArray, List.set_cons_zero, List.set_cons_succ, i64_w, i32_w]
        rfl
      refine one_ (i := 13) (N := some 31) #[true, true, true, true, true, true, true, true, true, true, true, true, true, true, false, false, false, false, false, false, false, false, false, false, false, false, false, false, false, false, false, false, false, false, false, false, false, false, false, false, false, false, false, false, false, false, false, false, false, false, false, false, false, false] rfl rfl (by kernel_rfl) (by decide) (fun K hK => ?_)
      refine goes_ Tryd.func28 (by kernel_rfl) rfl #[.agg #[.int .u64 a, .int .u64 b, .int .u64 c, .string s, .string m], .agg #[.int .u64 a', .int .u64 b', .int .u64 c', .string s', .string m']] (by rfl) rfl rfl (by simp only [List.map_toArray, List.map_cons, List.map_nil]; rfl) ?_
      with_reducible refine (impl_VersionEqual.calls n a b c s m a' b' c' s' m' false _ (globE_below HG.out (Tw.bel (tw_last hHeld))) q3).mono ?_
      rintro e w3 ⟨rfl, hb⟩
      refine ⟨_, rfl, ?_⟩
      refine hK.out _ _ (tw_next hb hHeld) (fun hHeld => ?_)
      clear hK K
      refine norm_ (a' := ?_) ?_ ?_
      rotate_left
      · show Act.put _ (some 31) _ = _
        simp only [Act.put, List.setIfInBounds_toArray, List.set_cons_zero, List.set_cons_succ, i64_w, i32_w]
        rfl
      refine pure_ (i := 14) (N := some 32) (v := ?_) (a' := ?_) #[true, true, true, true, true, true, true, true, true, true, true, true, true, true, true, false, false, false, false, false, false, false, false, false, false, false, false, false, false, false, false, false, false, false, false, false, false, false, false, false, false, false, false, false, false, false, false, false, false, false, false, false, false, false] rfl rfl (by kernel_rfl) (fun _ _ _ h => h) (Or.inl ⟨by rfl, ?_⟩) ?_ ?_
      rotate_left
      · intro w'
        go_simp
        with_reducible rfl
      rotate_left
      · simp only [Act.put, List.setIfInBounds_toArray, List.set_cons_zero, List.set_cons_succ, i64_w, i32_w]
        rfl
      refine pure_ (i := 15) (N := some 33) (v := ?_) (a' := ?_) #[true, true, true, true, true, true, true, true, true, true, true, true, true, true, true, true, false, false, false, false, false, false, false, false, false, false, false, false, false, false, false, false, false, false, false, false, false, false, false, false, false, false, false, false, false, false, false, false, false, false, false, false, false, false] rfl rfl (by kernel_rfl) (fun _ _ _ h => h) (Or.inl ⟨by rfl, ?_⟩) ?_ ?_
      rotate_left
      · intro w'
        go_simp
        with_reducible rfl
      rotate_left
      · simp only [Act.put, List.setIfInBounds_toArray, List.set_cons_zero, List.set_cons_succ, i64_w, i32_w]
        rfl
      refine pure_ (i := 16) (N := some 34) (v := ?_) (a' := ?_) #[true, true, true, true, true, true, true, true, true, true, true, true, true, true, true, true, true, false, false, false, false, false, false, false, false, false, false, false, false, false, false, false, false, false, false, false, false, false, false, false, false, false, false, false, false, false, false, false, false, false, false, false, false, false] rfl rfl (by kernel_rfl) (fun _ _ _ h => h) (Or.inl ⟨by rfl, ?_⟩) ?_ ?_
      rotate_left
      · intro w'
        go_simp
        with_reducible rfl
      rotate_left
      · simp only [Act.put, List.setIfInBounds_toArray, List.set_cons_zero, List.set_cons_succ, i64_w, i32_w]
        rfl
      refine pure_ (i := 17) (N := some 35) (v := ?_) (a' := ?_) #[true, true, true, true, true, true, true, true, true, true, true, true, true, true, true, true, true, true, false, false, false, false, false, false, false, false, false, false, false, false, false, false, false, false, false, false, false, false, false, false, false, false, false, false, false, false, false, false, false, false, false, false, false, false] rfl rfl (by kernel_rfl) (fun _ _ _ h => h) (Or.inl ⟨by rfl, ?_⟩) ?_ ?_
      rotate_left
      · intro w'
        go_simp
        with_reducible rfl
      rotate_left
      · simp only [Act.put, List.setIfInBounds_toArray, List.set_cons_zero, List.set_cons_succ, i64_w, i32_w]
        rfl
      refine take_ (i := 18) (N := some 36) (v := ?_) (a' := ?_) #[true, true, true, true, true, true, true, true, true, true, true, true, true, true, true, true, true, true, true, false, false, false, false, false, false, false, false, false, false, false, false, false, false, false, false, false, false, false, false, false, false, false, false, false, false, false, false, false, false, false, false, false, false, false] rfl rfl (by kernel_rfl) (fun _ _ _ h => h) (Or.inl ⟨by rfl, ?_⟩) hHeld ?_ ?_
      rotate_left
      · rintro w' ⟨s0, s1, s2, s3, s4, s5, s6, s7, s8, s9, s10⟩
        go_simp
        with_reducible rfl
      rotate_left
      · simp only [Act.put, List.setIfInBounds_toArray, List.set_cons_zero, List.set_cons_succ, i64_w, i32_w]
        rfl
      refine take_ (i := 19) (N := some 37) (v := ?_) (a' := ?_) #[true, true, true, true, true, true, true, true, true, true, true, true, true, true, true, true, true, true, true, true, false, false, false, false, false, false, false, false, false, false, false, false, false, false, false, false, false, false, false, false, false, false, false, false, false, false, false, false, false, false, false, false, false, false] rfl rfl (by kernel_rfl) (fun _ _ _ h => h) (Or.inl ⟨by rfl, ?_⟩) hHeld ?_ ?_
      rotate_left
      · rintro w' ⟨s0, s1, s2, s3, s4, s5, s6, s7, s8, s9, s10⟩
        go_simp
        with_reducible rfl
      rotate_left
      · simp only [Act.put, List.setIfInBounds_toArray, List.set_cons_zero, List.set_cons_succ, i64_w, i32_w]
        rfl
      refine take_ (i := 21) (N := some 39) (v := ?_) (a' := ?_) #[true, true, true, true, true, true, true, true, true, true, true, true, true, true, true, true, true, true, true, true, false, true, false, false, false, false, false, false, false, false, false, false, false, false, false, false, false, false, false, false, false, false, false, false, false, false, false, false, false, false, false, false, false, false] rfl rfl (by kernel_rfl) (fun _ _ _ h => h) (Or.inl ⟨by rfl, ?_⟩) hHeld ?_ ?_
      rotate_left
      · rintro w' ⟨s0, s1, s2, s3, s4, s5, s6, s7, s8, s9, s10⟩
        go_simp
        with_reducible rfl
      rotate_left
      · simp only [Act.put, List.setIfInBounds_toArray, List.set_cons_zero, List.set_cons_succ, i64_w, i32_w]
        rfl
      refine take_ (i := 22) (N := some 40) (v := ?_) (a' := ?_) #[true, true, true, true, true, true, true, true, true, true, true, true, true, true, true, true, true, true, true, true, false, true, true, false, false, false, false, false, false, false, false, false, false, false, false, false, false, false, false, false, false, false, false, false, false, false, false, false, false, false, false, false, false, false] rfl rfl (by kernel_rfl) (fun _ _ _ h => h) (Or.inl ⟨by rfl, ?_⟩) hHeld ?_ ?_
      rotate_left
      · rintro w' ⟨s0, s1, s2, s3, s4, s5, s6, s7, s8, s9, s10⟩
        go_simp
        with_reducible rfl
      rotate_left
      · simp only [Act.put, List.setIfInBounds_toArray, List.set_cons_zero, List.set_cons_succ, i64_w, i32_w]
        rfl
      refine one_ (i := 20) (N := some 38) #[true, true, true, true, true, true, true, true, true, true, true, true, true, true, true, true, true, true, true, true, true, true, true, false, false, false, false, false, false, false, false, false, false, false, false, false, false, false, false, false, false, false, false, false, false, false, false, false, false, false, false, false, false, false] rfl rfl (by kernel_rfl) (by decide) (fun K hK => ?_)
      refine goes_ Tryd.func51 (by kernel_rfl) rfl #[.int .i64 2, .agg #[.int .u64 a', .int .u64 b', .int .u64 c', .string s', .string m'], .int .i64 3, .agg #[.int .u64 a, .int .u64 b, .int .u64 c, .string s, .string m]] (by rfl) rfl rfl (by simp only [List.map_toArray, List.map_cons, List.map_nil]; rfl) ?_
      with_reducible refine (laws_stHolds.calls n 2 a' b' c' s' m' 3 a b c s m true _ (globE_below HG.out (Tw.bel (tw_last hHeld))) q4).mono ?_
      rintro e w3 ⟨rfl, hb⟩
      refine ⟨_, rfl, ?_⟩
      refine hK.out _ _ (tw_next hb hHeld) (fun hHeld => ?_)
      clear hK K
      refine norm_ (a' := ?_) ?_ ?_
      rotate_left
      · show Act.put _ (some 38) _ = _
        simp only [Act.put, List.setIfInBounds_toArray, List.set_cons_zero, List.set_cons_succ, i64_w, i32_w]
        rfl
      refine one_ (i := 23) (N := some 41) #[true, true, true, true, true, true, true, true, true, true, true, true, true, true, true, true, true, true, true, true, true, true, true, true, false, false, false, false, false, false, false, false, false, false, false, false, false, false, false, false, false, false, false, false, false, false, false, false, false, false, false, false, false, false] rfl rfl (by kernel_rfl) (by decide) (fun K hK => ?_)
      refine goes_ Tryd.func31 (by kernel_rfl) rfl #[.agg #[.int .u64 a, .int .u64 b, .int .u64 c, .string s, .string m], .agg #[.int .u64 a', .int .u64 b', .int .u64 c', .string s', .string m']] (by rfl) rfl rfl (by simp only [List.map_toArray, List.map_cons, List.map_nil]; rfl) ?_
      with_reducible refine (impl_VersionGreater.calls n a b c s m a' b' c' s' m' true _ (globE_below HG.out (Tw.bel (tw_last hHeld))) q5).mono ?_
      rintro e w3 ⟨rfl, hb⟩
      refine ⟨_, rfl, ?_⟩
      refine hK.out _ _ (tw_next hb hHeld) (fun hHeld => ?_)
      clear hK K
      refine norm_ (a' := ?_) ?_ ?_
      rotate_left
      · show Act.put _ (some 41) _ = _
        simp only [Act.put, List.setIfInBounds_toArray, List.set_cons_zero, List.set_cons_succ, i64_w, i32_w]
        rfl
      refine pure_ (i := 24) (N := some 42) (v := ?_) (a' := ?_) #[true, true, true, true, true, true, true, true, true, true, true, true, true, true, true, true, true, true, true, true, true, true, true, true, true, false, false, false, false, false, false, false, false, false, false, false, false, false, false, false, false, false, false, false, false, false, false, false, false, false, false, false, false, false] rfl rfl (by kernel_rfl) (fun _ _ _ h => h) (Or.inl ⟨by rfl, ?_⟩) ?_ ?_
      rotate_left
      · intro w'
        go_simp
        with_reducible rfl
      rotate_left
      · simp only [Act.put, List.setIfInBounds_toArray, List.set_cons_zero, List.set_cons_succ, i64_w, i32_w]
        rfl
      refine pure_ (i := 25) (N := some 43) (v := ?_) (a' := ?_) #[true, true, true, true, true, true, true, true, true, true, true, true, true, true, true, true, true, true, true, true, true, true, true, true, true, true, false, false, false, false, false, false, false, false, false, false, false, false, false, false, false, false, false, false, false, false, false, false, false, false, false, false, false, false] rfl rfl (by kernel_rfl) (fun _ _ _ h => h) (Or.inl ⟨by rfl, ?_⟩) ?_ ?_
      rotate_left
      · intro w'
        go_simp
        with_reducible rfl
      rotate_left
      · simp only [Act.put, List.setIfInBounds_toArray, List.set_cons_zero, List.set_cons_succ, i64_w, i32_w]
        rfl
      refine pure_ (i := 26) (N := some 44) (v := ?_) (a' := ?_) #[true, true, true, true, true, true, true, true, true, true, true, true, true, true, true, true, true, true, true, true, true, true, true, true, true, true, true, false, false, false, false, false, false, false, false, false, false, false, false, false, false, false, false, false, false, false, false, false, false, false, false, false, false, false] rfl rfl (by kernel_rfl) (fun _ _ _ h => h) (Or.inl ⟨by rfl, ?_⟩) ?_ ?_
      rotate_left
      · intro w'
        go_simp
        with_reducible rfl
      rotate_left
      · simp only [Act.put, List.setIfInBounds_toArray, List.set_cons_zero, List.set_cons_succ, i64_w, i32_w]
        rfl
      refine take_ (i := 27) (N := some 45) (v := ?_) (a' := ?_) #[true, true, true, true, true, true, true, true, true, true, true, true, true, true, true, true, true, true, true, true, true, true, true, true, true, true, true, true, false, false, false, false, false, false, false, false, false, false, false, false, false, false, false, false, false, false, false, false, false, false, false, false, false, false] rfl rfl (by kernel_rfl) (fun _ _ _ h => h) (Or.inl ⟨by rfl, ?_⟩) hHeld ?_ ?_
      rotate_left
      · rintro w' ⟨s0, s1, s2, s3, s4, s5, s6, s7, s8, s9, s10⟩
        go_simp
        with_reducible rfl
      rotate_left
      · simp only [Act.put, List.setIfInBounds_toArray, List.set_cons_zero, List.set_cons_succ, i64_w, i32_w]
        rfl
      refine take_ (i := 28) (N := some 46) (v := ?_) (a' := ?_) #[true, true, true, true, true, true, true, true, true, true, true, true, true, true, true, true, true, true, true, true, true, true, true, true, true, true, true, true, true, false, false, false, false, false, false, false, false, false, false, false, false, false, false, false, false, false, false, false, false, false, false, false, false, false] rfl rfl (by kernel_rfl) (fun _ _ _ h => h) (Or.inl ⟨by rfl, ?_⟩) hHeld ?_ ?_
      rotate_left
      · rintro w' ⟨s0, s1, s2, s3, s4, s5, s6, s7, s8, s9, s10⟩
        go_simp
        with_reducible rfl
      rotate_left
      · simp only [Act.put, List.setIfInBounds_toArray, List.set_cons_zero, List.set_cons_succ, i64_w, i32_w]
        rfl
      refine take_ (i := 30) (N := some 48) (v := ?_) (a' := ?_) #[true, true, true, true, true, true, true, true, true, true, true, true, true, true, true, true, true, true, true, true, true, true, true, true, true, true, true, true, true, false, true, false, false, false, false, false, false, false, false, false, false, false, false, false, false, false, false, false, false, false, false, false, false, false] rfl rfl (by kernel_rfl) (fun _ _ _ h => h) (Or.inl ⟨by rfl, ?_⟩) hHeld ?_ ?_
      rotate_left
      · rintro w' ⟨s0, s1, s2, s3, s4, s5, s6, s7, s8, s9, s10⟩
        go_simp
        with_reducible rfl
      rotate_left
      · simp only [Act.put, List.setIfInBounds_toArray, List.set_cons_zero, List.set_cons_succ, i64_w, i32_w]
        rfl
      refine take_ (i := 31) (N := some 49) (v := ?_) (a' := ?_) #[true, true, true, true, true, true, true, true, true, true, true, true, true, true, true, true, true, true, true, true, true, true, true, true, true, true, true, true, true, false, true, true, false, false, false, false, false, false, false, false, false, false, false, false, false, false, false, false, false, false, false, false, false, false] rfl rfl (by kernel_rfl) (fun _ _ _ h => h) (Or.inl ⟨by rfl, ?_⟩) hHeld ?_ ?_
      rotate_left
      · rintro w' ⟨s0, s1, s2, s3, s4, s5, s6, s7, s8, s9, s10⟩
        go_simp
        with_reducible rfl
      rotate_left
      · simp only [Act.put, List.setIfInBounds_toArray, List.set_cons_zero, List.set_cons_succ, i64_w, i32_w]
        rfl
      refine one_ (i := 29) (N := some 47) #[true, true, true, true, true, true, true, true, true, true, true, true, true, true, true, true, true, true, true, true, true, true, true, true, true, true, true, true, true, true, true, true, false, false, false, false, false, false, false, false, false, false, false, false, false, false, false, false, false, false, false, false, false, false] rfl rfl (by kernel_rfl) (by decide) (fun K hK => ?_)
      refine goes_ Tryd.func51 (by kernel_rfl) rfl #[.int .i64 3, .agg #[.int .u64 a', .int .u64 b', .int .u64 c', .string s', .string m'], .int .i64 3, .agg #[.int .u64 a, .int .u64 b, .int .u64 c, .string s, .string m]] (by rfl) rfl rfl (by simp only [List.map_toArray, List.map_cons, List.map_nil]; rfl) ?_
      with_reducible refine (laws_stHolds.calls n 3 a' b' c' s' m' 3 a b c s m false _ (globE_below HG.out (Tw.bel (tw_last hHeld))) q6).mono ?_
      rintro e w3 ⟨rfl, hb⟩
      refine ⟨_, rfl, ?_⟩
      refine hK.out _ _ (tw_next hb hHeld) (fun hHeld => ?_)
      clear hK K
      refine norm_ (a' := ?_) ?_ ?_
      rotate_left
      · show Act.put _ (some 47) _ = _
        simp only [Act.put, List.setIfInBounds_toArray, List.set_cons_zero, List.set_cons_succ, i64_w, i32_w]
        rfl
      refine one_ (i := 32) (N := some 50) #[true, true, true, true, true, true, true, true, true, true, true, true, true, true, true, true, true, true, true, true, true, true, true, true, true, true, true, true, true, true, true, true, true, false, false, false, false, false, false, false, false, false, false, false, false, false, false, false, false, false, false, false, false, false] rfl rfl (by kernel_rfl) (by decide) (fun K hK => ?_)
      refine goes_ Tryd.func29 (by kernel_rfl) rfl #[.agg #[.int .u64 a, .int .u64 b, .int .u64 c, .string s, .string m], .agg #[.int .u64 a', .int .u64 b', .int .u64 c', .string s', .string m']] (by rfl) rfl rfl (by simp only [List.map_toArray, List.map_cons, List.map_nil]; rfl) ?_
      with_reducible refine (impl_VersionLess.calls n a b c s m a' b' c' s' m' false _ (globE_below HG.out (Tw.bel (tw_last hHeld))) q7).mono ?_
      rintro e w3 ⟨rfl, hb⟩
      refine ⟨_, rfl, ?_⟩
      refine hK.out _ _ (tw_next hb hHeld) (fun hHeld => ?_)
      clear hK K
      refine norm_ (a' := ?_) ?_ ?_
      rotate_left
      · show Act.put _ (some 50) _ = _
        simp only [Act.put, List.setIfInBounds_toArray, List.set_cons_zero, List.set_cons_succ, i64_w, i32_w]
        rfl
      refine pure_ (i := 33) (N := some 51) (v := ?_) (a' := ?_) #[true, true, true, true, true, true, true, true, true, true, true, true, true, true, true, true, true, true, true, true, true, true, true, true, true, true, true, true, true, true, true, true, true, true, false, false, false, false, false, false, false, false, false, false, false, false, false, false, false, false, false, false, false, false] rfl rfl (by kernel_rfl) (fun _ _ _ h => h) (Or.inl ⟨by rfl, ?_⟩) ?_ ?_
      rotate_left
      · intro w'
        go_simp
        with_reducible rfl
      rotate_left
      · simp only [Act.put, List.setIfInBounds_toArray, List.set_cons_zero, List.set_cons_succ, i64_w, i32_w]
        rfl
      refine pure_ (i := 34) (N := some 52) (v := ?_) (a' := ?_) #[true, true, true, true, true, true, true, true, true, true, true, true, true, true, true, true, true, true, true, true, true, true, true, true, true, true, true, true, true, true, true, true, true, true, true, false, false, false, false, false, false, false, false, false, false, false, false, false, false, false, false, false, false, false] rfl rfl (by kernel_rfl) (fun _ _ _ h => h) (Or.inl ⟨by rfl, ?_⟩) ?_ ?_
      rotate_left
      · intro w'
        go_simp
        with_reducible rfl
      rotate_left
      · simp only [Act.put, List.setIfInBounds_toArray, List.set_cons_zero, List.set_cons_succ, i64_w, i32_w]
        rfl
      refine pure_ (i := 35) (N := some 53) (v := ?_) (a' := ?_) #[true, true, true, true, true, true, true, true, true, true, true, true, true, true, true, true, true, true, true, true, true, true, true, true, true, true, true, true, true, true, true, true, true, true, true, true, false, false, false, false, false, false, false, false, false, false, false, false, false, false, false, false, false, false] rfl rfl (by kernel_rfl) (fun _ _ _ h => h) (Or.inl ⟨by rfl, ?_⟩) ?_ ?_
      rotate_left
      · intro w'
        go_simp
        with_reducible rfl
      rotate_left
      · simp only [Act.put, List.setIfInBounds_toArray, List.set_cons_zero, List.set_cons_succ, i64_w, i32_w]
        rfl
      refine take_ (i := 36) (N := some 54) (v := ?_) (a' := ?_) #[true, true, true, true, true, true, true, true, true, true, true, true, true, true, true, true, true, true, true, true, true, true, true, true, true, true, true, true, true, true, true, true, true, true, true, true, true, false, false, false, false, false, false, false, false, false, false, false, false, false, false, false, false, false] rfl rfl (by kernel_rfl) (fun _ _ _ h => h) (Or.inl ⟨by rfl, ?_⟩) hHeld ?_ ?_
      rotate_left
      · rintro w' ⟨s0, s1, s2, s3, s4, s5, s6, s7, s8, s9, s10⟩
        go_simp
        with_reducible rfl
      rotate_left
      · simp only [Act.put, List.setIfInBounds_toArray, List.set_cons_zero, List.set_cons_succ, i64_w, i32_w]
        rfl
      refine take_ (i := 37) (N := some 55) (v := ?_) (a' := ?_) #[true, true, true, true, true, true, true, true, true, true, true, true, true, true, true, true, true, true, true, true, true, true, true, true, true, true, true, true, true, true, true, true, true, true, true, true, true, true, false, false, false, false, false, false, false, false, false, false, false, false, false, false, false, false] rfl rfl (by kernel_rfl) (fun _ _ _ h => h) (Or.inl ⟨by rfl, ?_⟩) hHeld ?_ ?_
      rotate_left
      · rintro w' ⟨s0, s1, s2, s3, s4, s5, s6, s7, s8, s9, s10⟩
        go_simp
        with_reducible rfl
      rotate_left
      · simp only [Act.put, List.setIfInBounds_toArray, List.set_cons_zero, List.set_cons_succ, i64_w, i32_w]
        rfl
      refine take_ (i := 39) (N := some 57) (v := ?_) (a' := ?_) #[true, true, true, true, true, true, true, true, true, true, true, true, true, true, true, true, true, true, true, true, true, true, true, true, true, true, true, true, true, true, true, true, true, true, true, true, true, true, false, true, false, false, false, false, false, false, false, false, false, false, false, false, false, false] rfl rfl (by kernel_rfl) (fun _ _ _ h => h) (Or.inl ⟨by rfl, ?_⟩) hHeld ?_ ?_
      rotate_left
      · rintro w' ⟨s0, s1, s2, s3, s4, s5, s6, s7, s8, s9, s10⟩
        go_simp
        with_reducible rfl
      rotate_left
      · simp only [Act.put, List.setIfInBounds_toArray, List.set_cons_zero, List.set_cons_succ, i64_w, i32_w]
        rfl
      refine take_ (i := 40) (N := some 58) (v := ?_) (a' := ?_) #[true, true, true, true, true, true, true, true, true, true, true, true, true, true, true, true, true, true, true, true, true, true, true, true, true, true, true, true, true, true, true, true, true, true, true, true, true, true, false, true, true, false, false, false, false, false, false, false, false, false, false, false, false, false] rfl rfl (by kernel_rfl) (fun _ _ _ h => h) (Or.inl ⟨by rfl, ?_⟩) hHeld ?_ ?_
      rotate_left
      · rintro w' ⟨s0, s1, s2, s3, s4, s5, s6, s7, s8, s9, s10⟩
        go_simp
        with_reducible rfl
      rotate_left
      · simp only [Act.put, List.setIfInBounds_toArray, List.set_cons_zero, List.set_cons_succ, i64_w, i32_w]
        rfl
      refine one_ (i := 38) (N := some 56) #[true, true, true, true, true, true, true, true, true, true, true, true, true, true, true, true, true, true, true, true, true, true, true, true, true, true, true, true, true, true, true, true, true, true, true, true, true, true, true, true, true, false, false, false, false, false, false, false, false, false, false, false, false, false] rfl rfl (by kernel_rfl) (by decide) (fun K hK => ?_)
      refine goes_ Tryd.func51 (by kernel_rfl) rfl #[.int .i64 4, .agg #[.int .u64 a', .int .u64 b', .int .u64 c', .string s', .string m'], .int .i64 3, .agg #[.int .u64 a, .int .u64 b, .int .u64 c, .string s, .string m]] (by rfl) rfl rfl (by simp only [List.map_toArray, List.map_cons, List.map_nil]; rfl) ?_
      with_reducible refine (laws_stHolds.calls n 4 a' b' c' s' m' 3 a b c s m true _ (globE_below HG.out (Tw.bel (tw_last hHeld))) q8).mono ?_
      rintro e w3 ⟨rfl, hb⟩
      refine ⟨_, rfl, ?_⟩
      refine hK.out _ _ (tw_next hb hHeld) (fun hHeld => ?_)
      clear hK K
      refine norm_ (a' := ?_) ?_ ?_
      rotate_left
      · show Act.put _ (some 56) _ = _
        simp only [Act.put, List.setIfInBounds_toArray, List.set_cons_zero, List.set_cons_succ, i64_w, i32_w]
        rfl
      refine one_ (i := 41) (N := some 59) #[true, true, true, true, true, true, true, true, true, true, true, true, true, true, true, true, true, true, true, true, true, true, true, true, true, true, true, true, true, true, true, true, true, true, true, true, true, true, true, true, true, true, false, false, false, false, false, false, false, false, false, false, false, false] rfl rfl (by kernel_rfl) (by decide) (fun K hK => ?_)
      refine goes_ Tryd.func32 (by kernel_rfl) rfl #[.agg #[.int .u64 a, .int .u64 b, .int .u64 c, .string s, .string m], .agg #[.int .u64 a', .int .u64 b', .int .u64 c', .string s', .string m']] (by rfl) rfl rfl (by simp only [List.map_toArray, List.map_cons, List.map_nil]; rfl) ?_
      with_reducible refine (impl_VersionGreaterEqual.calls n a b c s m a' b' c' s' m' true _ (globE_below HG.out (Tw.bel (tw_last hHeld))) q9).mono ?_
      rintro e w3 ⟨rfl, hb⟩
      refine ⟨_, rfl, ?_⟩
      refine hK.out _ _ (tw_next hb hHeld) (fun hHeld => ?_)
      clear hK K
      refine norm_ (a' := ?_) ?_ ?_
      rotate_left
      · show Act.put _ (some 59) _ = _
        simp only [Act.put, List.setIfInBounds_toArray, List.set_cons_zero, List.set_cons_succ, i64_w, i32_w]
        rfl
      refine pure_ (i := 42) (N := some 60) (v := ?_) (a' := ?_) #[true, true, true, true, true, true, true, true, true, true, true, true, true, true, true, true, true, true, true, true, true, true, true, true, true, true, true, true, true, true, true, true, true, true, true, true, true, true, true, true, true, true, true, false, false, false, false, false, false, false, false, false, false, false] rfl rfl (by kernel_rfl) (fun _ _ _ h => h) (Or.inl ⟨by rfl, ?_⟩) ?_ ?_
      rotate_left
      · intro w'
        go_simp
        with_reducible rfl
      rotate_left
      · simp only [Act.put, List.setIfInBounds_toArray, List.set_cons_zero, List.set_cons_succ, i64_w, i32_w]
        rfl
      refine pure_ (i := 43) (N := some 61) (v := ?_) (a' := ?_) #[true, true, true, true, true, true, true, true, true, true, true, true, true, true, true, true, true, true, true, true, true, true, true, true, true, true, true, true, true, true, true, true, true, true, true, true, true, true, true, true, true, true, true, true, false, false, false, false, false, false, false, false, false, false] rfl rfl (by kernel_rfl) (fun _ _ _ h => h) (Or.inl ⟨by rfl, ?_⟩) ?_ ?_
      rotate_left
      · intro w'
        go_simp
        with_reducible rfl
      rotate_left
      · simp only [Act.put, List.setIfInBounds_toArray, List.set_cons_zero, List.set_cons_succ, i64_w, i32_w]
        rfl
      refine pure_ (i := 44) (N := some 62) (v := ?_) (a' := ?_) #[true, true, true, true, true, true, true, true, true, true, true, true, true, true, true, true, true, true, true, true, true, true, true, true, true, true, true, true, true, true, true, true, true, true, true, true, true, true, true, true, true, true, true, true, true, false, false, false, false, false, false, false, false, false] rfl rfl (by kernel_rfl) (fun _ _ _ h => h) (Or.inl ⟨by rfl, ?_⟩) ?_ ?_
      rotate_left
      · intro w'
        go_simp
        with_reducible rfl
      rotate_left
      · simp only [Act.put, List.setIfInBounds_toArray, List.set_cons_zero, List.set_cons_succ, i64_w, i32_w]
        rfl
      refine take_ (i := 45) (N := some 63) (v := ?_) (a' := ?_) #[true, true, true, true, true, true, true, true, true, true, true, true, true, true, true, true, true, true, true, true, true, true, true, true, true, true, true, true, true, true, true, true, true, true, true, true, true, true, true, true, true, true, true, true, true, true, false, false, false, false, false, false, false, false] rfl rfl (by kernel_rfl) (fun _ _ _ h => h) (Or.inl ⟨by rfl, ?_⟩) hHeld ?_ ?_
      rotate_left
      · rintro w' ⟨s0, s1, s2, s3, s4, s5, s6, s7, s8, s9, s10⟩
        go_simp
        with_reducible rfl
      rotate_left
      · simp only [Act.put, List.setIfInBounds_toArray, List.set_cons_zero, List.set_cons_succ, i64_w, i32_w]
        rfl
      refine take_ (i := 46) (N := some 64) (v := ?_) (a' := ?_) #[true, true, true, true, true, true, true, true, true, true, true, true, true, true, true, true, true, true, true, true, true, true, true, true, true, true, true, true, true, true, true, true, true, true, true, true, true, true, true, true, true, true, true, true, true, true, true, false, false, false, false, false, false, false] rfl rfl (by kernel_rfl) (fun _ _ _ h => h) (Or.inl ⟨by rfl, ?_⟩) hHeld ?_ ?_
      rotate_left
      · rintro w' ⟨s0, s1, s2, s3, s4, s5, s6, s7, s8, s9, s10⟩
        go_simp
        with_reducible rfl
      rotate_left
      · simp only [Act.put, List.setIfInBounds_toArray, List.set_cons_zero, List.set_cons_succ, i64_w, i32_w]
        rfl
      refine take_ (i := 48) (N := some 66) (v := ?_) (a' := ?_) #[true, true, true, true, true, true, true, true, true, true, true, true, true, true, true, true, true, true, true, true, true, true, true, true, true, true, true, true, true, true, true, true, true, true, true, true, true, true, true, true, true, true, true, true, true, true, true, false, true, false, false, false, false, false] rfl rfl (by kernel_rfl) (fun _ _ _ h => h) (Or.inl ⟨by rfl, ?_⟩) hHeld ?_ ?_
      rotate_left
      · rintro w' ⟨s0, s1, s2, s3, s4, s5, s6, s7, s8, s9, s10⟩
        go_simp
        with_reducible rfl
      rotate_left
      · simp only [Act.put, List.setIfInBounds_toArray, List.set_cons_zero, List.set_cons_succ, i64_w, i32_w]
        rfl
      refine take_ (i := 49) (N := some 67) (v := ?_) (a' := ?_) #[true, true, true, true, true, true, true, true, true, true, true, true, true, true, true, true, true, true, true, true, true, true, true, true, true, true, true, true, true, true, true, true, true, true, true, true, true, true, true, true, true, true, true, true, true, true, true, false, true, true, false, false, false, false] rfl rfl (by kernel_rfl) (fun _ _ _ h => h) (Or.inl ⟨by rfl, ?_⟩) hHeld ?_ ?_
      rotate_left
      · rintro w' ⟨s0, s1, s2, s3, s4, s5, s6, s7, s8, s9, s10⟩
        go_simp
        with_reducible rfl
      rotate_left
      · simp only [Act.put, List.setIfInBounds_toArray, List.set_cons_zero, List.set_cons_succ, i64_w, i32_w]
        rfl
      refine one_ (i := 47) (N := some 65) #[true, true, true, true, true, true, true, true, true, true, true, true, true, true, true, true, true, true, true, true, true, true, true, true, true, true, true, true, true, true, true, true, true, true, true, true, true, true, true, true, true, true, true, true, true, true, true, true, true, true, false, false, false, false] rfl rfl (by kernel_rfl) (by decide) (fun K hK => ?_)
      refine goes_ Tryd.func51 (by kernel_rfl) rfl #[.int .i64 5, .agg #[.int .u64 a', .int .u64 b', .int .u64 c', .string s', .string m'], .int .i64 3, .agg #[.int .u64 a, .int .u64 b, .int .u64 c, .string s, .string m]] (by rfl) rfl rfl (by simp only [List.map_toArray, List.map_cons, List.map_nil]; rfl) ?_
      with_reducible refine (laws_stHolds.calls n 5 a' b' c' s' m' 3 a b c s m false _ (globE_below HG.out (Tw.bel (tw_last hHeld))) q10).mono ?_
      rintro e w3 ⟨rfl, hb⟩
      refine ⟨_, rfl, ?_⟩
      refine hK.out _ _ (tw_next hb hHeld) (fun hHeld => ?_)
      clear hK K
      refine norm_ (a' := ?_) ?_ ?_
      rotate_left
      · show Act.put _ (some 65) _ = _
        simp only [Act.put, List.setIfInBounds_toArray, List.set_cons_zero, List.set_cons_succ, i64_w, i32_w]
        rfl
      refine one_ (i := 50) (N := some 68) #[true, true, true, true, true, true, true, true, true, true, true, true, true, true, true, true, true, true, true, true, true, true, true, true, true, true, true, true, true, true, true, true, true, true, true, true, true, true, true, true, true, true, true, true, true, true, true, true, true, true, true, false, false, false] rfl rfl (by kernel_rfl) (by decide) (fun K hK => ?_)
      refine goes_ Tryd.func30 (by kernel_rfl) rfl #[.agg #[.int .u64 a, .int .u64 b, .int .u64 c, .string s, .string m], .agg #[.int .u64 a', .int .u64 b', .int .u64 c', .string s', .string m']] (by rfl) rfl rfl (by simp only [List.map_toArray, List.map_cons, List.map_nil]; rfl) ?_
      with_reducible refine (impl_VersionLessEqual.calls n a b c s m a' b' c' s' m' false _ (globE_below HG.out (Tw.bel (tw_last hHeld))) q11).mono ?_
      rintro e w3 ⟨rfl, hb⟩
      refine ⟨_, rfl, ?_⟩
      refine hK.out _ _ (tw_next hb hHeld) (fun hHeld => ?_)
      clear hK K
      refine norm_ (a' := ?_) ?_ ?_
      rotate_left
      · show Act.put _ (some 68) _ = _
        simp only [Act.put, List.setIfInBounds_toArray, List.set_cons_zero, List.set_cons_succ, i64_w, i32_w]
        rfl
      refine pure_ (i := 51) (N := some 69) (v := ?_) (a' := ?_) #[true, true, true, true, true, true, true, true, true, true, true, true, true, true, true, true, true, true, true, true, true, true, true, true, true, true, true, true, true, true, true, true, true, true, true, true, true, true, true, true, true, true, true, true, true, true, true, true, true, true, true, true, false, false] rfl rfl (by kernel_rfl) (fun _ _ _ h => h) (Or.inl ⟨by rfl, ?_⟩) ?_ ?_
      rotate_left
      · intro w'
        go_simp
        with_reducible rfl
      rotate_left
      · simp only [Act.put, List.setIfInBounds_toArray, List.set_cons_zero, List.set_cons_succ, i64_w, i32_w]
        rfl
      refine pure_ (i := 52) (N := some 70) (v := ?_) (a' := ?_) #[true, true, true, true, true, true, true, true, true, true, true, true, true, true, true, true, true, true, true, true, true, true, true, true, true, true, true, true, true, true, true, true, true, true, true, true, true, true, true, true, true, true, true, true, true, true, true, true, true, true, true, true, true, false] rfl rfl (by kernel_rfl) (fun _ _ _ h => h) (Or.inl ⟨by rfl, ?_⟩) ?_ ?_
      rotate_left
      · intro w'
        go_simp
        with_reducible rfl
      rotate_left
      · simp only [Act.put, List.setIfInBounds_toArray, List.set_cons_zero, List.set_cons_succ, i64_w, i32_w]
        rfl
      refine pure_ (i := 53) (N := some 4) (v := ?_) (a' := ?_) #[true, true, true, true, true, true, true, true, true, true, true, true, true, true, true, true, true, true, true, true, true, true, true, true, true, true, true, true, true, true, true, true, true, true, true, true, true, true, true, true, true, true, true, true, true, true, true, true, true, true, true, true, true, true] rfl rfl (by kernel_rfl) (fun _ _ _ h => h) (Or.inl ⟨by rfl, ?_⟩) ?_ ?_
      rotate_left
      · intro w'
        go_simp
        with_reducible rfl
      rotate_left
      · simp only [Act.put, List.setIfInBounds_toArray, List.set_cons_zero, List.set_cons_succ, i64_w, i32_w]
        rfl
      refine done_ (by kernel_rfl) ?_
      go_wp2
      go_ret
      exact ⟨by first | rfl | simp, Tw.bel (tw_last hHeld)⟩
end Go.Proofs.YtlooelfkkbgmhaaDoor
