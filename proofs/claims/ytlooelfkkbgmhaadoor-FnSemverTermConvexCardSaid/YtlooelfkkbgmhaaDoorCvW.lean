/-
  The walk of laws.FnSemverTermConvex (printed by wip/tools/gencv.py).
-/
import Derived.Test.YtlooelfkkbgmhaaDoorQSB
import Derived.Test.YtlooelfkkbgmhaaDoorQSC
import Derived.Test.YtlooelfkkbgmhaaDoorConTerm
set_option linter.unusedVariables false
set_option linter.unusedSimpArgs false
namespace Go.Proofs.YtlooelfkkbgmhaaDoor
open Go Go.RowKit QS Go.Proofs.YtlooelfkkbgmhaaDoorW.PrintWords Go.Proofs.YtlooelfkkbgmhaaDoorW.PrintLast
/-- a boxed term and three boxed versions -/
structure Fo (w : World) (g0 g1 g2 g3 : Nat) (t x y z : Array Value) (W : World) : Prop where
  k0 : W.heap[g0]? = some (.cells t 36 (0, 0))
  k1 : W.heap[g1]? = some (.cells x 24 (0, 0))
  k2 : W.heap[g2]? = some (.cells y 24 (0, 0))
  k3 : W.heap[g3]? = some (.cells z 24 (0, 0))
  bel : Below w.heap.size w W
section
variable {w : World} {g0 g1 g2 g3 : Nat} {t x y z : Array Value} {W W' : World}
theorem Fo.on (T : Fo w g0 g1 g2 g3 t x y z W) (hb : Below W.heap.size W W') : Fo w g0 g1 g2 g3 t x y z W' := ⟨blk_below T.k0 hb, blk_below T.k1 hb, blk_below T.k2 hb, blk_below T.k3 hb, below_step T.bel hb⟩
theorem Fo.alloc {o : Obj} (T : Fo w g0 g1 g2 g3 t x y z W) : Fo w g0 g1 g2 g3 t x y z (W.alloc o) := T.on (below_alloc (Below.refl _ _) _)
theorem Fo.drewN {k : Nat} (T : Fo w g0 g1 g2 g3 t x y z W) : Fo w g0 g1 g2 g3 t x y z (W.drewN k) := T.on (pw_below_drewN (Below.refl _ _) _)
theorem Fo.drew (T : Fo w g0 g1 g2 g3 t x y z W) : Fo w g0 g1 g2 g3 t x y z W.drew := T.on (below_drew1 (Below.refl _ _))
end
theorem fo_start (w : World) (t x y z : Array Value) : Fo w w.heap.size (w.heap.size + 1) (w.heap.size + 2) (w.heap.size + 3) t x y z ((((w.alloc (.cells t 36 (0, 0))).alloc (.cells x 24 (0, 0))).alloc (.cells y 24 (0, 0))).alloc (.cells z 24 (0, 0))) := by
  have h1 := blk_new (w.alloc (.cells t 36 (0, 0))) (.cells x 24 (0, 0))
  have h2 := blk_new ((w.alloc (.cells t 36 (0, 0))).alloc (.cells x 24 (0, 0))) (.cells y 24 (0, 0))
  have h3 := blk_new (((w.alloc (.cells t 36 (0, 0))).alloc (.cells x 24 (0, 0))).alloc (.cells y 24 (0, 0))) (.cells z 24 (0, 0))
  rw [show (w.alloc (.cells t 36 (0, 0))).heap.size = w.heap.size + 1 from by simp] at h1
  rw [show ((w.alloc (.cells t 36 (0, 0))).alloc (.cells x 24 (0, 0))).heap.size = w.heap.size + 2 from by simp] at h2
  rw [show (((w.alloc (.cells t 36 (0, 0))).alloc (.cells x 24 (0, 0))).alloc (.cells y 24 (0, 0))).heap.size = w.heap.size + 3 from by simp] at h3
  exact ⟨blk_alloc (blk_alloc (blk_alloc (blk_new _ _) _) _) _, blk_alloc (blk_alloc h1 _) _, blk_alloc h2 _, h3, by repeat (first | exact Below.refl _ _ | apply below_alloc)⟩
section
variable {w : World} {op gv t0 t1 t2 : Int} {ts : ByteArray} {x y z : Array Value} {w0 w' : World}
theorem fo_held (T : Fo w w.heap.size (w.heap.size + 1) (w.heap.size + 2) (w.heap.size + 3) #[.int .i64 op, .int .i64 gv, .int .u64 t0, .int .u64 t1, .int .u64 t2, .string ts] x y z w') : w'.cell? ⟨w.heap.size, 0, none⟩ = some (.int .i64 op) ∧ w'.cell? ⟨w.heap.size, 1, none⟩ = some (.int .i64 gv) ∧ w'.cell? ⟨w.heap.size, 2, none⟩ = some (.int .u64 t0) ∧ w'.cell? ⟨w.heap.size, 3, none⟩ = some (.int .u64 t1) ∧ w'.cell? ⟨w.heap.size, 4, none⟩ = some (.int .u64 t2) ∧ w'.cell? ⟨w.heap.size, 5, none⟩ = some (.string ts) ∧ Aside0 (Fo w w.heap.size (w.heap.size + 1) (w.heap.size + 2) (w.heap.size + 3) #[.int .i64 op, .int .i64 gv, .int .u64 t0, .int .u64 t1, .int .u64 t2, .string ts] x y z w') :=
  ⟨blk_cell T.k0 0, blk_cell T.k0 1, blk_cell T.k0 2, blk_cell T.k0 3, blk_cell T.k0 4, blk_cell T.k0 5, ⟨T⟩⟩
theorem fo_last (h : w'.cell? ⟨w.heap.size, 0, none⟩ = some (.int .i64 op) ∧ w'.cell? ⟨w.heap.size, 1, none⟩ = some (.int .i64 gv) ∧ w'.cell? ⟨w.heap.size, 2, none⟩ = some (.int .u64 t0) ∧ w'.cell? ⟨w.heap.size, 3, none⟩ = some (.int .u64 t1) ∧ w'.cell? ⟨w.heap.size, 4, none⟩ = some (.int .u64 t2) ∧ w'.cell? ⟨w.heap.size, 5, none⟩ = some (.string ts) ∧ Aside0 (Fo w w.heap.size (w.heap.size + 1) (w.heap.size + 2) (w.heap.size + 3) #[.int .i64 op, .int .i64 gv, .int .u64 t0, .int .u64 t1, .int .u64 t2, .string ts] x y z w')) : Fo w w.heap.size (w.heap.size + 1) (w.heap.size + 2) (w.heap.size + 3) #[.int .i64 op, .int .i64 gv, .int .u64 t0, .int .u64 t1, .int .u64 t2, .string ts] x y z w' := h.2.2.2.2.2.2.out
theorem fo_next (hb : Below w0.heap.size w0 w') (h : w0.cell? ⟨w.heap.size, 0, none⟩ = some (.int .i64 op) ∧ w0.cell? ⟨w.heap.size, 1, none⟩ = some (.int .i64 gv) ∧ w0.cell? ⟨w.heap.size, 2, none⟩ = some (.int .u64 t0) ∧ w0.cell? ⟨w.heap.size, 3, none⟩ = some (.int .u64 t1) ∧ w0.cell? ⟨w.heap.size, 4, none⟩ = some (.int .u64 t2) ∧ w0.cell? ⟨w.heap.size, 5, none⟩ = some (.string ts) ∧ Aside0 (Fo w w.heap.size (w.heap.size + 1) (w.heap.size + 2) (w.heap.size + 3) #[.int .i64 op, .int .i64 gv, .int .u64 t0, .int .u64 t1, .int .u64 t2, .string ts] x y z w0)) : w'.cell? ⟨w.heap.size, 0, none⟩ = some (.int .i64 op) ∧ w'.cell? ⟨w.heap.size, 1, none⟩ = some (.int .i64 gv) ∧ w'.cell? ⟨w.heap.size, 2, none⟩ = some (.int .u64 t0) ∧ w'.cell? ⟨w.heap.size, 3, none⟩ = some (.int .u64 t1) ∧ w'.cell? ⟨w.heap.size, 4, none⟩ = some (.int .u64 t2) ∧ w'.cell? ⟨w.heap.size, 5, none⟩ = some (.string ts) ∧ Aside0 (Fo w w.heap.size (w.heap.size + 1) (w.heap.size + 2) (w.heap.size + 3) #[.int .i64 op, .int .i64 gv, .int .u64 t0, .int .u64 t1, .int .u64 t2, .string ts] x y z w') := fo_held (Fo.on h.2.2.2.2.2.2.out hb)
end
theorem fo_cells {w : World} {g0 g1 g2 g3 : Nat} {p0 p1 p2 p3 p4 p5 x0 x1 x2 x3 x4 y0 y1 y2 y3 y4 z0 z1 z2 z3 z4 : Value} {W : World} (T : Fo w g0 g1 g2 g3 #[p0, p1, p2, p3, p4, p5] #[x0, x1, x2, x3, x4] #[y0, y1, y2, y3, y4] #[z0, z1, z2, z3, z4] W) : W.cell? ⟨g0, 0, none⟩ = some p0 ∧ W.frozen? ⟨g0, 0, none⟩ = false ∧ W.cell? ⟨g0, 1, none⟩ = some p1 ∧ W.frozen? ⟨g0, 1, none⟩ = false ∧ W.cell? ⟨g0, 2, none⟩ = some p2 ∧ W.frozen? ⟨g0, 2, none⟩ = false ∧ W.cell? ⟨g0, 3, none⟩ = some p3 ∧ W.frozen? ⟨g0, 3, none⟩ = false ∧ W.cell? ⟨g0, 4, none⟩ = some p4 ∧ W.frozen? ⟨g0, 4, none⟩ = false ∧ W.cell? ⟨g0, 5, none⟩ = some p5 ∧ W.frozen? ⟨g0, 5, none⟩ = false ∧ W.cell? ⟨g1, 0, none⟩ = some x0 ∧ W.frozen? ⟨g1, 0, none⟩ = false ∧ W.cell? ⟨g1, 1, none⟩ = some x1 ∧ W.frozen? ⟨g1, 1, none⟩ = false ∧ W.cell? ⟨g1, 2, none⟩ = some x2 ∧ W.frozen? ⟨g1, 2, none⟩ = false ∧ W.cell? ⟨g1, 3, none⟩ = some x3 ∧ W.frozen? ⟨g1, 3, none⟩ = false ∧ W.cell? ⟨g1, 4, none⟩ = some x4 ∧ W.frozen? ⟨g1, 4, none⟩ = false ∧ W.cell? ⟨g2, 0, none⟩ = some y0 ∧ W.frozen? ⟨g2, 0, none⟩ = false ∧ W.cell? ⟨g2, 1, none⟩ = some y1 ∧ W.frozen? ⟨g2, 1, none⟩ = false ∧ W.cell? ⟨g2, 2, none⟩ = some y2 ∧ W.frozen? ⟨g2, 2, none⟩ = false ∧ W.cell? ⟨g2, 3, none⟩ = some y3 ∧ W.frozen? ⟨g2, 3, none⟩ = false ∧ W.cell? ⟨g2, 4, none⟩ = some y4 ∧ W.frozen? ⟨g2, 4, none⟩ = false ∧ W.cell? ⟨g3, 0, none⟩ = some z0 ∧ W.frozen? ⟨g3, 0, none⟩ = false ∧ W.cell? ⟨g3, 1, none⟩ = some z1 ∧ W.frozen? ⟨g3, 1, none⟩ = false ∧ W.cell? ⟨g3, 2, none⟩ = some z2 ∧ W.frozen? ⟨g3, 2, none⟩ = false ∧ W.cell? ⟨g3, 3, none⟩ = some z3 ∧ W.frozen? ⟨g3, 3, none⟩ = false ∧ W.cell? ⟨g3, 4, none⟩ = some z4 ∧ W.frozen? ⟨g3, 4, none⟩ = false :=
  ⟨blk_cell T.k0 0, blk_frozen T.k0 0, blk_cell T.k0 1, blk_frozen T.k0 1, blk_cell T.k0 2, blk_frozen T.k0 2, blk_cell T.k0 3, blk_frozen T.k0 3, blk_cell T.k0 4, blk_frozen T.k0 4, blk_cell T.k0 5, blk_frozen T.k0 5, blk_cell T.k1 0, blk_frozen T.k1 0, blk_cell T.k1 1, blk_frozen T.k1 1, blk_cell T.k1 2, blk_frozen T.k1 2, blk_cell T.k1 3, blk_frozen T.k1 3, blk_cell T.k1 4, blk_frozen T.k1 4, blk_cell T.k2 0, blk_frozen T.k2 0, blk_cell T.k2 1, blk_frozen T.k2 1, blk_cell T.k2 2, blk_frozen T.k2 2, blk_cell T.k2 3, blk_frozen T.k2 3, blk_cell T.k2 4, blk_frozen T.k2 4, blk_cell T.k3 0, blk_frozen T.k3 0, blk_cell T.k3 1, blk_frozen T.k3 1, blk_cell T.k3 2, blk_frozen T.k3 2, blk_cell T.k3 3, blk_frozen T.k3 3, blk_cell T.k3 4, blk_frozen T.k3 4⟩
set_option maxHeartbeats 8000000 in
set_option maxRecDepth 100000 in
theorem cv_0 (n : Nat) (op gv t0 t1 t2 : Int) (ts : ByteArray) (a b c : Int) (s m : ByteArray) (a1 b1 c1 : Int) (s1 m1 : ByteArray) (a2 b2 c2 : Int) (s2 m2 : ByteArray) (w : World) (hG : GlobE w) (x0 x1 x2 x3 : Bool)
    (h0 : laws_zzFits13.f op gv t0 t1 t2 ts = some x0) (h1 : laws_zzFits14.f a b c s m = some x1) (h2 : laws_zzFits14.f a1 b1 c1 s1 m1 = some x2) (h3 : laws_zzFits14.f a2 b2 c2 s2 m2 = some x3) (hx : (!(x0 && (x1 && (x2 && x3)))) = true) :
  Calls Tryd.prog 11 #[.agg #[.int .i64 op, .int .i64 gv, .int .u64 t0, .int .u64 t1, .int .u64 t2, .string ts], .agg #[.int .u64 a, .int .u64 b, .int .u64 c, .string s, .string m], .agg #[.int .u64 a1, .int .u64 b1, .int .u64 c1, .string s1, .string m1], .agg #[.int .u64 a2, .int .u64 b2, .int .u64 c2, .string s2, .string m2]] w fun e w' => e = .returned (.bool true) ∧ Below w.heap.size w w' := by
  have HG := Aside0.mk hG
  clear hG
  have HT := Aside0.mk (fo_start w #[.int .i64 op, .int .i64 gv, .int .u64 t0, .int .u64 t1, .int .u64 t2, .string ts] #[.int .u64 a, .int .u64 b, .int .u64 c, .string s, .string m] #[.int .u64 a1, .int .u64 b1, .int .u64 c1, .string s1, .string m1] #[.int .u64 a2, .int .u64 b2, .int .u64 c2, .string s2, .string m2])
  go_enter Tryd.func11, Tryd.ntmps11
  go_upto_region 1 with fail
  go_cut [27] (fun t W => t = .bool (!(x0 && (x1 && (x2 && x3)))) ∧ Aside0 (Fo w w.heap.size (w.heap.size + 1) (w.heap.size + 2) (w.heap.size + 3) #[.int .i64 op, .int .i64 gv, .int .u64 t0, .int .u64 t1, .int .u64 t2, .string ts] #[.int .u64 a, .int .u64 b, .int .u64 c, .string s, .string m] #[.int .u64 a1, .int .u64 b1, .int .u64 c1, .string s1, .string m1] #[.int .u64 a2, .int .u64 b2, .int .u64 c2, .string s2, .string m2] W))
  case first =>
    obtain ⟨f00, e00, f01, e01, f02, e02, f03, e03, f04, e04, f05, e05, f10, e10, f11, e11, f12, e12, f13, e13, f14, e14, f20, e20, f21, e21, f22, e22, f23, e23, f24, e24, f30, e30, f31, e31, f32, e32, f33, e33, f34, e34⟩ := fo_cells HT.out
    cases x0
    · skip
      go_wp2_with (first | (go_at_call 33; (with_reducible refine (laws_zzFits13.calls op gv t0 t1 t2 ts _ _ h0).mono ?_); rintro e w3 ⟨rfl, hb⟩; replace HT := Aside0.mk (Fo.on (by (with_reducible repeat (first | exact HT.out | apply Fo.drew | apply Fo.drewN | apply Fo.alloc))) hb); clear hb; clear f00 e00 f01 e01 f02 e02 f03 e03 f04 e04 f05 e05 f10 e10 f11 e11 f12 e12 f13 e13 f14 e14 f20 e20 f21 e21 f22 e22 f23 e23 f24 e24 f30 e30 f31 e31 f32 e32 f33 e33 f34 e34; obtain ⟨f00, e00, f01, e01, f02, e02, f03, e03, f04, e04, f05, e05, f10, e10, f11, e11, f12, e12, f13, e13, f14, e14, f20, e20, f21, e21, f22, e22, f23, e23, f24, e24, f30, e30, f31, e31, f32, e32, f33, e33, f34, e34⟩ := fo_cells HT.out))
      go_meet
      exact ⟨rfl, Aside0.mk (by (with_reducible repeat (first | exact HT.out | apply Fo.drew | apply Fo.drewN | apply Fo.alloc)))⟩
    · skip
      cases x1
      · skip
        go_wp2_with (first | (go_at_call 33; (with_reducible refine (laws_zzFits13.calls op gv t0 t1 t2 ts _ _ h0).mono ?_); rintro e w3 ⟨rfl, hb⟩; replace HT := Aside0.mk (Fo.on (by (with_reducible repeat (first | exact HT.out | apply Fo.drew | apply Fo.drewN | apply Fo.alloc))) hb); clear hb; clear f00 e00 f01 e01 f02 e02 f03 e03 f04 e04 f05 e05 f10 e10 f11 e11 f12 e12 f13 e13 f14 e14 f20 e20 f21 e21 f22 e22 f23 e23 f24 e24 f30 e30 f31 e31 f32 e32 f33 e33 f34 e34; obtain ⟨f00, e00, f01, e01, f02, e02, f03, e03, f04, e04, f05, e05, f10, e10, f11, e11, f12, e12, f13, e13, f14, e14, f20, e20, f21, e21, f22, e22, f23, e23, f24, e24, f30, e30, f31, e31, f32, e32, f33, e33, f34, e34⟩ := fo_cells HT.out) | (go_at_call 17; (with_reducible refine (laws_zzFits14.calls a b c s m _ _ h1).mono ?_); rintro e w3 ⟨rfl, hb⟩; replace HT := Aside0.mk (Fo.on (by (with_reducible repeat (first | exact HT.out | apply Fo.drew | apply Fo.drewN | apply Fo.alloc))) hb); clear hb; clear f00 e00 f01 e01 f02 e02 f03 e03 f04 e04 f05 e05 f10 e10 f11 e11 f12 e12 f13 e13 f14 e14 f20 e20 f21 e21 f22 e22 f23 e23 f24 e24 f30 e30 f31 e31 f32 e32 f33 e33 f34 e34; obtain ⟨f00, e00, f01, e01, f02, e02, f03, e03, f04, e04, f05, e05, f10, e10, f11, e11, f12, e12, f13, e13, f14, e14, f20, e20, f21, e21, f22, e22, f23, e23, f24, e24, f30, e30, f31, e31, f32, e32, f33, e33, f34, e34⟩ := fo_cells HT.out))
        go_meet
        exact ⟨rfl, Aside0.mk (by (with_reducible repeat (first | exact HT.out | apply Fo.drew | apply Fo.drewN | apply Fo.alloc)))⟩
      · skip
        cases x2
        · skip
          go_wp2_with (first | (go_at_call 33; (with_reducible refine (laws_zzFits13.calls op gv t0 t1 t2 ts _ _ h0).mono ?_); rintro e w3 ⟨rfl, hb⟩; replace HT := Aside0.mk (Fo.on (by (with_reducible repeat (first | exact HT.out | apply Fo.drew | apply Fo.drewN | apply Fo.alloc))) hb); clear hb; clear f00 e00 f01 e01 f02 e02 f03 e03 f04 e04 f05 e05 f10 e10 f11 e11 f12 e12 f13 e13 f14 e14 f20 e20 f21 e21 f22 e22 f23 e23 f24 e24 f30 e30 f31 e31 f32 e32 f33 e33 f34 e34; obtain ⟨f00, e00, f01, e01, f02, e02, f03, e03, f04, e04, f05, e05, f10, e10, f11, e11, f12, e12, f13, e13, f14, e14, f20, e20, f21, e21, f22, e22, f23, e23, f24, e24, f30, e30, f31, e31, f32, e32, f33, e33, f34, e34⟩ := fo_cells HT.out) | (go_at_call 17; (with_reducible refine (laws_zzFits14.calls a b c s m _ _ h1).mono ?_); rintro e w3 ⟨rfl, hb⟩; replace HT := Aside0.mk (Fo.on (by (with_reducible repeat (first | exact HT.out | apply Fo.drew | apply Fo.drewN | apply Fo.alloc))) hb); clear hb; clear f00 e00 f01 e01 f02 e02 f03 e03 f04 e04 f05 e05 f10 e10 f11 e11 f12 e12 f13 e13 f14 e14 f20 e20 f21 e21 f22 e22 f23 e23 f24 e24 f30 e30 f31 e31 f32 e32 f33 e33 f34 e34; obtain ⟨f00, e00, f01, e01, f02, e02, f03, e03, f04, e04, f05, e05, f10, e10, f11, e11, f12, e12, f13, e13, f14, e14, f20, e20, f21, e21, f22, e22, f23, e23, f24, e24, f30, e30, f31, e31, f32, e32, f33, e33, f34, e34⟩ := fo_cells HT.out) | (go_at_call 17; (with_reducible refine (laws_zzFits14.calls a1 b1 c1 s1 m1 _ _ h2).mono ?_); rintro e w3 ⟨rfl, hb⟩; replace HT := Aside0.mk (Fo.on (by (with_reducible repeat (first | exact HT.out | apply Fo.drew | apply Fo.drewN | apply Fo.alloc))) hb); clear hb; clear f00 e00 f01 e01 f02 e02 f03 e03 f04 e04 f05 e05 f10 e10 f11 e11 f12 e12 f13 e13 f14 e14 f20 e20 f21 e21 f22 e22 f23 e23 f24 e24 f30 e30 f31 e31 f32 e32 f33 e33 f34 e34; obtain ⟨f00, e00, f01, e01, f02, e02, f03, e03, f04, e04, f05, e05, f10, e10, f11, e11, f12, e12, f13, e13, f14, e14, f20, e20, f21, e21, f22, e22, f23, e23, f24, e24, f30, e30, f31, e31, f32, e32, f33, e33, f34, e34⟩ := fo_cells HT.out))
          go_meet
          exact ⟨rfl, Aside0.mk (by (with_reducible repeat (first | exact HT.out | apply Fo.drew | apply Fo.drewN | apply Fo.alloc)))⟩
        · skip
          cases x3
          · skip
            go_wp2_with (first | (go_at_call 33; (with_reducible refine (laws_zzFits13.calls op gv t0 t1 t2 ts _ _ h0).mono ?_); rintro e w3 ⟨rfl, hb⟩; replace HT := Aside0.mk (Fo.on (by (with_reducible repeat (first | exact HT.out | apply Fo.drew | apply Fo.drewN | apply Fo.alloc))) hb); clear hb; clear f00 e00 f01 e01 f02 e02 f03 e03 f04 e04 f05 e05 f10 e10 f11 e11 f12 e12 f13 e13 f14 e14 f20 e20 f21 e21 f22 e22 f23 e23 f24 e24 f30 e30 f31 e31 f32 e32 f33 e33 f34 e34; obtain ⟨f00, e00, f01, e01, f02, e02, f03, e03, f04, e04, f05, e05, f10, e10, f11, e11, f12, e12, f13, e13, f14, e14, f20, e20, f21, e21, f22, e22, f23, e23, f24, e24, f30, e30, f31, e31, f32, e32, f33, e33, f34, e34⟩ := fo_cells HT.out) | (go_at_call 17; (with_reducible refine (laws_zzFits14.calls a b c s m _ _ h1).mono ?_); rintro e w3 ⟨rfl, hb⟩; replace HT := Aside0.mk (Fo.on (by (with_reducible repeat (first | exact HT.out | apply Fo.drew | apply Fo.drewN | apply Fo.alloc))) hb); clear hb; clear f00 e00 f01 e01 f02 e02 f03 e03 f04 e04 f05 e05 f10 e10 f11 e11 f12 e12 f13 e13 f14 e14 f20 e20 f21 e21 f22 e22 f23 e23 f24 e24 f30 e30 f31 e31 f32 e32 f33 e33 f34 e34; obtain ⟨f00, e00, f01, e01, f02, e02, f03, e03, f04, e04, f05, e05, f10, e10, f11, e11, f12, e12, f13, e13, f14, e14, f20, e20, f21, e21, f22, e22, f23, e23, f24, e24, f30, e30, f31, e31, f32, e32, f33, e33, f34, e34⟩ := fo_cells HT.out) | (go_at_call 17; (with_reducible refine (laws_zzFits14.calls a1 b1 c1 s1 m1 _ _ h2).mono ?_); rintro e w3 ⟨rfl, hb⟩; replace HT := Aside0.mk (Fo.on (by (with_reducible repeat (first | exact HT.out | apply Fo.drew | apply Fo.drewN | apply Fo.alloc))) hb); clear hb; clear f00 e00 f01 e01 f02 e02 f03 e03 f04 e04 f05 e05 f10 e10 f11 e11 f12 e12 f13 e13 f14 e14 f20 e20 f21 e21 f22 e22 f23 e23 f24 e24 f30 e30 f31 e31 f32 e32 f33 e33 f34 e34; obtain ⟨f00, e00, f01, e01, f02, e02, f03, e03, f04, e04, f05, e05, f10, e10, f11, e11, f12, e12, f13, e13, f14, e14, f20, e20, f21, e21, f22, e22, f23, e23, f24, e24, f30, e30, f31, e31, f32, e32, f33, e33, f34, e34⟩ := fo_cells HT.out) | (go_at_call 17; (with_reducible refine (laws_zzFits14.calls a2 b2 c2 s2 m2 _ _ h3).mono ?_); rintro e w3 ⟨rfl, hb⟩; replace HT := Aside0.mk (Fo.on (by (with_reducible repeat (first | exact HT.out | apply Fo.drew | apply Fo.drewN | apply Fo.alloc))) hb); clear hb; clear f00 e00 f01 e01 f02 e02 f03 e03 f04 e04 f05 e05 f10 e10 f11 e11 f12 e12 f13 e13 f14 e14 f20 e20 f21 e21 f22 e22 f23 e23 f24 e24 f30 e30 f31 e31 f32 e32 f33 e33 f34 e34; obtain ⟨f00, e00, f01, e01, f02, e02, f03, e03, f04, e04, f05, e05, f10, e10, f11, e11, f12, e12, f13, e13, f14, e14, f20, e20, f21, e21, f22, e22, f23, e23, f24, e24, f30, e30, f31, e31, f32, e32, f33, e33, f34, e34⟩ := fo_cells HT.out))
            go_meet
            exact ⟨rfl, Aside0.mk (by (with_reducible repeat (first | exact HT.out | apply Fo.drew | apply Fo.drewN | apply Fo.alloc)))⟩
          · skip
            go_wp2_with (first | (go_at_call 33; (with_reducible refine (laws_zzFits13.calls op gv t0 t1 t2 ts _ _ h0).mono ?_); rintro e w3 ⟨rfl, hb⟩; replace HT := Aside0.mk (Fo.on (by (with_reducible repeat (first | exact HT.out | apply Fo.drew | apply Fo.drewN | apply Fo.alloc))) hb); clear hb; clear f00 e00 f01 e01 f02 e02 f03 e03 f04 e04 f05 e05 f10 e10 f11 e11 f12 e12 f13 e13 f14 e14 f20 e20 f21 e21 f22 e22 f23 e23 f24 e24 f30 e30 f31 e31 f32 e32 f33 e33 f34 e34; obtain ⟨f00, e00, f01, e01, f02, e02, f03, e03, f04, e04, f05, e05, f10, e10, f11, e11, f12, e12, f13, e13, f14, e14, f20, e20, f21, e21, f22, e22, f23, e23, f24, e24, f30, e30, f31, e31, f32, e32, f33, e33, f34, e34⟩ := fo_cells HT.out) | (go_at_call 17; (with_reducible refine (laws_zzFits14.calls a b c s m _ _ h1).mono ?_); rintro e w3 ⟨rfl, hb⟩; replace HT := Aside0.mk (Fo.on (by (with_reducible repeat (first | exact HT.out | apply Fo.drew | apply Fo.drewN | apply Fo.alloc))) hb); clear hb; clear f00 e00 f01 e01 f02 e02 f03 e03 f04 e04 f05 e05 f10 e10 f11 e11 f12 e12 f13 e13 f14 e14 f20 e20 f21 e21 f22 e22 f23 e23 f24 e24 f30 e30 f31 e31 f32 e32 f33 e33 f34 e34; obtain ⟨f00, e00, f01, e01, f02, e02, f03, e03, f04, e04, f05, e05, f10, e10, f11, e11, f12, e12, f13, e13, f14, e14, f20, e20, f21, e21, f22, e22, f23, e23, f24, e24, f30, e30, f31, e31, f32, e32, f33, e33, f34, e34⟩ := fo_cells HT.out) | (go_at_call 17; (with_reducible refine (laws_zzFits14.calls a1 b1 c1 s1 m1 _ _ h2).mono ?_); rintro e w3 ⟨rfl, hb⟩; replace HT := Aside0.mk (Fo.on (by (with_reducible repeat (first | exact HT.out | apply Fo.drew | apply Fo.drewN | apply Fo.alloc))) hb); clear hb; clear f00 e00 f01 e01 f02 e02 f03 e03 f04 e04 f05 e05 f10 e10 f11 e11 f12 e12 f13 e13 f14 e14 f20 e20 f21 e21 f22 e22 f23 e23 f24 e24 f30 e30 f31 e31 f32 e32 f33 e33 f34 e34; obtain ⟨f00, e00, f01, e01, f02, e02, f03, e03, f04, e04, f05, e05, f10, e10, f11, e11, f12, e12, f13, e13, f14, e14, f20, e20, f21, e21, f22, e22, f23, e23, f24, e24, f30, e30, f31, e31, f32, e32, f33, e33, f34, e34⟩ := fo_cells HT.out) | (go_at_call 17; (with_reducible refine (laws_zzFits14.calls a2 b2 c2 s2 m2 _ _ h3).mono ?_); rintro e w3 ⟨rfl, hb⟩; replace HT := Aside0.mk (Fo.on (by (with_reducible repeat (first | exact HT.out | apply Fo.drew | apply Fo.drewN | apply Fo.alloc))) hb); clear hb; clear f00 e00 f01 e01 f02 e02 f03 e03 f04 e04 f05 e05 f10 e10 f11 e11 f12 e12 f13 e13 f14 e14 f20 e20 f21 e21 f22 e22 f23 e23 f24 e24 f30 e30 f31 e31 f32 e32 f33 e33 f34 e34; obtain ⟨f00, e00, f01, e01, f02, e02, f03, e03, f04, e04, f05, e05, f10, e10, f11, e11, f12, e12, f13, e13, f14, e14, f20, e20, f21, e21, f22, e22, f23, e23, f24, e24, f30, e30, f31, e31, f32, e32, f33, e33, f34, e34⟩ := fo_cells HT.out))
            go_meet
            exact ⟨rfl, Aside0.mk (by (with_reducible repeat (first | exact HT.out | apply Fo.drew | apply Fo.drewN | apply Fo.alloc)))⟩
  case rest =>
    obtain ⟨rfl, HT1⟩ := hcut
    clear HT
    have HT := HT1
    clear HT1
    rw [hx]
    go_wp2
    go_ret
    refine ⟨rfl, Fo.bel (g0 := w.heap.size) (g1 := (w.heap.size + 1)) (g2 := (w.heap.size + 2)) (g3 := (w.heap.size + 3)) (t := #[.int .i64 op, .int .i64 gv, .int .u64 t0, .int .u64 t1, .int .u64 t2, .string ts]) (x := #[.int .u64 a, .int .u64 b, .int .u64 c, .string s, .string m]) (y := #[.int .u64 a1, .int .u64 b1, .int .u64 c1, .string s1, .string m1]) (z := #[.int .u64 a2, .int .u64 b2, .int .u64 c2, .string s2, .string m2]) ?_⟩
    exact (by (with_reducible repeat (first | exact HT.out | apply Fo.drew | apply Fo.drewN | apply Fo.alloc)))
set_option maxHeartbeats 8000000 in
set_option maxRecDepth 100000 in
theorem cv_1 (n : Nat) (op gv t0 t1 t2 : Int) (ts : ByteArray) (a b c : Int) (s m : ByteArray) (a1 b1 c1 : Int) (s1 m1 : ByteArray) (a2 b2 c2 : Int) (s2 m2 : ByteArray) (w : World) (hG : GlobE w)
    (h0 : laws_zzFits13.f op gv t0 t1 t2 ts = some true) (h1 : laws_zzFits14.f a b c s m = some true) (h2 : laws_zzFits14.f a1 b1 c1 s1 m1 = some true) (h3 : laws_zzFits14.f a2 b2 c2 s2 m2 = some true)
    (y0 y1 : Bool) (r1 r2 : Int) (yy : List S24) (Ny : yy = [(⟨a, b, c, s, m⟩ : S24), (⟨a1, b1, c1, s1, m1⟩ : S24), (⟨a2, b2, c2, s2, m2⟩ : S24)]) (h4 : spec_GoodTerm.f n op gv t0 t1 t2 ts = some y0) (h5 : laws_svGood.f n yy = some y1) (h6 : spec_Compare.f n a b c s m a1 b1 c1 s1 m1 = some r1) (h7 : spec_Compare.f n a1 b1 c1 s1 m1 a2 b2 c2 s2 m2 = some r2)
    (hrest : (!(y0 && (!(op == 1) && (y1 && (!(decide (0 < r1)) && !(decide (0 < r2))))))) = false → ∃ ya yb yc : Bool, impl_TermHolds.f n op gv t0 t1 t2 ts t0 t1 t2 ts ⟨#[]⟩ true = some (op != 2 && op != 3) ∧ impl_TermHolds.f n op gv t0 t1 t2 ts a b c s m true = some ya ∧ impl_TermHolds.f n op gv t0 t1 t2 ts a1 b1 c1 s1 m1 true = some yb ∧ impl_TermHolds.f n op gv t0 t1 t2 ts a2 b2 c2 s2 m2 true = some yc ∧ (ya = false ∨ yc = false ∨ yb = true)) :
  Calls Tryd.prog 11 #[.agg #[.int .i64 op, .int .i64 gv, .int .u64 t0, .int .u64 t1, .int .u64 t2, .string ts], .agg #[.int .u64 a, .int .u64 b, .int .u64 c, .string s, .string m], .agg #[.int .u64 a1, .int .u64 b1, .int .u64 c1, .string s1, .string m1], .agg #[.int .u64 a2, .int .u64 b2, .int .u64 c2, .string s2, .string m2]] w fun e w' => e = .returned (.bool true) ∧ Below w.heap.size w w' := by
  have HG := Aside0.mk hG
  clear hG
  have NY := Aside0.mk Ny
  clear Ny
  have HT := Aside0.mk (fo_start w #[.int .i64 op, .int .i64 gv, .int .u64 t0, .int .u64 t1, .int .u64 t2, .string ts] #[.int .u64 a, .int .u64 b, .int .u64 c, .string s, .string m] #[.int .u64 a1, .int .u64 b1, .int .u64 c1, .string s1, .string m1] #[.int .u64 a2, .int .u64 b2, .int .u64 c2, .string s2, .string m2])
  go_enter Tryd.func11, Tryd.ntmps11
  go_upto_region 1 with fail
  go_cut [27] (fun t W => t = .bool false ∧ Aside0 (Fo w w.heap.size (w.heap.size + 1) (w.heap.size + 2) (w.heap.size + 3) #[.int .i64 op, .int .i64 gv, .int .u64 t0, .int .u64 t1, .int .u64 t2, .string ts] #[.int .u64 a, .int .u64 b, .int .u64 c, .string s, .string m] #[.int .u64 a1, .int .u64 b1, .int .u64 c1, .string s1, .string m1] #[.int .u64 a2, .int .u64 b2, .int .u64 c2, .string s2, .string m2] W))
  case first =>
    obtain ⟨f00, e00, f01, e01, f02, e02, f03, e03, f04, e04, f05, e05, f10, e10, f11, e11, f12, e12, f13, e13, f14, e14, f20, e20, f21, e21, f22, e22, f23, e23, f24, e24, f30, e30, f31, e31, f32, e32, f33, e33, f34, e34⟩ := fo_cells HT.out
    go_wp2_with (first | (go_at_call 33; (with_reducible refine (laws_zzFits13.calls op gv t0 t1 t2 ts _ _ h0).mono ?_); rintro e w3 ⟨rfl, hb⟩; replace HT := Aside0.mk (Fo.on (by (with_reducible repeat (first | exact HT.out | apply Fo.drew | apply Fo.drewN | apply Fo.alloc))) hb); clear hb; clear f00 e00 f01 e01 f02 e02 f03 e03 f04 e04 f05 e05 f10 e10 f11 e11 f12 e12 f13 e13 f14 e14 f20 e20 f21 e21 f22 e22 f23 e23 f24 e24 f30 e30 f31 e31 f32 e32 f33 e33 f34 e34; obtain ⟨f00, e00, f01, e01, f02, e02, f03, e03, f04, e04, f05, e05, f10, e10, f11, e11, f12, e12, f13, e13, f14, e14, f20, e20, f21, e21, f22, e22, f23, e23, f24, e24, f30, e30, f31, e31, f32, e32, f33, e33, f34, e34⟩ := fo_cells HT.out) | (go_at_call 17; (with_reducible refine (laws_zzFits14.calls a b c s m _ _ h1).mono ?_); rintro e w3 ⟨rfl, hb⟩; replace HT := Aside0.mk (Fo.on (by (with_reducible repeat (first | exact HT.out | apply Fo.drew | apply Fo.drewN | apply Fo.alloc))) hb); clear hb; clear f00 e00 f01 e01 f02 e02 f03 e03 f04 e04 f05 e05 f10 e10 f11 e11 f12 e12 f13 e13 f14 e14 f20 e20 f21 e21 f22 e22 f23 e23 f24 e24 f30 e30 f31 e31 f32 e32 f33 e33 f34 e34; obtain ⟨f00, e00, f01, e01, f02, e02, f03, e03, f04, e04, f05, e05, f10, e10, f11, e11, f12, e12, f13, e13, f14, e14, f20, e20, f21, e21, f22, e22, f23, e23, f24, e24, f30, e30, f31, e31, f32, e32, f33, e33, f34, e34⟩ := fo_cells HT.out) | (go_at_call 17; (with_reducible refine (laws_zzFits14.calls a1 b1 c1 s1 m1 _ _ h2).mono ?_); rintro e w3 ⟨rfl, hb⟩; replace HT := Aside0.mk (Fo.on (by (with_reducible repeat (first | exact HT.out | apply Fo.drew | apply Fo.drewN | apply Fo.alloc))) hb); clear hb; clear f00 e00 f01 e01 f02 e02 f03 e03 f04 e04 f05 e05 f10 e10 f11 e11 f12 e12 f13 e13 f14 e14 f20 e20 f21 e21 f22 e22 f23 e23 f24 e24 f30 e30 f31 e31 f32 e32 f33 e33 f34 e34; obtain ⟨f00, e00, f01, e01, f02, e02, f03, e03, f04, e04, f05, e05, f10, e10, f11, e11, f12, e12, f13, e13, f14, e14, f20, e20, f21, e21, f22, e22, f23, e23, f24, e24, f30, e30, f31, e31, f32, e32, f33, e33, f34, e34⟩ := fo_cells HT.out) | (go_at_call 17; (with_reducible refine (laws_zzFits14.calls a2 b2 c2 s2 m2 _ _ h3).mono ?_); rintro e w3 ⟨rfl, hb⟩; replace HT := Aside0.mk (Fo.on (by (with_reducible repeat (first | exact HT.out | apply Fo.drew | apply Fo.drewN | apply Fo.alloc))) hb); clear hb; clear f00 e00 f01 e01 f02 e02 f03 e03 f04 e04 f05 e05 f10 e10 f11 e11 f12 e12 f13 e13 f14 e14 f20 e20 f21 e21 f22 e22 f23 e23 f24 e24 f30 e30 f31 e31 f32 e32 f33 e33 f34 e34; obtain ⟨f00, e00, f01, e01, f02, e02, f03, e03, f04, e04, f05, e05, f10, e10, f11, e11, f12, e12, f13, e13, f14, e14, f20, e20, f21, e21, f22, e22, f23, e23, f24, e24, f30, e30, f31, e31, f32, e32, f33, e33, f34, e34⟩ := fo_cells HT.out))
    go_meet
    exact ⟨rfl, Aside0.mk (by (with_reducible repeat (first | exact HT.out | apply Fo.drew | apply Fo.drewN | apply Fo.alloc)))⟩
  case rest =>
    obtain ⟨rfl, HT1⟩ := hcut
    clear HT
    have HT := HT1
    clear HT1
    clear h0 h1 h2 h3
    go_upto_region 3 with fail
    go_cut [55] (fun t W => t = .bool (!(y0 && (!(op == 1) && (y1 && (!(decide (0 < r1)) && !(decide (0 < r2))))))) ∧ Aside0 (Fo w w.heap.size (w.heap.size + 1) (w.heap.size + 2) (w.heap.size + 3) #[.int .i64 op, .int .i64 gv, .int .u64 t0, .int .u64 t1, .int .u64 t2, .string ts] #[.int .u64 a, .int .u64 b, .int .u64 c, .string s, .string m] #[.int .u64 a1, .int .u64 b1, .int .u64 c1, .string s1, .string m1] #[.int .u64 a2, .int .u64 b2, .int .u64 c2, .string s2, .string m2] W))
    case first =>
      clear hrest
      obtain ⟨f00, e00, f01, e01, f02, e02, f03, e03, f04, e04, f05, e05, f10, e10, f11, e11, f12, e12, f13, e13, f14, e14, f20, e20, f21, e21, f22, e22, f23, e23, f24, e24, f30, e30, f31, e31, f32, e32, f33, e33, f34, e34⟩ := fo_cells HT.out
      cases y0
      · skip
        go_wp2_with (first | (go_at_call 46; (with_reducible refine (spec_GoodTerm.calls n op gv t0 t1 t2 ts _ _ h4).mono ?_); rintro e w3 ⟨rfl, hb⟩; replace HT := Aside0.mk (Fo.on (by (with_reducible repeat (first | exact HT.out | apply Fo.drew | apply Fo.drewN | apply Fo.alloc))) hb); clear hb; clear f00 e00 f01 e01 f02 e02 f03 e03 f04 e04 f05 e05 f10 e10 f11 e11 f12 e12 f13 e13 f14 e14 f20 e20 f21 e21 f22 e22 f23 e23 f24 e24 f30 e30 f31 e31 f32 e32 f33 e33 f34 e34; obtain ⟨f00, e00, f01, e01, f02, e02, f03, e03, f04, e04, f05, e05, f10, e10, f11, e11, f12, e12, f13, e13, f14, e14, f20, e20, f21, e21, f22, e22, f23, e23, f24, e24, f30, e30, f31, e31, f32, e32, f33, e33, f34, e34⟩ := fo_cells HT.out))
        go_meet
        exact ⟨by first | rfl | (rw [o1]; rfl) | (rw [o1, p1]; rfl) | (rw [o1, p1, p2]; rfl), Aside0.mk (by (with_reducible repeat (first | exact HT.out | apply Fo.drew | apply Fo.drewN | apply Fo.alloc)))⟩
      · skip
        by_cases ho : op = 1
        · subst ho
          go_wp2_with (first | (go_at_call 46; (with_reducible refine (spec_GoodTerm.calls n 1 gv t0 t1 t2 ts _ _ h4).mono ?_); rintro e w3 ⟨rfl, hb⟩; replace HT := Aside0.mk (Fo.on (by (with_reducible repeat (first | exact HT.out | apply Fo.drew | apply Fo.drewN | apply Fo.alloc))) hb); clear hb; clear f00 e00 f01 e01 f02 e02 f03 e03 f04 e04 f05 e05 f10 e10 f11 e11 f12 e12 f13 e13 f14 e14 f20 e20 f21 e21 f22 e22 f23 e23 f24 e24 f30 e30 f31 e31 f32 e32 f33 e33 f34 e34; obtain ⟨f00, e00, f01, e01, f02, e02, f03, e03, f04, e04, f05, e05, f10, e10, f11, e11, f12, e12, f13, e13, f14, e14, f20, e20, f21, e21, f22, e22, f23, e23, f24, e24, f30, e30, f31, e31, f32, e32, f33, e33, f34, e34⟩ := fo_cells HT.out))
          go_meet
          exact ⟨by first | rfl | (rw [o1]; rfl) | (rw [o1, p1]; rfl) | (rw [o1, p1, p2]; rfl), Aside0.mk (by (with_reducible repeat (first | exact HT.out | apply Fo.drew | apply Fo.drewN | apply Fo.alloc)))⟩
        · have o1 : (op == 1) = false := by simpa using ho
          have o2 : decide (op = 1) = false := by simpa using ho
          cases y1
          · skip
            go_wp2_with (first | (go_at_call 46; (with_reducible refine (spec_GoodTerm.calls n op gv t0 t1 t2 ts _ _ h4).mono ?_); rintro e w3 ⟨rfl, hb⟩; replace HT := Aside0.mk (Fo.on (by (with_reducible repeat (first | exact HT.out | apply Fo.drew | apply Fo.drewN | apply Fo.alloc))) hb); clear hb; clear f00 e00 f01 e01 f02 e02 f03 e03 f04 e04 f05 e05 f10 e10 f11 e11 f12 e12 f13 e13 f14 e14 f20 e20 f21 e21 f22 e22 f23 e23 f24 e24 f30 e30 f31 e31 f32 e32 f33 e33 f34 e34; obtain ⟨f00, e00, f01, e01, f02, e02, f03, e03, f04, e04, f05, e05, f10, e10, f11, e11, f12, e12, f13, e13, f14, e14, f20, e20, f21, e21, f22, e22, f23, e23, f24, e24, f30, e30, f31, e31, f32, e32, f33, e33, f34, e34⟩ := fo_cells HT.out) | ((with_reducible refine gate_dst (N := 40) rfl ?_); (try (refine gate_guard (by rfl) ?_; dsimp only)); refine Kd.R_lit k24 _ 24 ?hg (N := 40) ?hd (xs := ([(⟨a, b, c, s, m⟩ : S24), (⟨a1, b1, c1, s1, m1⟩ : S24), (⟨a2, b2, c2, s2, m2⟩ : S24)] : List (S24))) (inner := [.int .u64 a, .int .u64 b, .int .u64 c, .string s, .string m, .int .u64 a1, .int .u64 b1, .int .u64 c1, .string s1, .string m1, .int .u64 a2, .int .u64 b2, .int .u64 c2, .string s2, .string m2]) (ok := fun _ => True) (okp := fun _ => True) ?hr ?hp (fun _ hk => hk) trivial (Below.refl _ _) (Nat.le_refl _) (by simp) ?_; (case hd => rfl); (case hg => rfl); (case hr => first | (go_simp; done) | (go_simp; rfl)); (case hp => exact (Reps.c5 (show Kd.M k24 _ _ _ (⟨a, b, c, s, m⟩ : S24) [.int .u64 a, .int .u64 b, .int .u64 c, .string s, .string m] from (k24_mkM _ _ _ (⟨a, b, c, s, m⟩ : S24) )) (Reps.c5 (show Kd.M k24 _ _ _ (⟨a1, b1, c1, s1, m1⟩ : S24) [.int .u64 a1, .int .u64 b1, .int .u64 c1, .string s1, .string m1] from (k24_mkM _ _ _ (⟨a1, b1, c1, s1, m1⟩ : S24) )) (Reps.c5 (show Kd.M k24 _ _ _ (⟨a2, b2, c2, s2, m2⟩ : S24) [.int .u64 a2, .int .u64 b2, .int .u64 c2, .string s2, .string m2] from (k24_mkM _ _ _ (⟨a2, b2, c2, s2, m2⟩ : S24) )) (Reps.none _ _))))); intro v193 w4 ho hb hg_ hnew_; clear hg_ hnew_; (first | rw [← NY.out] at ho | (simp only [Int.reduceToNat] at ho; rw [← NY.out] at ho)); have HO := Aside0.mk ho; clear ho; replace HT := Aside0.mk (Fo.on (by (with_reducible repeat (first | exact HT.out | apply Fo.drew | apply Fo.drewN | apply Fo.alloc))) hb); clear hb; clear f00 e00 f01 e01 f02 e02 f03 e03 f04 e04 f05 e05 f10 e10 f11 e11 f12 e12 f13 e13 f14 e14 f20 e20 f21 e21 f22 e22 f23 e23 f24 e24 f30 e30 f31 e31 f32 e32 f33 e33 f34 e34; obtain ⟨f00, e00, f01, e01, f02, e02, f03, e03, f04, e04, f05, e05, f10, e10, f11, e11, f12, e12, f13, e13, f14, e14, f20, e20, f21, e21, f22, e22, f23, e23, f24, e24, f30, e30, f31, e31, f32, e32, f33, e33, f34, e34⟩ := fo_cells HT.out; obtain ⟨Ao, co, eo⟩ := Kd.R_slice HO.out; subst eo) | (go_at_call 18; (with_reducible refine (laws_svGood.calls n _ _ yy _ _ ?side1 ?side2 h5).mono ?_); (case side1 => repeat (first | exact (Kd.R_reads' HO.out).2.2 | (with_reducible refine Kd.C_alloc ?_ _) | (with_reducible refine Kd.C_drewN ?_ _) | (with_reducible refine Kd.C_drew ?_))); (case side2 => exact (Kd.R_reads' HO.out).2.1); rintro e w5 ⟨rfl, hb⟩; replace HT := Aside0.mk (Fo.on (by (with_reducible repeat (first | exact HT.out | apply Fo.drew | apply Fo.drewN | apply Fo.alloc))) hb); clear hb; clear f00 e00 f01 e01 f02 e02 f03 e03 f04 e04 f05 e05 f10 e10 f11 e11 f12 e12 f13 e13 f14 e14 f20 e20 f21 e21 f22 e22 f23 e23 f24 e24 f30 e30 f31 e31 f32 e32 f33 e33 f34 e34; obtain ⟨f00, e00, f01, e01, f02, e02, f03, e03, f04, e04, f05, e05, f10, e10, f11, e11, f12, e12, f13, e13, f14, e14, f20, e20, f21, e21, f22, e22, f23, e23, f24, e24, f30, e30, f31, e31, f32, e32, f33, e33, f34, e34⟩ := fo_cells HT.out))
            go_meet
            exact ⟨by first | rfl | (rw [o1]; rfl) | (rw [o1, p1]; rfl) | (rw [o1, p1, p2]; rfl), Aside0.mk (by (with_reducible repeat (first | exact HT.out | apply Fo.drew | apply Fo.drewN | apply Fo.alloc)))⟩
          · skip
            by_cases hr4 : 0 < r1
            · have p1 : decide (0 < r1) = true := decide_eq_true hr4
              have p1' : decide (r1 > 0) = true := decide_eq_true hr4
              go_wp2_with (first | (go_at_call 46; (with_reducible refine (spec_GoodTerm.calls n op gv t0 t1 t2 ts _ _ h4).mono ?_); rintro e w3 ⟨rfl, hb⟩; replace HT := Aside0.mk (Fo.on (by (with_reducible repeat (first | exact HT.out | apply Fo.drew | apply Fo.drewN | apply Fo.alloc))) hb); clear hb; clear f00 e00 f01 e01 f02 e02 f03 e03 f04 e04 f05 e05 f10 e10 f11 e11 f12 e12 f13 e13 f14 e14 f20 e20 f21 e21 f22 e22 f23 e23 f24 e24 f30 e30 f31 e31 f32 e32 f33 e33 f34 e34; obtain ⟨f00, e00, f01, e01, f02, e02, f03, e03, f04, e04, f05, e05, f10, e10, f11, e11, f12, e12, f13, e13, f14, e14, f20, e20, f21, e21, f22, e22, f23, e23, f24, e24, f30, e30, f31, e31, f32, e32, f33, e33, f34, e34⟩ := fo_cells HT.out) | ((with_reducible refine gate_dst (N := 40) rfl ?_); (try (refine gate_guard (by rfl) ?_; dsimp only)); refine Kd.R_lit k24 _ 24 ?hg (N := 40) ?hd (xs := ([(⟨a, b, c, s, m⟩ : S24), (⟨a1, b1, c1, s1, m1⟩ : S24), (⟨a2, b2, c2, s2, m2⟩ : S24)] : List (S24))) (inner := [.int .u64 a, .int .u64 b, .int .u64 c, .string s, .string m, .int .u64 a1, .int .u64 b1, .int .u64 c1, .string s1, .string m1, .int .u64 a2, .int .u64 b2, .int .u64 c2, .string s2, .string m2]) (ok := fun _ => True) (okp := fun _ => True) ?hr ?hp (fun _ hk => hk) trivial (Below.refl _ _) (Nat.le_refl _) (by simp) ?_; (case hd => rfl); (case hg => rfl); (case hr => first | (go_simp; done) | (go_simp; rfl)); (case hp => exact (Reps.c5 (show Kd.M k24 _ _ _ (⟨a, b, c, s, m⟩ : S24) [.int .u64 a, .int .u64 b, .int .u64 c, .string s, .string m] from (k24_mkM _ _ _ (⟨a, b, c, s, m⟩ : S24) )) (Reps.c5 (show Kd.M k24 _ _ _ (⟨a1, b1, c1, s1, m1⟩ : S24) [.int .u64 a1, .int .u64 b1, .int .u64 c1, .string s1, .string m1] from (k24_mkM _ _ _ (⟨a1, b1, c1, s1, m1⟩ : S24) )) (Reps.c5 (show Kd.M k24 _ _ _ (⟨a2, b2, c2, s2, m2⟩ : S24) [.int .u64 a2, .int .u64 b2, .int .u64 c2, .string s2, .string m2] from (k24_mkM _ _ _ (⟨a2, b2, c2, s2, m2⟩ : S24) )) (Reps.none _ _))))); intro v193 w4 ho hb hg_ hnew_; clear hg_ hnew_; (first | rw [← NY.out] at ho | (simp only [Int.reduceToNat] at ho; rw [← NY.out] at ho)); have HO := Aside0.mk ho; clear ho; replace HT := Aside0.mk (Fo.on (by (with_reducible repeat (first | exact HT.out | apply Fo.drew | apply Fo.drewN | apply Fo.alloc))) hb); clear hb; clear f00 e00 f01 e01 f02 e02 f03 e03 f04 e04 f05 e05 f10 e10 f11 e11 f12 e12 f13 e13 f14 e14 f20 e20 f21 e21 f22 e22 f23 e23 f24 e24 f30 e30 f31 e31 f32 e32 f33 e33 f34 e34; obtain ⟨f00, e00, f01, e01, f02, e02, f03, e03, f04, e04, f05, e05, f10, e10, f11, e11, f12, e12, f13, e13, f14, e14, f20, e20, f21, e21, f22, e22, f23, e23, f24, e24, f30, e30, f31, e31, f32, e32, f33, e33, f34, e34⟩ := fo_cells HT.out; obtain ⟨Ao, co, eo⟩ := Kd.R_slice HO.out; subst eo) | (go_at_call 18; (with_reducible refine (laws_svGood.calls n _ _ yy _ _ ?side1 ?side2 h5).mono ?_); (case side1 => repeat (first | exact (Kd.R_reads' HO.out).2.2 | (with_reducible refine Kd.C_alloc ?_ _) | (with_reducible refine Kd.C_drewN ?_ _) | (with_reducible refine Kd.C_drew ?_))); (case side2 => exact (Kd.R_reads' HO.out).2.1); rintro e w5 ⟨rfl, hb⟩; replace HT := Aside0.mk (Fo.on (by (with_reducible repeat (first | exact HT.out | apply Fo.drew | apply Fo.drewN | apply Fo.alloc))) hb); clear hb; clear f00 e00 f01 e01 f02 e02 f03 e03 f04 e04 f05 e05 f10 e10 f11 e11 f12 e12 f13 e13 f14 e14 f20 e20 f21 e21 f22 e22 f23 e23 f24 e24 f30 e30 f31 e31 f32 e32 f33 e33 f34 e34; obtain ⟨f00, e00, f01, e01, f02, e02, f03, e03, f04, e04, f05, e05, f10, e10, f11, e11, f12, e12, f13, e13, f14, e14, f20, e20, f21, e21, f22, e22, f23, e23, f24, e24, f30, e30, f31, e31, f32, e32, f33, e33, f34, e34⟩ := fo_cells HT.out) | (go_at_call 47; (with_reducible refine (spec_Compare.calls n a b c s m a1 b1 c1 s1 m1 _ _ h6).mono ?_); rintro e w3 ⟨rfl, hb⟩; replace HT := Aside0.mk (Fo.on (by (with_reducible repeat (first | exact HT.out | apply Fo.drew | apply Fo.drewN | apply Fo.alloc))) hb); clear hb; clear f00 e00 f01 e01 f02 e02 f03 e03 f04 e04 f05 e05 f10 e10 f11 e11 f12 e12 f13 e13 f14 e14 f20 e20 f21 e21 f22 e22 f23 e23 f24 e24 f30 e30 f31 e31 f32 e32 f33 e33 f34 e34; obtain ⟨f00, e00, f01, e01, f02, e02, f03, e03, f04, e04, f05, e05, f10, e10, f11, e11, f12, e12, f13, e13, f14, e14, f20, e20, f21, e21, f22, e22, f23, e23, f24, e24, f30, e30, f31, e31, f32, e32, f33, e33, f34, e34⟩ := fo_cells HT.out))
              go_meet
              exact ⟨by first | rfl | (rw [o1]; rfl) | (rw [o1, p1]; rfl) | (rw [o1, p1, p2]; rfl), Aside0.mk (by (with_reducible repeat (first | exact HT.out | apply Fo.drew | apply Fo.drewN | apply Fo.alloc)))⟩
            · have p1 : decide (0 < r1) = false := decide_eq_false hr4
              have p1' : decide (r1 > 0) = false := decide_eq_false hr4
              by_cases hr5 : 0 < r2
              · have p2 : decide (0 < r2) = true := decide_eq_true hr5
                have p2' : decide (r2 > 0) = true := decide_eq_true hr5
                go_wp2_with (first | (go_at_call 46; (with_reducible refine (spec_GoodTerm.calls n op gv t0 t1 t2 ts _ _ h4).mono ?_); rintro e w3 ⟨rfl, hb⟩; replace HT := Aside0.mk (Fo.on (by (with_reducible repeat (first | exact HT.out | apply Fo.drew | apply Fo.drewN | apply Fo.alloc))) hb); clear hb; clear f00 e00 f01 e01 f02 e02 f03 e03 f04 e04 f05 e05 f10 e10 f11 e11 f12 e12 f13 e13 f14 e14 f20 e20 f21 e21 f22 e22 f23 e23 f24 e24 f30 e30 f31 e31 f32 e32 f33 e33 f34 e34; obtain ⟨f00, e00, f01, e01, f02, e02, f03, e03, f04, e04, f05, e05, f10, e10, f11, e11, f12, e12, f13, e13, f14, e14, f20, e20, f21, e21, f22, e22, f23, e23, f24, e24, f30, e30, f31, e31, f32, e32, f33, e33, f34, e34⟩ := fo_cells HT.out) | ((with_reducible refine gate_dst (N := 40) rfl ?_); (try (refine gate_guard (by rfl) ?_; dsimp only)); refine Kd.R_lit k24 _ 24 ?hg (N := 40) ?hd (xs := ([(⟨a, b, c, s, m⟩ : S24), (⟨a1, b1, c1, s1, m1⟩ : S24), (⟨a2, b2, c2, s2, m2⟩ : S24)] : List (S24))) (inner := [.int .u64 a, .int .u64 b, .int .u64 c, .string s, .string m, .int .u64 a1, .int .u64 b1, .int .u64 c1, .string s1, .string m1, .int .u64 a2, .int .u64 b2, .int .u64 c2, .string s2, .string m2]) (ok := fun _ => True) (okp := fun _ => True) ?hr ?hp (fun _ hk => hk) trivial (Below.refl _ _) (Nat.le_refl _) (by simp) ?_; (case hd => rfl); (case hg => rfl); (case hr => first | (go_simp; done) | (go_simp; rfl)); (case hp => exact (Reps.c5 (show Kd.M k24 _ _ _ (⟨a, b, c, s, m⟩ : S24) [.int .u64 a, .int .u64 b, .int .u64 c, .string s, .string m] from (k24_mkM _ _ _ (⟨a, b, c, s, m⟩ : S24) )) (Reps.c5 (show Kd.M k24 _ _ _ (⟨a1, b1, c1, s1, m1⟩ : S24) [.int .u64 a1, .int .u64 b1, .int .u64 c1, .string s1, .string m1] from (k24_mkM _ _ _ (⟨a1, b1, c1, s1, m1⟩ : S24) )) (Reps.c5 (show Kd.M k24 _ _ _ (⟨a2, b2, c2, s2, m2⟩ : S24) [.int .u64 a2, .int .u64 b2, .int .u64 c2, .string s2, .string m2] from (k24_mkM _ _ _ (⟨a2, b2, c2, s2, m2⟩ : S24) )) (Reps.none _ _))))); intro v193 w4 ho hb hg_ hnew_; clear hg_ hnew_; (first | rw [← NY.out] at ho | (simp only [Int.reduceToNat] at ho; rw [← NY.out] at ho)); have HO := Aside0.mk ho; clear ho; replace HT := Aside0.mk (Fo.on (by (with_reducible repeat (first | exact HT.out | apply Fo.drew | apply Fo.drewN | apply Fo.alloc))) hb); clear hb; clear f00 e00 f01 e01 f02 e02 f03 e03 f04 e04 f05 e05 f10 e10 f11 e11 f12 e12 f13 e13 f14 e14 f20 e20 f21 e21 f22 e22 f23 e23 f24 e24 f30 e30 f31 e31 f32 e32 f33 e33 f34 e34; obtain ⟨f00, e00, f01, e01, f02, e02, f03, e03, f04, e04, f05, e05, f10, e10, f11, e11, f12, e12, f13, e13, f14, e14, f20, e20, f21, e21, f22, e22, f23, e23, f24, e24, f30, e30, f31, e31, f32, e32, f33, e33, f34, e34⟩ := fo_cells HT.out; obtain ⟨Ao, co, eo⟩ := Kd.R_slice HO.out; subst eo) | (go_at_call 18; (with_reducible refine (laws_svGood.calls n _ _ yy _ _ ?side1 ?side2 h5).mono ?_); (case side1 => repeat (first | exact (Kd.R_reads' HO.out).2.2 | (with_reducible refine Kd.C_alloc ?_ _) | (with_reducible refine Kd.C_drewN ?_ _) | (with_reducible refine Kd.C_drew ?_))); (case side2 => exact (Kd.R_reads' HO.out).2.1); rintro e w5 ⟨rfl, hb⟩; replace HT := Aside0.mk (Fo.on (by (with_reducible repeat (first | exact HT.out | apply Fo.drew | apply Fo.drewN | apply Fo.alloc))) hb); clear hb; clear f00 e00 f01 e01 f02 e02 f03 e03 f04 e04 f05 e05 f10 e10 f11 e11 f12 e12 f13 e13 f14 e14 f20 e20 f21 e21 f22 e22 f23 e23 f24 e24 f30 e30 f31 e31 f32 e32 f33 e33 f34 e34; obtain ⟨f00, e00, f01, e01, f02, e02, f03, e03, f04, e04, f05, e05, f10, e10, f11, e11, f12, e12, f13, e13, f14, e14, f20, e20, f21, e21, f22, e22, f23, e23, f24, e24, f30, e30, f31, e31, f32, e32, f33, e33, f34, e34⟩ := fo_cells HT.out) | (go_at_call 47; (with_reducible refine (spec_Compare.calls n a b c s m a1 b1 c1 s1 m1 _ _ h6).mono ?_); rintro e w3 ⟨rfl, hb⟩; replace HT := Aside0.mk (Fo.on (by (with_reducible repeat (first | exact HT.out | apply Fo.drew | apply Fo.drewN | apply Fo.alloc))) hb); clear hb; clear f00 e00 f01 e01 f02 e02 f03 e03 f04 e04 f05 e05 f10 e10 f11 e11 f12 e12 f13 e13 f14 e14 f20 e20 f21 e21 f22 e22 f23 e23 f24 e24 f30 e30 f31 e31 f32 e32 f33 e33 f34 e34; obtain ⟨f00, e00, f01, e01, f02, e02, f03, e03, f04, e04, f05, e05, f10, e10, f11, e11, f12, e12, f13, e13, f14, e14, f20, e20, f21, e21, f22, e22, f23, e23, f24, e24, f30, e30, f31, e31, f32, e32, f33, e33, f34, e34⟩ := fo_cells HT.out) | (go_at_call 47; (with_reducible refine (spec_Compare.calls n a1 b1 c1 s1 m1 a2 b2 c2 s2 m2 _ _ h7).mono ?_); rintro e w3 ⟨rfl, hb⟩; replace HT := Aside0.mk (Fo.on (by (with_reducible repeat (first | exact HT.out | apply Fo.drew | apply Fo.drewN | apply Fo.alloc))) hb); clear hb; clear f00 e00 f01 e01 f02 e02 f03 e03 f04 e04 f05 e05 f10 e10 f11 e11 f12 e12 f13 e13 f14 e14 f20 e20 f21 e21 f22 e22 f23 e23 f24 e24 f30 e30 f31 e31 f32 e32 f33 e33 f34 e34; obtain ⟨f00, e00, f01, e01, f02, e02, f03, e03, f04, e04, f05, e05, f10, e10, f11, e11, f12, e12, f13, e13, f14, e14, f20, e20, f21, e21, f22, e22, f23, e23, f24, e24, f30, e30, f31, e31, f32, e32, f33, e33, f34, e34⟩ := fo_cells HT.out))
                go_meet
                exact ⟨by first | rfl | (rw [o1]; rfl) | (rw [o1, p1]; rfl) | (rw [o1, p1, p2]; rfl), Aside0.mk (by (with_reducible repeat (first | exact HT.out | apply Fo.drew | apply Fo.drewN | apply Fo.alloc)))⟩
              · have p2 : decide (0 < r2) = false := decide_eq_false hr5
                have p2' : decide (r2 > 0) = false := decide_eq_false hr5
                go_wp2_with (first | (go_at_call 46; (with_reducible refine (spec_GoodTerm.calls n op gv t0 t1 t2 ts _ _ h4).mono ?_); rintro e w3 ⟨rfl, hb⟩; replace HT := Aside0.mk (Fo.on (by (with_reducible repeat (first | exact HT.out | apply Fo.drew | apply Fo.drewN | apply Fo.alloc))) hb); clear hb; clear f00 e00 f01 e01 f02 e02 f03 e03 f04 e04 f05 e05 f10 e10 f11 e11 f12 e12 f13 e13 f14 e14 f20 e20 f21 e21 f22 e22 f23 e23 f24 e24 f30 e30 f31 e31 f32 e32 f33 e33 f34 e34; obtain ⟨f00, e00, f01, e01, f02, e02, f03, e03, f04, e04, f05, e05, f10, e10, f11, e11, f12, e12, f13, e13, f14, e14, f20, e20, f21, e21, f22, e22, f23, e23, f24, e24, f30, e30, f31, e31, f32, e32, f33, e33, f34, e34⟩ := fo_cells HT.out) | ((with_reducible refine gate_dst (N := 40) rfl ?_); (try (refine gate_guard (by rfl) ?_; dsimp only)); refine Kd.R_lit k24 _ 24 ?hg (N := 40) ?hd (xs := ([(⟨a, b, c, s, m⟩ : S24), (⟨a1, b1, c1, s1, m1⟩ : S24), (⟨a2, b2, c2, s2, m2⟩ : S24)] : List (S24))) (inner := [.int .u64 a, .int .u64 b, .int .u64 c, .string s, .string m, .int .u64 a1, .int .u64 b1, .int .u64 c1, .string s1, .string m1, .int .u64 a2, .int .u64 b2, .int .u64 c2, .string s2, .string m2]) (ok := fun _ => True) (okp := fun _ => True) ?hr ?hp (fun _ hk => hk) trivial (Below.refl _ _) (Nat.le_refl _) (by simp) ?_; (case hd => rfl); (case hg => rfl); (case hr => first | (go_simp; done) | (go_simp; rfl)); (case hp => exact (Reps.c5 (show Kd.M k24 _ _ _ (⟨a, b, c, s, m⟩ : S24) [.int .u64 a, .int .u64 b, .int .u64 c, .string s, .string m] from (k24_mkM _ _ _ (⟨a, b, c, s, m⟩ : S24) )) (Reps.c5 (show Kd.M k24 _ _ _ (⟨a1, b1, c1, s1, m1⟩ : S24) [.int .u64 a1, .int .u64 b1, .int .u64 c1, .string s1, .string m1] from (k24_mkM _ _ _ (⟨a1, b1, c1, s1, m1⟩ : S24) )) (Reps.c5 (show Kd.M k24 _ _ _ (⟨a2, b2, c2, s2, m2⟩ : S24) [.int .u64 a2, .int .u64 b2, .int .u64 c2, .string s2, .string m2] from (k24_mkM _ _ _ (⟨a2, b2, c2, s2, m2⟩ : S24) )) (Reps.none _ _))))); intro v193 w4 ho hb hg_ hnew_; clear hg_ hnew_; (first | rw [← NY.out] at ho | (simp only [Int.reduceToNat] at ho; rw [← NY.out] at ho)); have HO := Aside0.mk ho; clear ho; replace HT := Aside0.mk (Fo.on (by (with_reducible repeat (first | exact HT.out | apply Fo.drew | apply Fo.drewN | apply Fo.alloc))) hb); clear hb; clear f00 e00 f01 e01 f02 e02 f03 e03 f04 e04 f05 e05 f10 e10 f11 e11 f12 e12 f13 e13 f14 e14 f20 e20 f21 e21 f22 e22 f23 e23 f24 e24 f30 e30 f31 e31 f32 e32 f33 e33 f34 e34; obtain ⟨f00, e00, f01, e01, f02, e02, f03, e03, f04, e04, f05, e05, f10, e10, f11, e11, f12, e12, f13, e13, f14, e14, f20, e20, f21, e21, f22, e22, f23, e23, f24, e24, f30, e30, f31, e31, f32, e32, f33, e33, f34, e34⟩ := fo_cells HT.out; obtain ⟨Ao, co, eo⟩ := Kd.R_slice HO.out; subst eo) | (go_at_call 18; (with_reducible refine (laws_svGood.calls n _ _ yy _ _ ?side1 ?side2 h5).mono ?_); (case side1 => repeat (first | exact (Kd.R_reads' HO.out).2.2 | (with_reducible refine Kd.C_alloc ?_ _) | (with_reducible refine Kd.C_drewN ?_ _) | (with_reducible refine Kd.C_drew ?_))); (case side2 => exact (Kd.R_reads' HO.out).2.1); rintro e w5 ⟨rfl, hb⟩; replace HT := Aside0.mk (Fo.on (by (with_reducible repeat (first | exact HT.out | apply Fo.drew | apply Fo.drewN | apply Fo.alloc))) hb); clear hb; clear f00 e00 f01 e01 f02 e02 f03 e03 f04 e04 f05 e05 f10 e10 f11 e11 f12 e12 f13 e13 f14 e14 f20 e20 f21 e21 f22 e22 f23 e23 f24 e24 f30 e30 f31 e31 f32 e32 f33 e33 f34 e34; obtain ⟨f00, e00, f01, e01, f02, e02, f03, e03, f04, e04, f05, e05, f10, e10, f11, e11, f12, e12, f13, e13, f14, e14, f20, e20, f21, e21, f22, e22, f23, e23, f24, e24, f30, e30, f31, e31, f32, e32, f33, e33, f34, e34⟩ := fo_cells HT.out) | (go_at_call 47; (with_reducible refine (spec_Compare.calls n a b c s m a1 b1 c1 s1 m1 _ _ h6).mono ?_); rintro e w3 ⟨rfl, hb⟩; replace HT := Aside0.mk (Fo.on (by (with_reducible repeat (first | exact HT.out | apply Fo.drew | apply Fo.drewN | apply Fo.alloc))) hb); clear hb; clear f00 e00 f01 e01 f02 e02 f03 e03 f04 e04 f05 e05 f10 e10 f11 e11 f12 e12 f13 e13 f14 e14 f20 e20 f21 e21 f22 e22 f23 e23 f24 e24 f30 e30 f31 e31 f32 e32 f33 e33 f34 e34; obtain ⟨f00, e00, f01, e01, f02, e02, f03, e03, f04, e04, f05, e05, f10, e10, f11, e11, f12, e12, f13, e13, f14, e14, f20, e20, f21, e21, f22, e22, f23, e23, f24, e24, f30, e30, f31, e31, f32, e32, f33, e33, f34, e34⟩ := fo_cells HT.out) | (go_at_call 47; (with_reducible refine (spec_Compare.calls n a1 b1 c1 s1 m1 a2 b2 c2 s2 m2 _ _ h7).mono ?_); rintro e w3 ⟨rfl, hb⟩; replace HT := Aside0.mk (Fo.on (by (with_reducible repeat (first | exact HT.out | apply Fo.drew | apply Fo.drewN | apply Fo.alloc))) hb); clear hb; clear f00 e00 f01 e01 f02 e02 f03 e03 f04 e04 f05 e05 f10 e10 f11 e11 f12 e12 f13 e13 f14 e14 f20 e20 f21 e21 f22 e22 f23 e23 f24 e24 f30 e30 f31 e31 f32 e32 f33 e33 f34 e34; obtain ⟨f00, e00, f01, e01, f02, e02, f03, e03, f04, e04, f05, e05, f10, e10, f11, e11, f12, e12, f13, e13, f14, e14, f20, e20, f21, e21, f22, e22, f23, e23, f24, e24, f30, e30, f31, e31, f32, e32, f33, e33, f34, e34⟩ := fo_cells HT.out))
                go_meet
                exact ⟨by first | rfl | (rw [o1]; rfl) | (rw [o1, p1]; rfl) | (rw [o1, p1, p2]; rfl), Aside0.mk (by (with_reducible repeat (first | exact HT.out | apply Fo.drew | apply Fo.drewN | apply Fo.alloc)))⟩
    case rest =>
      obtain ⟨rfl, HT1⟩ := hcut
      clear HT
      have HT := HT1
      clear HT1
      cases hv : (!(y0 && (!(op == 1) && (y1 && (!(decide (0 < r1)) && !(decide (0 < r2)))))))
      · obtain ⟨ya, yb, yc, q0, q1, q2, q3, q4⟩ := hrest hv
        clear hrest hv h4 h5 h6 h7
        go_upto_region 5 with fail
        go_cut [9] (fun t W => t = .bool true ∧ Aside0 (Fo w w.heap.size (w.heap.size + 1) (w.heap.size + 2) (w.heap.size + 3) #[.int .i64 op, .int .i64 gv, .int .u64 t0, .int .u64 t1, .int .u64 t2, .string ts] #[.int .u64 a, .int .u64 b, .int .u64 c, .string s, .string m] #[.int .u64 a1, .int .u64 b1, .int .u64 c1, .string s1, .string m1] #[.int .u64 a2, .int .u64 b2, .int .u64 c2, .string s2, .string m2] W))
        case first =>
          by_cases ho2 : op = 2
          · subst ho2
            have q0' : impl_TermHolds.f n 2 gv t0 t1 t2 ts t0 t1 t2 ts (⟨#[]⟩ : ByteArray) true = some false := q0
            refine start_ (n := 14) (S := fun w' => w'.cell? ⟨w.heap.size, 0, none⟩ = some (.int .i64 2) ∧ w'.cell? ⟨w.heap.size, 1, none⟩ = some (.int .i64 gv) ∧ w'.cell? ⟨w.heap.size, 2, none⟩ = some (.int .u64 t0) ∧ w'.cell? ⟨w.heap.size, 3, none⟩ = some (.int .u64 t1) ∧ w'.cell? ⟨w.heap.size, 4, none⟩ = some (.int .u64 t2) ∧ w'.cell? ⟨w.heap.size, 5, none⟩ = some (.string ts) ∧ Aside0 (Fo w w.heap.size (w.heap.size + 1) (w.heap.size + 2) (w.heap.size + 3) #[.int .i64 2, .int .i64 gv, .int .u64 t0, .int .u64 t1, .int .u64 t2, .string ts] #[.int .u64 a, .int .u64 b, .int .u64 c, .string s, .string m] #[.int .u64 a1, .int .u64 b1, .int .u64 c1, .string s1, .string m1] #[.int .u64 a2, .int .u64 b2, .int .u64 c2, .string s2, .string m2] w')) (ds := []) #[false, false, false, false, false, false, false, false, false, false, false, false, false, false] (by kernel_rfl) rfl rfl (fo_held (HT.out.on (drew_below _))) (fun hHeld => ?_)
            refine pure_ (i := 4) (N := some 60) (v := ?_) (a' := ?_) #[false, false, false, false, true, false, false, false, false, false, false, false, false, false] rfl rfl (by kernel_rfl) (fun _ _ _ h => h) (Or.inl ⟨by rfl, ?_⟩) ?_ ?_
            rotate_left
            · intro w'
              go_simp
              with_reducible rfl
            rotate_left
            · simp only [Act.put, List.setIfInBounds_toArray, List.set_cons_zero, List.set_cons_succ, i64_w, i32_w]
              rfl
            refine take_ (i := 0) (N := some 56) (v := ?_) (a' := ?_) #[true, false, false, false, true, false, false, false, false, false, false, false, false, false] rfl rfl (by kernel_rfl) (fun _ _ _ h => h) (Or.inl ⟨by rfl, ?_⟩) hHeld ?_ ?_
            rotate_left
            · rintro w' ⟨s0, s1, s2, s3, s4, s5, s6⟩
              go_simp
              with_reducible rfl
            rotate_left
            · simp only [Act.put, List.setIfInBounds_toArray, List.set_cons_zero, List.set_cons_succ, i64_w, i32_w]
              rfl
            refine take_ (i := 1) (N := some 57) (v := ?_) (a' := ?_) #[true, true, false, false, true, false, false, false, false, false, false, false, false, false] rfl rfl (by kernel_rfl) (fun _ _ _ h => h) (Or.inl ⟨by rfl, ?_⟩) hHeld ?_ ?_
            rotate_left
            · rintro w' ⟨s0, s1, s2, s3, s4, s5, s6⟩
              go_simp
              with_reducible rfl
            rotate_left
            · simp only [Act.put, List.setIfInBounds_toArray, List.set_cons_zero, List.set_cons_succ, i64_w, i32_w]
              rfl
            refine take_ (i := 5) (N := some 61) (v := ?_) (a' := ?_) #[true, true, false, false, true, true, false, false, false, false, false, false, false, false] rfl rfl (by kernel_rfl) (fun _ _ _ h => h) (Or.inl ⟨by rfl, ?_⟩) hHeld ?_ ?_
            rotate_left
            · rintro w' ⟨s0, s1, s2, s3, s4, s5, s6⟩
              go_simp
              with_reducible rfl
            rotate_left
            · simp only [Act.put, List.setIfInBounds_toArray, List.set_cons_zero, List.set_cons_succ, i64_w, i32_w]
              rfl
            refine pure_ (i := 6) (N := some 62) (v := ?_) (a' := ?_) #[true, true, false, false, true, true, true, false, false, false, false, false, false, false] rfl rfl (by kernel_rfl) (fun _ _ _ h => h) (Or.inl ⟨by rfl, ?_⟩) ?_ ?_
            rotate_left
            · intro w'
              go_simp
              with_reducible rfl
            rotate_left
            · simp only [Act.put, List.setIfInBounds_toArray, List.set_cons_zero, List.set_cons_succ, i64_w, i32_w]
              rfl
            refine one_ (i := 2) (N := some 58) #[true, true, true, false, true, true, true, false, false, false, false, false, false, false] rfl rfl (by kernel_rfl) (by decide) (fun K hK => ?_)
            refine goes_ Tryd.func49 (by kernel_rfl) rfl #[.agg #[.int .i64 2, .int .i64 gv, .int .u64 t0, .int .u64 t1, .int .u64 t2, .string ts]] (by rfl) rfl rfl (by simp only [List.map_toArray, List.map_cons, List.map_nil]; rfl) ?_
            with_reducible refine (spec_Least.calls 2 gv t0 t1 t2 ts t0 t1 t2 ts (⟨#[]⟩ : ByteArray) _ rfl).mono ?_
            rintro e w3 ⟨rfl, hb⟩
            refine ⟨_, rfl, ?_⟩
            refine hK.out _ _ (fo_next hb hHeld) (fun hHeld => ?_)
            clear hK K
            refine norm_ (a' := ?_) ?_ ?_
            rotate_left
            · show Act.put _ (some 58) _ = _
              simp only [Act.put, List.setIfInBounds_toArray, List.set_cons_zero, List.set_cons_succ, i64_w, i32_w]
              rfl
            refine one_ (i := 3) (N := some 59) #[true, true, true, true, true, true, true, false, false, false, false, false, false, false] rfl rfl (by kernel_rfl) (by decide) (fun K hK => ?_)
            refine goes_ Tryd.func48 (by kernel_rfl) rfl #[.agg #[.int .i64 2, .int .i64 gv, .int .u64 t0, .int .u64 t1, .int .u64 t2, .string ts], .agg #[.int .u64 t0, .int .u64 t1, .int .u64 t2, .string ts, .string (⟨#[]⟩ : ByteArray)], .bool true] (by rfl) rfl rfl (by simp only [List.map_toArray, List.map_cons, List.map_nil]; rfl) ?_
            with_reducible refine (impl_TermHolds.calls n 2 gv t0 t1 t2 ts t0 t1 t2 ts (⟨#[]⟩ : ByteArray) true false _ (globE_below HG.out (Fo.bel (fo_last hHeld))) q0').mono ?_
            rintro e w3 ⟨rfl, hb⟩
            refine ⟨_, rfl, ?_⟩
            refine hK.out _ _ (fo_next hb hHeld) (fun hHeld => ?_)
            clear hK K
            refine norm_ (a' := ?_) ?_ ?_
            rotate_left
            · show Act.put _ (some 59) _ = _
              simp only [Act.put, List.setIfInBounds_toArray, List.set_cons_zero, List.set_cons_succ, i64_w, i32_w]
              rfl
            refine pure_ (i := 7) (N := some 63) (v := ?_) (a' := ?_) #[true, true, true, true, true, true, true, true, false, false, false, false, false, false] rfl rfl (by kernel_rfl) (fun _ _ _ h => h) (Or.inl ⟨by rfl, ?_⟩) ?_ ?_
            rotate_left
            · intro w'
              go_simp
              with_reducible rfl
            rotate_left
            · simp only [Act.put, List.setIfInBounds_toArray, List.set_cons_zero, List.set_cons_succ, i64_w, i32_w]
              rfl
            refine pure_ (i := 8) (N := some 64) (v := undef) (a' := ?_) #[true, true, true, true, true, true, true, true, true, false, false, false, false, false] rfl rfl (by kernel_rfl) (fun _ _ _ h => h) (Or.inr ⟨by rfl, rfl⟩) ?_ ?_
            rotate_left
            · simp only [Act.put, List.setIfInBounds_toArray, List.set_cons_zero, List.set_cons_succ, i64_w, i32_w]
              rfl
            refine pure_ (i := 9) (N := some 65) (v := undef) (a' := ?_) #[true, true, true, true, true, true, true, true, true, true, false, false, false, false] rfl rfl (by kernel_rfl) (fun _ _ _ h => h) (Or.inr ⟨by rfl, rfl⟩) ?_ ?_
            rotate_left
            · simp only [Act.put, List.setIfInBounds_toArray, List.set_cons_zero, List.set_cons_succ, i64_w, i32_w]
              rfl
            refine pure_ (i := 10) (N := some 66) (v := undef) (a' := ?_) #[true, true, true, true, true, true, true, true, true, true, true, false, false, false] rfl rfl (by kernel_rfl) (fun _ _ _ h => h) (Or.inr ⟨by rfl, rfl⟩) ?_ ?_
            rotate_left
            · simp only [Act.put, List.setIfInBounds_toArray, List.set_cons_zero, List.set_cons_succ, i64_w, i32_w]
              rfl
            refine pure_ (i := 11) (N := some 67) (v := ?_) (a' := ?_) #[true, true, true, true, true, true, true, true, true, true, true, true, false, false] rfl rfl (by kernel_rfl) (fun _ _ _ h => h) (Or.inl ⟨by rfl, ?_⟩) ?_ ?_
            rotate_left
            · intro w'
              go_simp
              with_reducible rfl
            rotate_left
            · simp only [Act.put, List.setIfInBounds_toArray, List.set_cons_zero, List.set_cons_succ, i64_w, i32_w]
              rfl
            refine pure_ (i := 12) (N := some 68) (v := ?_) (a' := ?_) #[true, true, true, true, true, true, true, true, true, true, true, true, true, false] rfl rfl (by kernel_rfl) (fun _ _ _ h => h) (Or.inl ⟨by rfl, ?_⟩) ?_ ?_
            rotate_left
            · intro w'
              go_simp
              with_reducible rfl
            rotate_left
            · simp only [Act.put, List.setIfInBounds_toArray, List.set_cons_zero, List.set_cons_succ, i64_w, i32_w]
              rfl
            refine pure_ (i := 13) (N := some 9) (v := ?_) (a' := ?_) #[true, true, true, true, true, true, true, true, true, true, true, true, true, true] rfl rfl (by kernel_rfl) (fun _ _ _ h => h) (Or.inl ⟨by rfl, ?_⟩) ?_ ?_
            rotate_left
            · intro w'
              go_simp
              with_reducible rfl
            rotate_left
            · simp only [Act.put, List.setIfInBounds_toArray, List.set_cons_zero, List.set_cons_succ, i64_w, i32_w]
              rfl
            refine done_ (by kernel_rfl) ?_
            go_wp2_with fail
            go_meet
            exact ⟨by first | rfl | simp, Aside0.mk (fo_last hHeld)⟩
          · have o2 : (op == 2) = false := by simpa using ho2
            have o2' : (op != 2) = true := by simpa using ho2
            by_cases ho3 : op = 3
            · subst ho3
              have q0' : impl_TermHolds.f n 3 gv t0 t1 t2 ts t0 t1 t2 ts (⟨#[]⟩ : ByteArray) true = some false := q0
              refine start_ (n := 14) (S := fun w' => w'.cell? ⟨w.heap.size, 0, none⟩ = some (.int .i64 3) ∧ w'.cell? ⟨w.heap.size, 1, none⟩ = some (.int .i64 gv) ∧ w'.cell? ⟨w.heap.size, 2, none⟩ = some (.int .u64 t0) ∧ w'.cell? ⟨w.heap.size, 3, none⟩ = some (.int .u64 t1) ∧ w'.cell? ⟨w.heap.size, 4, none⟩ = some (.int .u64 t2) ∧ w'.cell? ⟨w.heap.size, 5, none⟩ = some (.string ts) ∧ Aside0 (Fo w w.heap.size (w.heap.size + 1) (w.heap.size + 2) (w.heap.size + 3) #[.int .i64 3, .int .i64 gv, .int .u64 t0, .int .u64 t1, .int .u64 t2, .string ts] #[.int .u64 a, .int .u64 b, .int .u64 c, .string s, .string m] #[.int .u64 a1, .int .u64 b1, .int .u64 c1, .string s1, .string m1] #[.int .u64 a2, .int .u64 b2, .int .u64 c2, .string s2, .string m2] w')) (ds := []) #[false, false, false, false, false, false, false, false, false, false, false, false, false, false] (by kernel_rfl) rfl rfl (fo_held (HT.out.on (drew_below _))) (fun hHeld => ?_)
              refine pure_ (i := 4) (N := some 60) (v := ?_) (a' := ?_) #[false, false, false, false, true, false, false, false, false, false, false, false, false, false] rfl rfl (by kernel_rfl) (fun _ _ _ h => h) (Or.inl ⟨by rfl, ?_⟩) ?_ ?_
              rotate_left
              · intro w'
                go_simp
                with_reducible rfl
              rotate_left
              · simp only [Act.put, List.setIfInBounds_toArray, List.set_cons_zero, List.set_cons_succ, i64_w, i32_w]
                rfl
              refine take_ (i := 0) (N := some 56) (v := ?_) (a' := ?_) #[true, false, false, false, true, false, false, false, false, false, false, false, false, false] rfl rfl (by kernel_rfl) (fun _ _ _ h => h) (Or.inl ⟨by rfl, ?_⟩) hHeld ?_ ?_
              rotate_left
              · rintro w' ⟨s0, s1, s2, s3, s4, s5, s6⟩
                go_simp
                with_reducible rfl
              rotate_left
              · simp only [Act.put, List.setIfInBounds_toArray, List.set_cons_zero, List.set_cons_succ, i64_w, i32_w]
                rfl
              refine take_ (i := 1) (N := some 57) (v := ?_) (a' := ?_) #[true, true, false, false, true, false, false, false, false, false, false, false, false, false] rfl rfl (by kernel_rfl) (fun _ _ _ h => h) (Or.inl ⟨by rfl, ?_⟩) hHeld ?_ ?_
              rotate_left
              · rintro w' ⟨s0, s1, s2, s3, s4, s5, s6⟩
                go_simp
                with_reducible rfl
              rotate_left
              · simp only [Act.put, List.setIfInBounds_toArray, List.set_cons_zero, List.set_cons_succ, i64_w, i32_w]
                rfl
              refine take_ (i := 5) (N := some 61) (v := ?_) (a' := ?_) #[true, true, false, false, true, true, false, false, false, false, false, false, false, false] rfl rfl (by kernel_rfl) (fun _ _ _ h => h) (Or.inl ⟨by rfl, ?_⟩) hHeld ?_ ?_
              rotate_left
              · rintro w' ⟨s0, s1, s2, s3, s4, s5, s6⟩
                go_simp
                with_reducible rfl
              rotate_left
              · simp only [Act.put, List.setIfInBounds_toArray, List.set_cons_zero, List.set_cons_succ, i64_w, i32_w]
                rfl
              refine pure_ (i := 6) (N := some 62) (v := ?_) (a' := ?_) #[true, true, false, false, true, true, true, false, false, false, false, false, false, false] rfl rfl (by kernel_rfl) (fun _ _ _ h => h) (Or.inl ⟨by rfl, ?_⟩) ?_ ?_
              rotate_left
              · intro w'
                go_simp
                with_reducible rfl
              rotate_left
              · simp only [Act.put, List.setIfInBounds_toArray, List.set_cons_zero, List.set_cons_succ, i64_w, i32_w]
                rfl
              refine one_ (i := 2) (N := some 58) #[true, true, true, false, true, true, true, false, false, false, false, false, false, false] rfl rfl (by kernel_rfl) (by decide) (fun K hK => ?_)
              refine goes_ Tryd.func49 (by kernel_rfl) rfl #[.agg #[.int .i64 3, .int .i64 gv, .int .u64 t0, .int .u64 t1, .int .u64 t2, .string ts]] (by rfl) rfl rfl (by simp only [List.map_toArray, List.map_cons, List.map_nil]; rfl) ?_
              with_reducible refine (spec_Least.calls 3 gv t0 t1 t2 ts t0 t1 t2 ts (⟨#[]⟩ : ByteArray) _ rfl).mono ?_
              rintro e w3 ⟨rfl, hb⟩
              refine ⟨_, rfl, ?_⟩
              refine hK.out _ _ (fo_next hb hHeld) (fun hHeld => ?_)
              clear hK K
              refine norm_ (a' := ?_) ?_ ?_
              rotate_left
              · show Act.put _ (some 58) _ = _
                simp only [Act.put, List.setIfInBounds_toArray, List.set_cons_zero, List.set_cons_succ, i64_w, i32_w]
                rfl
              refine one_ (i := 3) (N := some 59) #[true, true, true, true, true, true, true, false, false, false, false, false, false, false] rfl rfl (by kernel_rfl) (by decide) (fun K hK => ?_)
              refine goes_ Tryd.func48 (by kernel_rfl) rfl #[.agg #[.int .i64 3, .int .i64 gv, .int .u64 t0, .int .u64 t1, .int .u64 t2, .string ts], .agg #[.int .u64 t0, .int .u64 t1, .int .u64 t2, .string ts, .string (⟨#[]⟩ : ByteArray)], .bool true] (by rfl) rfl rfl (by simp only [List.map_toArray, List.map_cons, List.map_nil]; rfl) ?_
              with_reducible refine (impl_TermHolds.calls n 3 gv t0 t1 t2 ts t0 t1 t2 ts (⟨#[]⟩ : ByteArray) true false _ (globE_below HG.out (Fo.bel (fo_last hHeld))) q0').mono ?_
              rintro e w3 ⟨rfl, hb⟩
              refine ⟨_, rfl, ?_⟩
              refine hK.out _ _ (fo_next hb hHeld) (fun hHeld => ?_)
              clear hK K
              refine norm_ (a' := ?_) ?_ ?_
              rotate_left
              · show Act.put _ (some 59) _ = _
                simp only [Act.put, List.setIfInBounds_toArray, List.set_cons_zero, List.set_cons_succ, i64_w, i32_w]
                rfl
              refine pure_ (i := 7) (N := some 63) (v := ?_) (a' := ?_) #[true, true, true, true, true, true, true, true, false, false, false, false, false, false] rfl rfl (by kernel_rfl) (fun _ _ _ h => h) (Or.inl ⟨by rfl, ?_⟩) ?_ ?_
              rotate_left
              · intro w'
                go_simp
                with_reducible rfl
              rotate_left
              · simp only [Act.put, List.setIfInBounds_toArray, List.set_cons_zero, List.set_cons_succ, i64_w, i32_w]
                rfl
              refine pure_ (i := 8) (N := some 64) (v := ?_) (a' := ?_) #[true, true, true, true, true, true, true, true, true, false, false, false, false, false] rfl rfl (by kernel_rfl) (fun _ _ _ h => h) (Or.inl ⟨by rfl, ?_⟩) ?_ ?_
              rotate_left
              · intro w'
                go_simp
                with_reducible rfl
              rotate_left
              · simp only [Act.put, List.setIfInBounds_toArray, List.set_cons_zero, List.set_cons_succ, i64_w, i32_w]
                rfl
              refine take_ (i := 9) (N := some 65) (v := ?_) (a' := ?_) #[true, true, true, true, true, true, true, true, true, true, false, false, false, false] rfl rfl (by kernel_rfl) (fun _ _ _ h => h) (Or.inl ⟨by rfl, ?_⟩) hHeld ?_ ?_
              rotate_left
              · rintro w' ⟨s0, s1, s2, s3, s4, s5, s6⟩
                go_simp
                with_reducible rfl
              rotate_left
              · simp only [Act.put, List.setIfInBounds_toArray, List.set_cons_zero, List.set_cons_succ, i64_w, i32_w]
                rfl
              refine pure_ (i := 10) (N := some 66) (v := ?_) (a' := ?_) #[true, true, true, true, true, true, true, true, true, true, true, false, false, false] rfl rfl (by kernel_rfl) (fun _ _ _ h => h) (Or.inl ⟨by rfl, ?_⟩) ?_ ?_
              rotate_left
              · intro w'
                go_simp
                with_reducible rfl
              rotate_left
              · simp only [Act.put, List.setIfInBounds_toArray, List.set_cons_zero, List.set_cons_succ, i64_w, i32_w]
                rfl
              refine pure_ (i := 11) (N := some 67) (v := ?_) (a' := ?_) #[true, true, true, true, true, true, true, true, true, true, true, true, false, false] rfl rfl (by kernel_rfl) (fun _ _ _ h => h) (Or.inl ⟨by rfl, ?_⟩) ?_ ?_
              rotate_left
              · intro w'
                go_simp
                with_reducible rfl
              rotate_left
              · simp only [Act.put, List.setIfInBounds_toArray, List.set_cons_zero, List.set_cons_succ, i64_w, i32_w]
                rfl
              refine pure_ (i := 12) (N := some 68) (v := ?_) (a' := ?_) #[true, true, true, true, true, true, true, true, true, true, true, true, true, false] rfl rfl (by kernel_rfl) (fun _ _ _ h => h) (Or.inl ⟨by rfl, ?_⟩) ?_ ?_
              rotate_left
              · intro w'
                go_simp
                with_reducible rfl
              rotate_left
              · simp only [Act.put, List.setIfInBounds_toArray, List.set_cons_zero, List.set_cons_succ, i64_w, i32_w]
                rfl
              refine pure_ (i := 13) (N := some 9) (v := ?_) (a' := ?_) #[true, true, true, true, true, true, true, true, true, true, true, true, true, true] rfl rfl (by kernel_rfl) (fun _ _ _ h => h) (Or.inl ⟨by rfl, ?_⟩) ?_ ?_
              rotate_left
              · intro w'
                go_simp
                with_reducible rfl
              rotate_left
              · simp only [Act.put, List.setIfInBounds_toArray, List.set_cons_zero, List.set_cons_succ, i64_w, i32_w]
                rfl
              refine done_ (by kernel_rfl) ?_
              go_wp2_with fail
              go_meet
              exact ⟨by first | rfl | simp, Aside0.mk (fo_last hHeld)⟩
            · have o3 : (op == 3) = false := by simpa using ho3
              have o3' : (op != 3) = true := by simpa using ho3
              have q0' : impl_TermHolds.f n op gv t0 t1 t2 ts t0 t1 t2 ts (⟨#[]⟩ : ByteArray) true = some true := by rw [q0, o2', o3']; rfl
              refine start_ (n := 14) (S := fun w' => w'.cell? ⟨w.heap.size, 0, none⟩ = some (.int .i64 op) ∧ w'.cell? ⟨w.heap.size, 1, none⟩ = some (.int .i64 gv) ∧ w'.cell? ⟨w.heap.size, 2, none⟩ = some (.int .u64 t0) ∧ w'.cell? ⟨w.heap.size, 3, none⟩ = some (.int .u64 t1) ∧ w'.cell? ⟨w.heap.size, 4, none⟩ = some (.int .u64 t2) ∧ w'.cell? ⟨w.heap.size, 5, none⟩ = some (.string ts) ∧ Aside0 (Fo w w.heap.size (w.heap.size + 1) (w.heap.size + 2) (w.heap.size + 3) #[.int .i64 op, .int .i64 gv, .int .u64 t0, .int .u64 t1, .int .u64 t2, .string ts] #[.int .u64 a, .int .u64 b, .int .u64 c, .string s, .string m] #[.int .u64 a1, .int .u64 b1, .int .u64 c1, .string s1, .string m1] #[.int .u64 a2, .int .u64 b2, .int .u64 c2, .string s2, .string m2] w')) (ds := []) #[false, false, false, false, false, false, false, false, false, false, false, false, false, false] (by kernel_rfl) rfl rfl (fo_held (HT.out.on (drew_below _))) (fun hHeld => ?_)
              refine pure_ (i := 4) (N := some 60) (v := ?_) (a' := ?_) #[false, false, false, false, true, false, false, false, false, false, false, false, false, false] rfl rfl (by kernel_rfl) (fun _ _ _ h => h) (Or.inl ⟨by rfl, ?_⟩) ?_ ?_
              rotate_left
              · intro w'
                go_simp
                with_reducible rfl
              rotate_left
              · simp only [Act.put, List.setIfInBounds_toArray, List.set_cons_zero, List.set_cons_succ, i64_w, i32_w]
                rfl
              refine take_ (i := 0) (N := some 56) (v := ?_) (a' := ?_) #[true, false, false, false, true, false, false, false, false, false, false, false, false, false] rfl rfl (by kernel_rfl) (fun _ _ _ h => h) (Or.inl ⟨by rfl, ?_⟩) hHeld ?_ ?_
              rotate_left
              · rintro w' ⟨s0, s1, s2, s3, s4, s5, s6⟩
                go_simp
                with_reducible rfl
              rotate_left
              · simp only [Act.put, List.setIfInBounds_toArray, List.set_cons_zero, List.set_cons_succ, i64_w, i32_w]
                rfl
              refine take_ (i := 1) (N := some 57) (v := ?_) (a' := ?_) #[true, true, false, false, true, false, false, false, false, false, false, false, false, false] rfl rfl (by kernel_rfl) (fun _ _ _ h => h) (Or.inl ⟨by rfl, ?_⟩) hHeld ?_ ?_
              rotate_left
              · rintro w' ⟨s0, s1, s2, s3, s4, s5, s6⟩
                go_simp
                with_reducible rfl
              rotate_left
              · simp only [Act.put, List.setIfInBounds_toArray, List.set_cons_zero, List.set_cons_succ, i64_w, i32_w]
                rfl
              refine take_ (i := 5) (N := some 61) (v := ?_) (a' := ?_) #[true, true, false, false, true, true, false, false, false, false, false, false, false, false] rfl rfl (by kernel_rfl) (fun _ _ _ h => h) (Or.inl ⟨by rfl, ?_⟩) hHeld ?_ ?_
              rotate_left
              · rintro w' ⟨s0, s1, s2, s3, s4, s5, s6⟩
                go_simp
                with_reducible rfl
              rotate_left
              · simp only [Act.put, List.setIfInBounds_toArray, List.set_cons_zero, List.set_cons_succ, i64_w, i32_w]
                rfl
              refine pure_ (i := 6) (N := some 62) (v := ?_) (a' := ?_) #[true, true, false, false, true, true, true, false, false, false, false, false, false, false] rfl rfl (by kernel_rfl) (fun _ _ _ h => h) (Or.inl ⟨by rfl, ?_⟩) ?_ ?_
              rotate_left
              · intro w'
                go_simp
                with_reducible rfl
              rotate_left
              · simp only [Act.put, List.setIfInBounds_toArray, List.set_cons_zero, List.set_cons_succ, i64_w, i32_w]
                rfl
              refine one_ (i := 2) (N := some 58) #[true, true, true, false, true, true, true, false, false, false, false, false, false, false] rfl rfl (by kernel_rfl) (by decide) (fun K hK => ?_)
              refine goes_ Tryd.func49 (by kernel_rfl) rfl #[.agg #[.int .i64 op, .int .i64 gv, .int .u64 t0, .int .u64 t1, .int .u64 t2, .string ts]] (by rfl) rfl rfl (by simp only [List.map_toArray, List.map_cons, List.map_nil]; rfl) ?_
              with_reducible refine (spec_Least.calls op gv t0 t1 t2 ts t0 t1 t2 ts (⟨#[]⟩ : ByteArray) _ rfl).mono ?_
              rintro e w3 ⟨rfl, hb⟩
              refine ⟨_, rfl, ?_⟩
              refine hK.out _ _ (fo_next hb hHeld) (fun hHeld => ?_)
              clear hK K
              refine norm_ (a' := ?_) ?_ ?_
              rotate_left
              · show Act.put _ (some 58) _ = _
                simp only [Act.put, List.setIfInBounds_toArray, List.set_cons_zero, List.set_cons_succ, i64_w, i32_w]
                rfl
              refine one_ (i := 3) (N := some 59) #[true, true, true, true, true, true, true, false, false, false, false, false, false, false] rfl rfl (by kernel_rfl) (by decide) (fun K hK => ?_)
              refine goes_ Tryd.func48 (by kernel_rfl) rfl #[.agg #[.int .i64 op, .int .i64 gv, .int .u64 t0, .int .u64 t1, .int .u64 t2, .string ts], .agg #[.int .u64 t0, .int .u64 t1, .int .u64 t2, .string ts, .string (⟨#[]⟩ : ByteArray)], .bool true] (by rfl) rfl rfl (by simp only [List.map_toArray, List.map_cons, List.map_nil]; rfl) ?_
              with_reducible refine (impl_TermHolds.calls n op gv t0 t1 t2 ts t0 t1 t2 ts (⟨#[]⟩ : ByteArray) true true _ (globE_below HG.out (Fo.bel (fo_last hHeld))) q0').mono ?_
              rintro e w3 ⟨rfl, hb⟩
              refine ⟨_, rfl, ?_⟩
              refine hK.out _ _ (fo_next hb hHeld) (fun hHeld => ?_)
              clear hK K
              refine norm_ (a' := ?_) ?_ ?_
              rotate_left
              · show Act.put _ (some 59) _ = _
                simp only [Act.put, List.setIfInBounds_toArray, List.set_cons_zero, List.set_cons_succ, i64_w, i32_w]
                rfl
              refine pure_ (i := 7) (N := some 63) (v := ?_) (a' := ?_) #[true, true, true, true, true, true, true, true, false, false, false, false, false, false] rfl rfl (by kernel_rfl) (fun _ _ _ h => h) (Or.inl ⟨by rfl, ?_⟩) ?_ ?_
              rotate_left
              · intro w'
                go_simp
                with_reducible rfl
              rotate_left
              · simp only [Act.put, List.setIfInBounds_toArray, List.set_cons_zero, List.set_cons_succ, i64_w, i32_w]
                rfl
              refine pure_ (i := 8) (N := some 64) (v := ?_) (a' := ?_) #[true, true, true, true, true, true, true, true, true, false, false, false, false, false] rfl rfl (by kernel_rfl) (fun _ _ _ h => h) (Or.inl ⟨by rfl, ?_⟩) ?_ ?_
              rotate_left
              · intro w'
                go_simp
                with_reducible rfl
              rotate_left
              · simp only [Act.put, List.setIfInBounds_toArray, List.set_cons_zero, List.set_cons_succ, i64_w, i32_w]
                rfl
              refine take_ (i := 9) (N := some 65) (v := ?_) (a' := ?_) #[true, true, true, true, true, true, true, true, true, true, false, false, false, false] rfl rfl (by kernel_rfl) (fun _ _ _ h => h) (Or.inl ⟨by rfl, ?_⟩) hHeld ?_ ?_
              rotate_left
              · rintro w' ⟨s0, s1, s2, s3, s4, s5, s6⟩
                go_simp
                with_reducible rfl
              rotate_left
              · simp only [Act.put, List.setIfInBounds_toArray, List.set_cons_zero, List.set_cons_succ, i64_w, i32_w]
                rfl
              refine pure_ (i := 10) (N := some 66) (v := ?_) (a' := ?_) #[true, true, true, true, true, true, true, true, true, true, true, false, false, false] rfl rfl (by kernel_rfl) (fun _ _ _ h => h) (Or.inl ⟨by rfl, ?_⟩) ?_ ?_
              rotate_left
              · intro w'
                go_simp
                with_reducible rfl
              rotate_left
              · simp only [Act.put, List.setIfInBounds_toArray, List.set_cons_zero, List.set_cons_succ, i64_w, i32_w]
                rfl
              refine pure_ (i := 11) (N := some 67) (v := ?_) (a' := ?_) #[true, true, true, true, true, true, true, true, true, true, true, true, false, false] rfl rfl (by kernel_rfl) (fun _ _ _ h => h) (Or.inl ⟨by rfl, ?_⟩) ?_ ?_
              rotate_left
              · intro w'
                go_simp
                with_reducible rfl
              rotate_left
              · simp only [Act.put, List.setIfInBounds_toArray, List.set_cons_zero, List.set_cons_succ, i64_w, i32_w]
                rfl
              refine pure_ (i := 12) (N := some 68) (v := ?_) (a' := ?_) #[true, true, true, true, true, true, true, true, true, true, true, true, true, false] rfl rfl (by kernel_rfl) (fun _ _ _ h => h) (Or.inl ⟨by rfl, ?_⟩) ?_ ?_
              rotate_left
              · intro w'
                go_simp
                with_reducible rfl
              rotate_left
              · simp only [Act.put, List.setIfInBounds_toArray, List.set_cons_zero, List.set_cons_succ, i64_w, i32_w]
                rfl
              refine pure_ (i := 13) (N := some 9) (v := ?_) (a' := ?_) #[true, true, true, true, true, true, true, true, true, true, true, true, true, true] rfl rfl (by kernel_rfl) (fun _ _ _ h => h) (Or.inl ⟨by rfl, ?_⟩) ?_ ?_
              rotate_left
              · intro w'
                go_simp
                with_reducible rfl
              rotate_left
              · simp only [Act.put, List.setIfInBounds_toArray, List.set_cons_zero, List.set_cons_succ, i64_w, i32_w]
                rfl
              refine done_ (by kernel_rfl) ?_
              go_wp2_with fail
              go_meet
              exact ⟨by first | rfl | simp, Aside0.mk (fo_last hHeld)⟩
        case rest =>
          obtain ⟨rfl, HT1⟩ := hcut
          clear HT
          have HT := HT1
          clear HT1
          obtain ⟨f00, e00, f01, e01, f02, e02, f03, e03, f04, e04, f05, e05, f10, e10, f11, e11, f12, e12, f13, e13, f14, e14, f20, e20, f21, e21, f22, e22, f23, e23, f24, e24, f30, e30, f31, e31, f32, e32, f33, e33, f34, e34⟩ := fo_cells HT.out
          cases ya
          · skip
            go_wp2_with (first | (go_at_call 48; (with_reducible refine (impl_TermHolds.calls n op gv t0 t1 t2 ts a b c s m true _ _ (globE_below HG.out (Fo.bel (by (with_reducible repeat (first | exact HT.out | apply Fo.drew | apply Fo.drewN | apply Fo.alloc))))) q1).mono ?_); rintro e w3 ⟨rfl, hb⟩; replace HT := Aside0.mk (Fo.on (by (with_reducible repeat (first | exact HT.out | apply Fo.drew | apply Fo.drewN | apply Fo.alloc))) hb); clear hb; clear f00 e00 f01 e01 f02 e02 f03 e03 f04 e04 f05 e05 f10 e10 f11 e11 f12 e12 f13 e13 f14 e14 f20 e20 f21 e21 f22 e22 f23 e23 f24 e24 f30 e30 f31 e31 f32 e32 f33 e33 f34 e34; obtain ⟨f00, e00, f01, e01, f02, e02, f03, e03, f04, e04, f05, e05, f10, e10, f11, e11, f12, e12, f13, e13, f14, e14, f20, e20, f21, e21, f22, e22, f23, e23, f24, e24, f30, e30, f31, e31, f32, e32, f33, e33, f34, e34⟩ := fo_cells HT.out))
            go_ret
            refine ⟨by first | rfl | simp, Fo.bel (g0 := w.heap.size) (g1 := (w.heap.size + 1)) (g2 := (w.heap.size + 2)) (g3 := (w.heap.size + 3)) (t := #[.int .i64 op, .int .i64 gv, .int .u64 t0, .int .u64 t1, .int .u64 t2, .string ts]) (x := #[.int .u64 a, .int .u64 b, .int .u64 c, .string s, .string m]) (y := #[.int .u64 a1, .int .u64 b1, .int .u64 c1, .string s1, .string m1]) (z := #[.int .u64 a2, .int .u64 b2, .int .u64 c2, .string s2, .string m2]) ?_⟩
            exact (by (with_reducible repeat (first | exact HT.out | apply Fo.drew | apply Fo.drewN | apply Fo.alloc)))
          · skip
            cases yc
            · skip
              go_wp2_with (first | (go_at_call 48; (with_reducible refine (impl_TermHolds.calls n op gv t0 t1 t2 ts a b c s m true _ _ (globE_below HG.out (Fo.bel (by (with_reducible repeat (first | exact HT.out | apply Fo.drew | apply Fo.drewN | apply Fo.alloc))))) q1).mono ?_); rintro e w3 ⟨rfl, hb⟩; replace HT := Aside0.mk (Fo.on (by (with_reducible repeat (first | exact HT.out | apply Fo.drew | apply Fo.drewN | apply Fo.alloc))) hb); clear hb; clear f00 e00 f01 e01 f02 e02 f03 e03 f04 e04 f05 e05 f10 e10 f11 e11 f12 e12 f13 e13 f14 e14 f20 e20 f21 e21 f22 e22 f23 e23 f24 e24 f30 e30 f31 e31 f32 e32 f33 e33 f34 e34; obtain ⟨f00, e00, f01, e01, f02, e02, f03, e03, f04, e04, f05, e05, f10, e10, f11, e11, f12, e12, f13, e13, f14, e14, f20, e20, f21, e21, f22, e22, f23, e23, f24, e24, f30, e30, f31, e31, f32, e32, f33, e33, f34, e34⟩ := fo_cells HT.out) | (go_at_call 48; (with_reducible refine (impl_TermHolds.calls n op gv t0 t1 t2 ts a2 b2 c2 s2 m2 true _ _ (globE_below HG.out (Fo.bel (by (with_reducible repeat (first | exact HT.out | apply Fo.drew | apply Fo.drewN | apply Fo.alloc))))) q3).mono ?_); rintro e w3 ⟨rfl, hb⟩; replace HT := Aside0.mk (Fo.on (by (with_reducible repeat (first | exact HT.out | apply Fo.drew | apply Fo.drewN | apply Fo.alloc))) hb); clear hb; clear f00 e00 f01 e01 f02 e02 f03 e03 f04 e04 f05 e05 f10 e10 f11 e11 f12 e12 f13 e13 f14 e14 f20 e20 f21 e21 f22 e22 f23 e23 f24 e24 f30 e30 f31 e31 f32 e32 f33 e33 f34 e34; obtain ⟨f00, e00, f01, e01, f02, e02, f03, e03, f04, e04, f05, e05, f10, e10, f11, e11, f12, e12, f13, e13, f14, e14, f20, e20, f21, e21, f22, e22, f23, e23, f24, e24, f30, e30, f31, e31, f32, e32, f33, e33, f34, e34⟩ := fo_cells HT.out))
              go_ret
              refine ⟨by first | rfl | simp, Fo.bel (g0 := w.heap.size) (g1 := (w.heap.size + 1)) (g2 := (w.heap.size + 2)) (g3 := (w.heap.size + 3)) (t := #[.int .i64 op, .int .i64 gv, .int .u64 t0, .int .u64 t1, .int .u64 t2, .string ts]) (x := #[.int .u64 a, .int .u64 b, .int .u64 c, .string s, .string m]) (y := #[.int .u64 a1, .int .u64 b1, .int .u64 c1, .string s1, .string m1]) (z := #[.int .u64 a2, .int .u64 b2, .int .u64 c2, .string s2, .string m2]) ?_⟩
              exact (by (with_reducible repeat (first | exact HT.out | apply Fo.drew | apply Fo.drewN | apply Fo.alloc)))
            · skip
              cases yb
              · skip
                simp at q4
              · skip
                go_wp2_with (first | (go_at_call 48; (with_reducible refine (impl_TermHolds.calls n op gv t0 t1 t2 ts a b c s m true _ _ (globE_below HG.out (Fo.bel (by (with_reducible repeat (first | exact HT.out | apply Fo.drew | apply Fo.drewN | apply Fo.alloc))))) q1).mono ?_); rintro e w3 ⟨rfl, hb⟩; replace HT := Aside0.mk (Fo.on (by (with_reducible repeat (first | exact HT.out | apply Fo.drew | apply Fo.drewN | apply Fo.alloc))) hb); clear hb; clear f00 e00 f01 e01 f02 e02 f03 e03 f04 e04 f05 e05 f10 e10 f11 e11 f12 e12 f13 e13 f14 e14 f20 e20 f21 e21 f22 e22 f23 e23 f24 e24 f30 e30 f31 e31 f32 e32 f33 e33 f34 e34; obtain ⟨f00, e00, f01, e01, f02, e02, f03, e03, f04, e04, f05, e05, f10, e10, f11, e11, f12, e12, f13, e13, f14, e14, f20, e20, f21, e21, f22, e22, f23, e23, f24, e24, f30, e30, f31, e31, f32, e32, f33, e33, f34, e34⟩ := fo_cells HT.out) | (go_at_call 48; (with_reducible refine (impl_TermHolds.calls n op gv t0 t1 t2 ts a2 b2 c2 s2 m2 true _ _ (globE_below HG.out (Fo.bel (by (with_reducible repeat (first | exact HT.out | apply Fo.drew | apply Fo.drewN | apply Fo.alloc))))) q3).mono ?_); rintro e w3 ⟨rfl, hb⟩; replace HT := Aside0.mk (Fo.on (by (with_reducible repeat (first | exact HT.out | apply Fo.drew | apply Fo.drewN | apply Fo.alloc))) hb); clear hb; clear f00 e00 f01 e01 f02 e02 f03 e03 f04 e04 f05 e05 f10 e10 f11 e11 f12 e12 f13 e13 f14 e14 f20 e20 f21 e21 f22 e22 f23 e23 f24 e24 f30 e30 f31 e31 f32 e32 f33 e33 f34 e34; obtain ⟨f00, e00, f01, e01, f02, e02, f03, e03, f04, e04, f05, e05, f10, e10, f11, e11, f12, e12, f13, e13, f14, e14, f20, e20, f21, e21, f22, e22, f23, e23, f24, e24, f30, e30, f31, e31, f32, e32, f33, e33, f34, e34⟩ := fo_cells HT.out) | (go_at_call 48; (with_reducible refine (impl_TermHolds.calls n op gv t0 t1 t2 ts a1 b1 c1 s1 m1 true _ _ (globE_below HG.out (Fo.bel (by (with_reducible repeat (first | exact HT.out | apply Fo.drew | apply Fo.drewN | apply Fo.alloc))))) q2).mono ?_); rintro e w3 ⟨rfl, hb⟩; replace HT := Aside0.mk (Fo.on (by (with_reducible repeat (first | exact HT.out | apply Fo.drew | apply Fo.drewN | apply Fo.alloc))) hb); clear hb; clear f00 e00 f01 e01 f02 e02 f03 e03 f04 e04 f05 e05 f10 e10 f11 e11 f12 e12 f13 e13 f14 e14 f20 e20 f21 e21 f22 e22 f23 e23 f24 e24 f30 e30 f31 e31 f32 e32 f33 e33 f34 e34; obtain ⟨f00, e00, f01, e01, f02, e02, f03, e03, f04, e04, f05, e05, f10, e10, f11, e11, f12, e12, f13, e13, f14, e14, f20, e20, f21, e21, f22, e22, f23, e23, f24, e24, f30, e30, f31, e31, f32, e32, f33, e33, f34, e34⟩ := fo_cells HT.out))
                go_ret
                refine ⟨by first | rfl | simp, Fo.bel (g0 := w.heap.size) (g1 := (w.heap.size + 1)) (g2 := (w.heap.size + 2)) (g3 := (w.heap.size + 3)) (t := #[.int .i64 op, .int .i64 gv, .int .u64 t0, .int .u64 t1, .int .u64 t2, .string ts]) (x := #[.int .u64 a, .int .u64 b, .int .u64 c, .string s, .string m]) (y := #[.int .u64 a1, .int .u64 b1, .int .u64 c1, .string s1, .string m1]) (z := #[.int .u64 a2, .int .u64 b2, .int .u64 c2, .string s2, .string m2]) ?_⟩
                exact (by (with_reducible repeat (first | exact HT.out | apply Fo.drew | apply Fo.drewN | apply Fo.alloc)))
      · skip
        go_wp2
        go_ret
        refine ⟨rfl, Fo.bel (g0 := w.heap.size) (g1 := (w.heap.size + 1)) (g2 := (w.heap.size + 2)) (g3 := (w.heap.size + 3)) (t := #[.int .i64 op, .int .i64 gv, .int .u64 t0, .int .u64 t1, .int .u64 t2, .string ts]) (x := #[.int .u64 a, .int .u64 b, .int .u64 c, .string s, .string m]) (y := #[.int .u64 a1, .int .u64 b1, .int .u64 c1, .string s1, .string m1]) (z := #[.int .u64 a2, .int .u64 b2, .int .u64 c2, .string s2, .string m2]) ?_⟩
        exact (by (with_reducible repeat (first | exact HT.out | apply Fo.drew | apply Fo.drewN | apply Fo.alloc)))

end Go.Proofs.YtlooelfkkbgmhaaDoor
