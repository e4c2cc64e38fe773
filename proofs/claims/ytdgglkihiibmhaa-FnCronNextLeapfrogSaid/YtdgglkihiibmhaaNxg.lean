/-
  SpecSchedule.Next: one pass from the label on.
-/
import Derived.Test.YtdgglkihiibmhaaNxf
set_option linter.unusedVariables false
set_option linter.unusedSimpArgs false
namespace Go.Proofs.Ytdgglkihiibmhaa
open Go Go.RowKit Cal Go.Proofs.YtdgglkihiibmhaaW.PrintLast

theorem nw_loc {w : World} {p a5 q : Nat} {f : Six} {x : Int} {W : World} (h : NW w p a5 q f x W) : W.cell? ⟨a5, 0, none⟩ = some (.bool true) := h.2.2.2.2.2.2.2.2.2.2.2.2.2.2.1
theorem nw_room {w : World} {p a5 q : Nat} {f : Six} {x : Int} {W : World} (h : NW w p a5 q f x W) : R3 (w.heap.size + 1) W := h.2.2.2.2.2.2.2.2.2.2.2.2.2.1
theorem nw_t {w : World} {p a5 q : Nat} {f : Six} {x : Int} {W : World} (h : NW w p a5 q f x W) : W.cell? ⟨w.heap.size, 0, none⟩ = some (.int .u64 0) ∧ W.cell? ⟨w.heap.size, 1, none⟩ = some (.int .i64 x) ∧ W.cell? ⟨w.heap.size, 2, none⟩ = some (.pointer none) := ⟨h.2.2.2.2.2.2.2.1, h.2.2.2.2.2.2.2.2.1, h.2.2.2.2.2.2.2.2.2.1⟩
set_option maxRecDepth 1000000 in
set_option maxHeartbeats 4000000 in
theorem nx_end (w : World) (p a5 q : Nat) (f : Six) (tv : Value) (yl x : Int) (ad : Bool) (u : Nat → Value) (W : World) (x0 : 0 ≤ x) (x1 : x ≤ 900000000000) (hW : NW w p a5 q f x W) (R : Exit → Act → World → Prop)
    (hF : ∀ u W', NW w p a5 q f x W' → R .ret (FR p w.heap.size a5 q tv yl ad u) (put3 W' (w.heap.size + 1) 0 x)) : Code.wp Try.prog nxE R (FR p w.heap.size a5 q tv yl ad u) W := by
  have HS := Lib.hid hW
  have HF := Lib.hid hF
  obtain ⟨k0, k1, k2⟩ := nw_t hW
  obtain ⟨-, -, -, f0, f1, f2⟩ := nw_room hW
  clear hW hF
  refine Code.wp_mono (NoPanic.imp (Q := R)) ?_
  conv => arg 2; whnf
  unfold FR
  go_wp2_with (go_at_call 45; refine (In_any 0 x a5 _ (by omega) (by omega) (nw_loc HS.out)).mono ?_; rintro e w3 ⟨rfl, hb⟩; have H3 := Lib.hid (nw_on hb HS.out); obtain ⟨r0, r1, r2, f0, f1, f2⟩ := nw_room H3.out; clear hb)
  refine fr_q (R := NoPanic R .ret) (p := p) (T := w.heap.size) (a5 := a5) (q := q) (tv := tv) (yl := yl) (ad := ad) (by kernel_rfl) (fun u => ?_)
  exact HF.out u _ H3.out
set_option maxRecDepth 1000000 in
set_option maxHeartbeats 4000000 in
theorem nx_head (w : World) (p a5 q : Nat) (f : Six) (tv : Value) (yl x : Int) (ad : Bool) (u : Nat → Value) (W : World) (x0 : 0 ≤ x) (x1 : x ≤ 900000000000) (hW : NW w p a5 q f x W) (R : Exit → Act → World → Prop)
    (hN : ∀ u W', NW w p a5 q f x W' → Yx x ≤ yl → R .normal (FR p w.heap.size a5 q tv yl ad u) W')
    (hZ : ∀ u W', NW w p a5 q f x W' → yl < Yx x → R .ret (FR p w.heap.size a5 q tv yl ad u) (put3 W' (w.heap.size + 1) 0 0)) : Code.wp Try.prog nxA R (FR p w.heap.size a5 q tv yl ad u) W := by
  have HS := Lib.hid hW
  have HN := Lib.hid hN
  have HZ := Lib.hid hZ
  obtain ⟨k0, k1, k2⟩ := nw_t hW
  clear hW hN hZ
  refine Code.wp_mono (NoPanic.imp (Q := R)) ?_
  conv => arg 2; whnf
  unfold FR
  cases hj : decide (yl < Yx x)
  all_goals
    have HJ := Lib.hid hj
    go_wp2_with (go_at_call 88; refine (Year_any 0 x _ (by omega) (by omega) x0 (by omega)).mono ?_; rintro e w3 ⟨rfl, hb⟩; have H3 := Lib.hid (nw_on hb HS.out); obtain ⟨r0, r1, r2, f0, f1, f2⟩ := nw_room H3.out; clear hb)
  · refine fr_q (R := NoPanic R .normal) (p := p) (T := w.heap.size) (a5 := a5) (q := q) (tv := tv) (yl := yl) (ad := ad) (by kernel_rfl) (fun u => ?_)
    exact HN.out u _ H3.out (by have := of_decide_eq_false HJ.out; omega)
  · refine fr_q (R := NoPanic R .ret) (p := p) (T := w.heap.size) (a5 := a5) (q := q) (tv := tv) (yl := yl) (ad := ad) (by kernel_rfl) (fun u => ?_)
    exact HZ.out u _ H3.out (of_decide_eq_true HJ.out)
theorem nx_pass (w : World) (p a5 q : Nat) (f : Six) (tv : Value) (s l : Int) (l1 : l ≤ 20000) (R : Exit → Act → World → Prop) (i : Nx) (W : World) (hW : NW w p a5 q f i.x W) (hA : At f s l i.ad i.x)
    (hZ : ∀ u ad W', NW w p a5 q f i.x W' → l < Yx i.x → R .ret (FR p w.heap.size a5 q tv l ad u) (put3 W' (w.heap.size + 1) 0 0))
    (hF : ∀ u ad x W', NW w p a5 q f x W' → In f s l ad x → fits f x = true → R .ret (FR p w.heap.size a5 q tv l ad u) (put3 W' (w.heap.size + 1) 0 x))
    (hG : ∀ u x W', NW w p a5 q f x W' → At f s l true x → i.x < x → R (.goto 0) (FR p w.heap.size a5 q tv l true u) W') :
    Code.wp Try.prog (tlC nxR) R (FN p w.heap.size a5 q tv l i) W := by
  have hx0 : 0 ≤ i.x := by have := hA.lo; have := hA.s0; omega
  have hx1 : i.x ≤ 900000000000 := by have := hA.hi; have := by_hi l l1; omega
  show Code.wp Try.prog (.seq nxA (.seq nxM (.seq nxD (.seq nxH (.seq nxI (.seq nxS nxE)))))) R _ W
  refine wp_seq (nx_head w p a5 q f tv l i.x i.ad i.u W hx0 hx1 hW _ (fun u W1 h1 hy => ?_) (fun u W1 h1 hy => hZ u _ W1 h1 hy))
  have hI : In f s l i.ad i.x := ⟨hA, (by_iff i.x l hx0).1 hy⟩
  refine wp_seq (mo_loop w p a5 q f tv s l i.x l1 (Exit.then (Code.wp Try.prog _ R) R) (fun u ad x W2 h2 hI2 hx2 hm => ?_) (fun u x W2 h2 hA2 hx2 => hG u x W2 h2 hA2 hx2) ⟨u, i.ad, i.x⟩ W1 h1 hI (Int.le_refl _))
  refine wp_seq (da_loop w p a5 q f tv s l i.x l1 (Exit.then (Code.wp Try.prog _ R) R) (fun u ad x W2 h2 hI2 hx2 hm hd => ?_) (fun u x W2 h2 hA2 hx2 => hG u x W2 h2 hA2 hx2) ⟨u, ad, x⟩ W2 h2 hI2 hx2 hm)
  refine wp_seq (ho_loop w p a5 q f tv s l i.x l1 (Exit.then (Code.wp Try.prog _ R) R) (fun u ad x W2 h2 hI2 hx2 hm hd => ?_) (fun u x W2 h2 hA2 hx2 => hG u x W2 h2 hA2 hx2) ⟨u, ad, x⟩ W2 h2 hI2 hx2 ⟨hm, hd⟩)
  refine wp_seq (mi_loop w p a5 q f tv s l i.x l1 (Exit.then (Code.wp Try.prog _ R) R) (fun u ad x W2 h2 hI2 hx2 hm hd => ?_) (fun u x W2 h2 hA2 hx2 => hG u x W2 h2 hA2 hx2) ⟨u, ad, x⟩ W2 h2 hI2 hx2 ⟨hm.1, hm.2, hd⟩)
  refine wp_seq (se_loop w p a5 q f tv s l i.x l1 (Exit.then (Code.wp Try.prog _ R) R) (fun u ad x W2 h2 hI2 hx2 hm hd => ?_) (fun u x W2 h2 hA2 hx2 => hG u x W2 h2 hA2 hx2) ⟨u, ad, x⟩ W2 h2 hI2 hx2 ⟨hm.1, hm.2.1, hm.2.2, hd⟩)
  have hf : fits f x = true := by
    unfold fits
    rw [hm.1, hm.2.1, hm.2.2.1, hm.2.2.2, hd]
    rfl
  refine nx_end w p a5 q f tv l x ad u W2 (by have := hI2.lo; have := hI2.s0; omega) (by have := hI2.lt; have := by_hi l l1; omega) h2 _ (fun u W3 h3 => hF u ad x W3 h3 hI2 hf)
end Go.Proofs.Ytdgglkihiibmhaa
