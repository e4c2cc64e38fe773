/-
  SpecSchedule.Next: its frame, its world, its code in parts.
-/
import Derived.Test.YtdgglkihiibmhaaSeek
set_option linter.unusedVariables false
set_option linter.unusedSimpArgs false
namespace Go.Proofs.Ytdgglkihiibmhaa
open Go Go.RowKit Cal Go.Proofs.YtdgglkihiibmhaaW.PrintLast

/-- the function's frame -/
def FR (p T a5 q : Nat) (tv : Value) (yl : Int) (ad : Bool) (u : Nat → Value) : Act := { tmps := #[Value.pointer (some ⟨p, 0, none⟩), tv, u 2, Value.pointer (some ⟨T, 0, none⟩), Value.pointer (some ⟨T + 1, 0, none⟩), Value.pointer (some ⟨a5, 0, none⟩), Value.pointer (some ⟨q, 0, none⟩), Value.bool ad, Value.int .i64 yl, u 9, u 10, u 11, u 12, u 13, u 14, u 15, u 16, u 17, u 18, u 19, u 20, u 21, u 22, u 23, u 24, u 25, u 26, u 27, u 28, u 29, u 30, u 31, u 32, u 33, u 34, u 35, u 36, u 37, u 38, u 39, u 40, u 41, u 42, u 43, u 44, u 45, u 46, u 47, u 48, u 49, u 50, u 51, u 52, u 53, u 54, u 55, u 56, u 57, u 58, u 59, u 60, u 61, u 62, u 63, u 64, u 65, u 66, u 67, u 68, u 69, u 70, u 71, u 72, u 73, u 74, u 75, u 76, u 77, u 78, u 79, u 80, u 81, u 82, u 83, u 84, u 85, u 86, u 87, u 88, u 89, u 90, u 91, u 92, u 93, u 94, u 95, u 96, u 97, u 98, u 99, u 100, u 101, u 102, u 103, u 104, u 105, u 106, u 107, u 108, u 109, u 110, u 111, u 112, u 113, u 114, u 115, u 116, u 117, u 118, u 119, u 120, u 121, u 122, u 123, u 124, u 125, u 126, u 127, u 128, u 129, u 130, u 131, u 132, u 133, u 134, u 135, u 136, u 137, u 138, u 139, u 140, u 141, u 142, u 143, u 144, u 145, u 146, u 147, u 148, u 149, u 150, u 151, u 152, u 153, u 154, u 155, u 156, u 157, u 158, u 159, u 160, u 161, u 162, u 163, u 164, u 165, u 166, u 167, u 168, u 169, u 170, u 171], defers := [] }
theorem fr_q {R : Act → World → Prop} {p T a5 q : Nat} {tv : Value} {yl : Int} {ad : Bool} {a : Act} {W : World} (he : a = FR p T a5 q tv yl ad (fun k => a.tmps.getD k undef)) (h : ∀ u, R (FR p T a5 q tv yl ad u) W) : R a W := by rw [he]; exact h _
/-- what varies in the search: the frame's other slots, whether a field was moved, the time -/
structure Nx where
  u : Nat → Value
  ad : Bool
  x : Int
abbrev FN (p T a5 q : Nat) (tv : Value) (yl : Int) (i : Nx) : Act := FR p T a5 q tv yl i.ad i.u
theorem fr_j {p T a5 q : Nat} {tv : Value} {yl : Int} {a : Act} {W : World} {I : Nx → World → Prop} (ad : Bool) (x : Int) (he : a = FR p T a5 q tv yl ad (fun k => a.tmps.getD k undef)) (h : ∀ u, I ⟨u, ad, x⟩ W) : ∃ j, a = FN p T a5 q tv yl j ∧ I j W := ⟨⟨_, ad, x⟩, he, h _⟩
theorem wp_loop_fam {P : Program} {Q : Exit → Act → World → Prop} {c : Code} (F : Nx → Act) (I : Nx → World → Prop) (m : World → Nat) {i : Nx} {w : World} (h0 : I i w)
    (round : ∀ i w, I i w → c.wp P (Exit.then (fun a' w' => (∃ j, a' = F j ∧ I j w') ∧ m w' < m w) Q) (F i) w) : (Code.loop c).wp P Q (F i) w := by
  refine wp_loop (fun a w => ∃ i, a = F i ∧ I i w) (fun _ w => m w) ⟨i, rfl, h0⟩ ?_
  rintro a w ⟨j, rfl, hj⟩
  exact round j w hj
/-- the world of the search: the schedule, the time, the room of the result, two places -/
abbrev NW (w : World) (p a5 q : Nat) (f : Six) (x : Int) (w' : World) : Prop :=
  w'.cell? ⟨p, 0, none⟩ = some (.int .u64 f.se) ∧ w'.cell? ⟨p, 1, none⟩ = some (.int .u64 f.mi) ∧ w'.cell? ⟨p, 2, none⟩ = some (.int .u64 f.ho) ∧ w'.cell? ⟨p, 3, none⟩ = some (.int .u64 f.dom) ∧ w'.cell? ⟨p, 4, none⟩ = some (.int .u64 f.mo) ∧ w'.cell? ⟨p, 5, none⟩ = some (.int .u64 f.dow) ∧ w'.cell? ⟨p, 6, none⟩ = some (.pointer none) ∧ w'.cell? ⟨w.heap.size, 0, none⟩ = some (.int .u64 0) ∧ w'.cell? ⟨w.heap.size, 1, none⟩ = some (.int .i64 x) ∧ w'.cell? ⟨w.heap.size, 2, none⟩ = some (.pointer none) ∧ w'.frozen? ⟨w.heap.size, 0, none⟩ = false ∧ w'.frozen? ⟨w.heap.size, 1, none⟩ = false ∧ w'.frozen? ⟨w.heap.size, 2, none⟩ = false ∧ R3 (w.heap.size + 1) w' ∧ w'.cell? ⟨a5, 0, none⟩ = some (.bool true) ∧ w'.heap[q]? = some utcO ∧ Hid (p < w.heap.size ∧ w.heap.size + 1 < a5 ∧ w.heap.size + 1 < q) ∧ Hid (Below w.heap.size w w')
theorem nw_on {w : World} {p a5 q : Nat} {f : Six} {x : Int} {W W' : World} (hb : Below W.heap.size W W') (h : NW w p a5 q f x W) : NW w p a5 q f x W' := by
  obtain ⟨a0, a1, a2, a3, a4, a5, a6, a7, a8, a9, a10, a11, a12, a13, a14, a15, a16, a17⟩ := h
  exact ⟨cell_on hb a0, cell_on hb a1, cell_on hb a2, cell_on hb a3, cell_on hb a4, cell_on hb a5, cell_on hb a6, cell_on hb a7, cell_on hb a8, cell_on hb a9, frozen_on hb (World.block_lt_of_cell? _ _ a7) a10, frozen_on hb (World.block_lt_of_cell? _ _ a8) a11, frozen_on hb (World.block_lt_of_cell? _ _ a9) a12, r3_on hb a13, cell_on hb a14, blk_on hb a15, a16, Lib.hid (bl_on a17.out hb)⟩
theorem nw_set {w : World} {p a5 q : Nat} {f : Six} {x y : Int} {W : World} (h : NW w p a5 q f x W) : NW w p a5 q f y (put3 W w.heap.size 0 y) := by
  obtain ⟨a0, a1, a2, a3, a4, a5, a6, a7, a8, a9, a10, a11, a12, a13, a14, a15, a16, a17⟩ := h
  obtain ⟨h1, h2, h3⟩ := a16.out
  obtain ⟨j0, j1, j2⟩ := put3_get (n := .int .u64 0) (x := .int .i64 y) (e := .pointer none) a7 a8 a9
  obtain ⟨r0, r1, r2, g0, g1, g2⟩ := a13
  have fz : ∀ i, W.frozen? ⟨w.heap.size, i, none⟩ = false → (put3 W w.heap.size 0 y).frozen? ⟨w.heap.size, i, none⟩ = false := by
    intro i hi
    unfold put3
    go_simp
  have fr : ∀ i, W.frozen? ⟨w.heap.size + 1, i, none⟩ = false → (put3 W w.heap.size 0 y).frozen? ⟨w.heap.size + 1, i, none⟩ = false := by
    intro i hi
    unfold put3
    go_simp
  have hq : (put3 W w.heap.size 0 y).heap[q]? = W.heap[q]? := by
    unfold put3
    rw [Below.heap_setCell _ _ _ _ (by show q ≠ w.heap.size; omega), Below.heap_setCell _ _ _ _ (by show q ≠ w.heap.size; omega), Below.heap_setCell _ _ _ _ (by show q ≠ w.heap.size; omega)]
  exact ⟨cell_room3 (by simp; omega) a0, cell_room3 (by simp; omega) a1, cell_room3 (by simp; omega) a2, cell_room3 (by simp; omega) a3, cell_room3 (by simp; omega) a4, cell_room3 (by simp; omega) a5, cell_room3 (by simp; omega) a6, j0, j1, j2, fz 0 a10, fz 1 a11, fz 2 a12, ⟨i0_of (cell_room3 (by simp) r0), i0_of (cell_room3 (by simp) r1), cell_room3 (by simp) r2, fr 0 g0, fr 1 g1, fr 2 g2⟩, cell_room3 (by simp; omega) a14, hq.trans a15, a16, Lib.hid (bl_set (bl_set (bl_set a17.out (Nat.le_refl _) _) (Nat.le_refl _) _) (Nat.le_refl _) _)⟩
theorem nw_x {w : World} {p a5 q : Nat} {f : Six} {x : Int} {W : World} (h : NW w p a5 q f x W) : i0 W ⟨w.heap.size, 1, none⟩ = x := by
  have h8 := h.2.2.2.2.2.2.2.2.1
  unfold i0
  rw [h8]
theorem nw_q {w : World} {p a5 q : Nat} {f : Six} {x : Int} {W : World} (h : NW w p a5 q f x W) : W.heap[q]? = some utcO := h.2.2.2.2.2.2.2.2.2.2.2.2.2.2.2.1

/-- the code, and its parts -/
def tlC : Code → Code
  | .seq _ b => b
  | c => c
def hdC : Code → Code
  | .seq a _ => a
  | c => c
def scC : Code → Code
  | .scope c => c
  | c => c
def blC : Code → Code
  | .block _ c => c
  | c => c
def loC : Code → Code
  | .loop c => c
  | c => c
noncomputable def nxC : Code := scC (tlC (Try.f86.body.getD .skip))
noncomputable def nxR : Code := (findLabel nxC 0).getD .skip
noncomputable def nxA : Code := hdC (tlC nxR)
noncomputable def nxM : Code := hdC (tlC (tlC nxR))
noncomputable def nxD : Code := hdC (tlC (tlC (tlC nxR)))
noncomputable def nxH : Code := hdC (tlC (tlC (tlC (tlC nxR))))
noncomputable def nxI : Code := hdC (tlC (tlC (tlC (tlC (tlC nxR)))))
noncomputable def nxS : Code := hdC (tlC (tlC (tlC (tlC (tlC (tlC nxR))))))
noncomputable def nxE : Code := tlC (tlC (tlC (tlC (tlC (tlC (tlC nxR))))))
theorem bit_eqb (S : Nat) (k : Int) (hS : S < 2 ^ 64) (k0 : 0 ≤ k) (k1 : k < 64) : decide (bits .and .u64 (IntKind.u64.wrap (2 ^ min (IntKind.u64.wrap k).toNat 64)) (S : Int) = 0) = !hb S k := by
  have h := bit_eq S k hS k0 k1
  cases hh : hb S k
  · rw [hh] at h
    exact decide_eq_true (h.mpr rfl)
  · rw [hh] at h
    exact decide_eq_false (fun c => absurd (h.mp c) (by decide))
theorem bit_eqq (S : Nat) (k : Int) (hS : S < 2 ^ 64) (k0 : 0 ≤ k) (k1 : k < 64) : (bits .and .u64 (IntKind.u64.wrap (2 ^ min (IntKind.u64.wrap k).toNat 64)) (S : Int) == 0) = !hb S k := by
  rw [← bit_eqb S k hS k0 k1]
  rfl
end Go.Proofs.Ytdgglkihiibmhaa
