/-
  Words of mine beside the print's: an empty row made with room ahead: make([]T, 0, n). Plain: over any program.
-/
import Derived.Test.YtlooelfkkbgmhaaDoorU
import Derived.Laws.MakeOwn
namespace Go.Proofs.YtlooelfkkbgmhaaDoorW.PrintWords
open Go Go.RowKit
/-- of two whole numbers the lesser, the greater -/
theorem min_pair (ats : Array TypeId) (ty : TypeId) (k k' : IntKind) (x y : Int) : Builtin.min_ ats ty #[.int k x, .int k' y] = pure (.int k (if y < x then y else x)) := by
  simp [Builtin.min_, Builtin.min2]
theorem max_pair (ats : Array TypeId) (ty : TypeId) (k k' : IntKind) (x y : Int) : Builtin.max_ ats ty #[.int k x, .int k' y] = pure (.int k (if x < y then y else x)) := by
  simp [Builtin.max_, Builtin.max2]
/-- the lesser, the greater of two whole numbers -/
def mn (x y : Int) : Int := if y < x then y else x
def mx (x y : Int) : Int := if x < y then y else x
section
variable {P : Program} {ops : Array Oper} {rest : List Oper} {o : Oper} {a : Act} {Q : Exit → Act → World → Prop} {W : World}
/-- a step for one callee alone: a look ahead of a dear step -/
theorem only_callee {f : FuncId} {as : Array Operand} {ts : Array TypeId} (_c : o.op = .call { callee := .value (.func f), args := as, argTypes := ts }) (goal : wpList P ops Q (o :: rest) a W) : wpList P ops Q (o :: rest) a W := goal
theorem only_builtin {b : Builtin} {xs : Array Operand} {ts : Array TypeId} (_c : o.op = .call { callee := .builtin b, args := xs, argTypes := ts }) (goal : wpList P ops Q (o :: rest) a W) : wpList P ops Q (o :: rest) a W := goal
end
theorem nil_bne (l : List UInt8) : (l != []) = !l.isEmpty := by cases l <;> rfl
namespace Kd
variable {P : Program} {ops : Array Oper} {rest : List Oper} {o : Oper} {a : Act} {Q : Exit → Act → World → Prop} {α : Type}
theorem R_make0 (d : Kd α) {w0 W : World} (base e : Nat) (hgd : o.guard = none) {N : Tmp} (_hd : o.dst = some N) (t : TypeId) (x y : Operand) (ho : o.op = .makeSlice t x y) (n : Int) (hx : a.eval x = .int .i64 0) (hy : a.eval y = .int .i64 n)
    (ht : P.underlying t = some (.slice e)) (z : Value) (bytes : Nat) (hinfo : (P.info? e).map (fun i => (i.zero, i.size, i.bytes)) = some (some z, d.sz, bytes)) (hb0 : 0 < bytes)
    {ok : Nat → Prop} (hfresh : ok W.heap.size) (h0 : 0 ≤ n) (hl : n.toNat * bytes ≤ 281474976710656) (HB : Below base w0 W) (hbase : base ≤ W.heap.size)
    (h : ∀ v1 w1, d.R e w1 base ok v1 [] → Below base w0 w1 → W.grownBy w1 none → (∃ b, v1.ownBlock = some b ∧ W.heap.size ≤ b) → wpList P ops Q rest (a.put o.dst v1) w1) : wpList P ops Q (o :: rest) a W := by
  obtain ⟨m, rfl⟩ := Int.eq_ofNat_of_zero_le h0
  simp only [Int.toNat_natCast] at hl h
  obtain ⟨i0, hi, hzz⟩ := Option.map_eq_some_iff.1 hinfo
  simp only [Prod.mk.injEq] at hzz
  obtain ⟨hz0, hz1, hz2⟩ := hzz
  have hm : m ≤ 281474976710656 := Nat.le_trans (Nat.le_mul_of_pos_right _ hb0) hl
  have hr := run_make (P := P) W t e i0 z ht hi hz0 .i64 .i64 0 (m : Int) (by omega) (by omega)
    (by
      have h3 : ((i0.bytes * m : Nat) : Int) ≤ 281474976710656 := by rw [hz2, Nat.mul_comm]; omega
      rwa [Int.natCast_mul] at h3) (by omega)
  simp only [Int.toNat_natCast, Int.toNat_zero] at hr
  rw [hz1] at hr
  have hrun : (execOp a.eval o).run P W = .ok (.value (.slice (some ⟨W.heap.size, 0, none⟩) 0 m)) (W.alloc (.cells (madeCells z.cells (m * d.sz)) e)) := by simp [execOp, ho, hx, hy, hr]
  refine event_run hgd hrun (h _ _ ⟨fun k hk => ?_, [], ?_, ⟨by simp, fun j p hp => by simp at hp⟩⟩ (HB.alloc hbase _) (World.grownBy_alloc W _ none) ⟨W.heap.size, by simp [Value.ownBlock], Nat.le_refl _⟩)
  · have : W.heap.size = k := by simpa [Value.ownBlock] using hk
    subst this
    exact hfresh
  · exact World.ownsRow_made W _ m hbase (by simp only [maxLen]; omega) (by simp [size_madeCells])
end Kd
end Go.Proofs.YtlooelfkkbgmhaaDoorW.PrintWords
