/-
  The specification's never: whether a field is empty (that it answers).
-/
import Derived.Test.YtdgglkihiibmhaaFit
set_option linter.unusedVariables false
set_option linter.unusedSimpArgs false
namespace Go.Proofs.Ytdgglkihiibmhaa
open Go Go.RowKit Cal Go.Proofs.YtdgglkihiibmhaaW.PrintLast

theorem eqB (a b : Bool) (w : World) : (Op.equalIn 9999 4 (.bool a) (.bool b)).run Try.prog w = .ok (a == b) w := by
  rw [show (9999 : Nat) = 9998 + 1 from rfl, Op.equalIn]
  simp [run_underlying Try.underlying4]
theorem partB (A : Nat → Bool) (i : Nat) (hi : i < 63) (w : World) : (part 4 (bs 63 A) (i * 1)).run Try.prog w = .ok (.bool (A i)) w := by
  have ha : (isAgg 4).run Try.prog w = .ok false w := by kernel_rfl
  unfold part
  rw [Nat.mul_one]
  simp only [Sem.run_bind, ha, Result.andThen_ok, bs_get 63 A i hi]
  rfl
theorem loop_ok {σ : Type} (f : Nat → σ → Sem (ForInStep σ)) (hf : ∀ i, i < 63 → ∀ r, ∃ s, ∀ w, (f i r).run Try.prog w = .ok s w) : ∀ (l : List Nat), (∀ i ∈ l, i < 63) → ∀ r, ∃ s, ∀ w, (forIn l r f).run Try.prog w = .ok s w
  | [], _, r => ⟨r, fun w => rfl⟩
  | i :: l, h, r => by
    obtain ⟨s, hs⟩ := hf i (h i (List.mem_cons_self ..)) r
    cases s with
    | done t =>
      refine ⟨t, fun w => ?_⟩
      rw [List.forIn_cons]
      simp only [Sem.run_bind, hs, Result.andThen_ok]
      rfl
    | yield t =>
      obtain ⟨u, hu⟩ := loop_ok f hf l (fun j hj => h j (List.mem_cons_of_mem _ hj)) t
      refine ⟨u, fun w => ?_⟩
      rw [List.forIn_cons]
      simp only [Sem.run_bind, hs, Result.andThen_ok, hu]
theorem eqArr (A B : Nat → Bool) : ∃ b, ∀ w, (Op.equalIn 10000 42 (.agg (bs 63 A)) (.agg (bs 63 B))).run Try.prog w = .ok b w := by
  have hs : ∀ w, (sizeOf 4).run Try.prog w = .ok 1 w := fun w => by kernel_rfl
  obtain ⟨r, hr⟩ := loop_ok (fun (i : Nat) (__s : Option Bool × Unit) => do
      let __do_lift ← part 4 (bs 63 A) (i * 1)
      let __do_lift_1 ← part 4 (bs 63 B) (i * 1)
      let __do_lift ← Op.equalIn 9999 4 __do_lift __do_lift_1
      if (!__do_lift) = true then pure (ForInStep.done (some false, ())) else pure (ForInStep.yield (none, ()))) (fun i hi r => by
    refine ⟨if (!(A i == B i)) = true then ForInStep.done (some false, ()) else ForInStep.yield (none, ()), fun w => ?_⟩
    simp only [Sem.run_bind, partB A i hi, partB B i hi, eqB, Result.andThen_ok]
    split <;> rfl) (List.range' [:63].start [:63].size [:63].step) (by decide) (none, ())
  refine ⟨r.1.getD true, fun w => ?_⟩
  rw [show (10000 : Nat) = 9999 + 1 from rfl, Op.equalIn]
  simp only [Sem.run_bind, run_underlying Try.underlying42, Result.andThen_ok, hs]
  rw [Std.Legacy.Range.forIn_eq_forIn_range', hr]
  simp only [Result.andThen_ok]
  cases r.1 <;> rfl
theorem wl_load {ty n : Nat} {ops : Array Oper} {Q : Exit → Act → World → Prop} {a : Act} {w : World} {rest : List Oper} {o : Oper} (hw : Region.wanted o (yielded ops a.tmps) = true) (x : Operand) (ho : o.op = .load ty x) (g k : Nat) (hx : a.eval x = .pointer (some ⟨g, k, none⟩)) (A : Nat → Bool) (N : Nat) (t : TypeId) (hg : w.heap[g]? = some (.cells (bs N A) t)) (hk : k + n ≤ N) {d : TypeDesc} (hu : Try.prog.underlying ty = some d) (hd : d.isRow = true) (hi : (Try.prog.info? ty).map (·.size) = some n) (h : wpList Try.prog ops Q rest (a.put o.dst (.agg (bs n fun j => A (k + j)))) w) : wpList Try.prog ops Q (o :: rest) a w := by
  refine BigFrame.wpList_want hw fun K hK => ?_
  refine wp_load_mid ty x ho g k hx (bs n fun j => A (k + j)).toList d (fun j v hv => ?_) hu hd (by rw [Array.length_toList, bs_size]; exact hi) (by rw [Array.toArray_toList]; exact hK _ _ h)
  rw [Array.getElem?_toList] at hv
  have hj : j < n := by
    have := (Array.getElem?_eq_some_iff.1 hv).1
    rw [bs_size] at this
    exact this
  rw [bs_get _ _ _ hj] at hv
  rw [blk_cell hg, bs_get _ _ _ (by omega)]
  exact hv
/-- an answer of yes or no -/
def Tells (e : Ending) : Prop := ∃ b, e = .returned (.bool b)
set_option maxHeartbeats 2000000 in
theorem empty_any (B : Nat → Bool) (w : World) : Calls Try.prog 68 #[.agg (bs 64 B)] w fun e w' => Tells e ∧ Below w.heap.size w w' := by
  have HG := Lib.hid (heap_new0 w _ (.cells (bs 64 B) 44) rfl)
  have hfl : ∀ w, (Instr.field 44 (.agg #[.bool false, .bool false, .bool false, .bool false, .bool false, .bool false, .bool false, .bool false, .bool false, .bool false, .bool false, .bool false, .bool false, .bool false, .bool false, .bool false, .bool false, .bool false, .bool false, .bool false, .bool false, .bool false, .bool false, .bool false, .bool false, .bool false, .bool false, .bool false, .bool false, .bool false, .bool false, .bool false, .bool false, .bool false, .bool false, .bool false, .bool false, .bool false, .bool false, .bool false, .bool false, .bool false, .bool false, .bool false, .bool false, .bool false, .bool false, .bool false, .bool false, .bool false, .bool false, .bool false, .bool false, .bool false, .bool false, .bool false, .bool false, .bool false, .bool false, .bool false, .bool false, .bool false, .bool false, .bool false]) 1).run Try.prog w = .ok (.agg (bs 63 fun _ => false)) w := fun w => by kernel_rfl
  obtain ⟨b, hb⟩ := eqArr (fun j => B (1 + j)) (fun _ => false)
  go_enter Try.func68, Try.ntmps68
  go_upto_region 1 with fail
  generalize hW : w.alloc (.cells (bs 64 B) 44) = W at *
  have HB : Hid (Below w.heap.size w W) := Lib.hid (by rw [← hW]; exact bl_alloc (Below.refl _ _) _)
  clear hW
  go_wp2_with (with_reducible show wpList _ _ _ (Oper.mk _ (Op.load 42 _) _ _ _ _ :: _) _ _; refine wl_load (n := 63) rfl _ rfl _ 1 rfl B 64 44 HG.out (by decide) Try.underlying42 rfl (by kernel_rfl) ?_; simp only [Act.put, List.setIfInBounds_toArray, List.set_cons_zero, List.set_cons_succ])
  go_ret
  exact ⟨⟨b, rfl⟩, HB.out⟩
theorem empty_ex (B : Nat → Bool) (w : World) : Calls Try.prog 68 #[.agg (bs 64 B)] w fun e w' => (∃ b, e = .returned (.bool b)) ∧ Below w.heap.size w w' := empty_any B w
set_option maxHeartbeats 2000000 in
theorem never_any (A : Nat → Bool) (w : World) : Calls Try.prog 64 #[.agg (bs 384 A)] w fun e w' => Tells e ∧ Below w.heap.size w w' := by
  have HG := Lib.hid (heap_new0 w _ (.cells (bs 384 A) 46) rfl)
  go_enter Try.func64, Try.ntmps64
  go_upto_region 1 with fail
  generalize hW : w.alloc (.cells (bs 384 A) 46) = W at *
  have HB : Hid (Below w.heap.size w W) := Lib.hid (by rw [← hW]; exact bl_alloc (Below.refl _ _) _)
  clear hW
  go_wp2_with (first
    | (with_reducible show wpList _ _ _ (Oper.mk _ (Op.load 44 _) _ _ _ _ :: _) _ _; refine wl_load (n := 64) rfl _ rfl _ _ rfl A 384 46 HG.out (by decide) Try.underlying44 rfl (by kernel_rfl) ?_; simp only [Act.put, List.setIfInBounds_toArray, List.set_cons_zero, List.set_cons_succ])
    | (go_at_call 68; with_reducible refine (empty_ex _ _).mono ?_; rintro e w1 ⟨⟨b, rfl⟩, hb⟩; have HG0 := Lib.hid (blk_on hb HG.out); have HB0 := Lib.hid (bl_on HB.out hb); clear HG HB hb; have HG := HG0; have HB := HB0; clear HG0 HB0))
  all_goals go_ret
  all_goals exact ⟨⟨_, rfl⟩, HB.out⟩
theorem never_ex (A : Nat → Bool) (w : World) : Calls Try.prog 64 #[.agg (bs 384 A)] w fun e w' => (∃ b, e = .returned (.bool b)) ∧ Below w.heap.size w w' := never_any A w
end Go.Proofs.Ytdgglkihiibmhaa
