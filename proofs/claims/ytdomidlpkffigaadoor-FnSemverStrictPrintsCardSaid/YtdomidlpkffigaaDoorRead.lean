/-
  A version read back out of what is in memory; read and StrictVersion, walked.
-/
import Derived.Test.YtdomidlpkffigaaDoorSnv
set_option linter.unusedVariables false
set_option linter.unusedSimpArgs false
namespace Go.Proofs.YtdomidlpkffigaaDoor
open Go Go.RowKit Go.Proofs.YtdomidlpkffigaaDoorW.PrintWords Go.Proofs.YtdomidlpkffigaaDoorW.PrintLast Go.Proofs.YtdomidlpkffigaaDoor.Gram
def P10 (w : World) (q : Nat) (n0 n1 n2 : Int) (pre mt o : ByteArray) (w' : World) : Prop :=
  w'.cell? ⟨q, 0, none⟩ = some (.int .u64 n0) ∧ w'.cell? ⟨q, 1, none⟩ = some (.int .u64 n1) ∧ w'.cell? ⟨q, 2, none⟩ = some (.int .u64 n2) ∧ w'.cell? ⟨q, 3, none⟩ = some (.string pre) ∧ w'.cell? ⟨q, 4, none⟩ = some (.string mt) ∧ w'.cell? ⟨q, 5, none⟩ = some (.string o) ∧ w'.cell? ⟨w.heap.size, 0, none⟩ = some (.int .u64 0) ∧ w'.cell? ⟨w.heap.size, 1, none⟩ = some (.int .u64 0) ∧ w'.cell? ⟨w.heap.size, 2, none⟩ = some (.int .u64 0) ∧ w'.cell? ⟨w.heap.size, 3, none⟩ = some (.string ⟨#[]⟩) ∧ w'.cell? ⟨w.heap.size, 4, none⟩ = some (.string ⟨#[]⟩) ∧ w'.frozen? ⟨w.heap.size, 0, none⟩ = false ∧ w'.frozen? ⟨w.heap.size, 1, none⟩ = false ∧ w'.frozen? ⟨w.heap.size, 2, none⟩ = false ∧ w'.frozen? ⟨w.heap.size, 3, none⟩ = false ∧ w'.frozen? ⟨w.heap.size, 4, none⟩ = false ∧ Hid (Below w.heap.size w w')
theorem p10_on {w : World} {q : Nat} {n0 n1 n2 : Int} {pre mt o : ByteArray} {W W' : World} (hb : Below W.heap.size W W') (h : P10 w q n0 n1 n2 pre mt o W) : P10 w q n0 n1 n2 pre mt o W' := by
  obtain ⟨a0, a1, a2, a3, a4, a5, a6, a7, a8, a9, a10, a11, a12, a13, a14, a15, a16⟩ := h
  exact ⟨cell_on hb a0, cell_on hb a1, cell_on hb a2, cell_on hb a3, cell_on hb a4, cell_on hb a5, cell_on hb a6, cell_on hb a7, cell_on hb a8, cell_on hb a9, cell_on hb a10, frozen_on hb (World.block_lt_of_cell? _ _ a6) a11, frozen_on hb (World.block_lt_of_cell? _ _ a7) a12, frozen_on hb (World.block_lt_of_cell? _ _ a8) a13, frozen_on hb (World.block_lt_of_cell? _ _ a9) a14, frozen_on hb (World.block_lt_of_cell? _ _ a10) a15, Lib.hid (bl_on a16.out hb)⟩
theorem get0_any (n0 n1 n2 : Int) (pre mt o : ByteArray) (w : World) : Calls Tryd.prog 25 #[.agg #[.int .u64 n0, .int .u64 n1, .int .u64 n2, .string pre, .string mt, .string o]] w fun e w' => e = .returned (.int .u64 n0) ∧ Below w.heap.size w w' := by
  go_enter Tryd.func25, Tryd.ntmps25
  go_wp2
  go_ret
  exact ⟨rfl, by repeat (first | exact Below.refl _ _ | apply bl_alloc)⟩
theorem get1_any (n0 n1 n2 : Int) (pre mt o : ByteArray) (w : World) : Calls Tryd.prog 26 #[.agg #[.int .u64 n0, .int .u64 n1, .int .u64 n2, .string pre, .string mt, .string o]] w fun e w' => e = .returned (.int .u64 n1) ∧ Below w.heap.size w w' := by
  go_enter Tryd.func26, Tryd.ntmps26
  go_wp2
  go_ret
  exact ⟨rfl, by repeat (first | exact Below.refl _ _ | apply bl_alloc)⟩
theorem get2_any (n0 n1 n2 : Int) (pre mt o : ByteArray) (w : World) : Calls Tryd.prog 27 #[.agg #[.int .u64 n0, .int .u64 n1, .int .u64 n2, .string pre, .string mt, .string o]] w fun e w' => e = .returned (.int .u64 n2) ∧ Below w.heap.size w w' := by
  go_enter Tryd.func27, Tryd.ntmps27
  go_wp2
  go_ret
  exact ⟨rfl, by repeat (first | exact Below.refl _ _ | apply bl_alloc)⟩
theorem get3_any (n0 n1 n2 : Int) (pre mt o : ByteArray) (w : World) : Calls Tryd.prog 28 #[.agg #[.int .u64 n0, .int .u64 n1, .int .u64 n2, .string pre, .string mt, .string o]] w fun e w' => e = .returned (.string pre) ∧ Below w.heap.size w w' := by
  go_enter Tryd.func28, Tryd.ntmps28
  go_wp2
  go_ret
  exact ⟨rfl, by repeat (first | exact Below.refl _ _ | apply bl_alloc)⟩
theorem get4_any (n0 n1 n2 : Int) (pre mt o : ByteArray) (w : World) : Calls Tryd.prog 29 #[.agg #[.int .u64 n0, .int .u64 n1, .int .u64 n2, .string pre, .string mt, .string o]] w fun e w' => e = .returned (.string mt) ∧ Below w.heap.size w w' := by
  go_enter Tryd.func29, Tryd.ntmps29
  go_wp2
  go_ret
  exact ⟨rfl, by repeat (first | exact Below.refl _ _ | apply bl_alloc)⟩
theorem p10_start {w : World} {q : Nat} {n0 n1 n2 : Int} {pre mt o : ByteArray} (h : w.heap[q]? = some (.cells #[.int .u64 n0, .int .u64 n1, .int .u64 n2, .string pre, .string mt, .string o] 42 (0, 0))) : P10 w q n0 n1 n2 pre mt o (w.alloc (.cells #[.int .u64 0, .int .u64 0, .int .u64 0, .string ⟨#[]⟩, .string ⟨#[]⟩] 25)) := by
  have h' : (w.alloc (.cells #[.int .u64 0, .int .u64 0, .int .u64 0, .string ⟨#[]⟩, .string ⟨#[]⟩] 25)).heap[q]? = some (.cells #[.int .u64 n0, .int .u64 n1, .int .u64 n2, .string pre, .string mt, .string o] 42 (0, 0)) := ((MapKept.heap_alloc w _).2 q (Array.getElem?_eq_some_iff.1 h).1).trans h
  have hn := heap_new0 w _ (.cells #[.int .u64 0, .int .u64 0, .int .u64 0, .string ⟨#[]⟩, .string ⟨#[]⟩] 25) rfl
  exact ⟨cellsOf h' 0, cellsOf h' 1, cellsOf h' 2, cellsOf h' 3, cellsOf h' 4, cellsOf h' 5, cellsOf hn 0, cellsOf hn 1, cellsOf hn 2, cellsOf hn 3, cellsOf hn 4, frozenOf hn 0, frozenOf hn 1, frozenOf hn 2, frozenOf hn 3, frozenOf hn 4, Lib.hid (bl_alloc (Below.refl _ _) _)⟩
set_option maxHeartbeats 4000000 in
set_option maxRecDepth 100000 in
theorem plain13 (q : Nat) (n0 n1 n2 : Int) (pre mt o : ByteArray) (w : World) (h : w.heap[q]? = some (.cells #[.int .u64 n0, .int .u64 n1, .int .u64 n2, .string pre, .string mt, .string o] 42 (0, 0))) :
    Calls Tryd.prog 13 #[.pointer (some ⟨q, 0, none⟩)] w fun e w' => e = .returned (.agg #[.int .u64 n0, .int .u64 n1, .int .u64 n2, .string pre, .string mt]) ∧ Below w.heap.size w w' := by
  have HT := Lib.hid (p10_start h)
  clear h
  go_enter Tryd.func13, Tryd.ntmps13
  go_upto_region 1 with fail
  refine start_ (n := 22) (S := fun w' => P10 w q n0 n1 n2 pre mt o w') (ds := [21]) #[false, false, false, false, false, false, false, false, false, false, false, false, false, false, false, false, false, false, false, false, false, false] (by kernel_rfl) rfl rfl (p10_on (bl_drew (Below.refl _ _)) HT.out) (fun hHeld => ?_)
  refine pure_ (i := 0) (N := some 3) (v := ?_) (a' := ?_) #[true, false, false, false, false, false, false, false, false, false, false, false, false, false, false, false, false, false, false, false, false, false] rfl rfl (by kernel_rfl) (fun _ _ _ h => h) (Or.inl ⟨by rfl, ?_⟩) ?_ ?_
  rotate_left
  · intro w'
    go_simp
    with_reducible rfl
  rotate_left
  · simp only [Act.put, List.setIfInBounds_toArray, List.set_cons_zero, List.set_cons_succ, i64_w, i32_w]
    rfl
  refine pure_ (i := 1) (N := some 4) (v := ?_) (a' := ?_) #[true, true, false, false, false, false, false, false, false, false, false, false, false, false, false, false, false, false, false, false, false, false] rfl rfl (by kernel_rfl) (fun _ _ _ h => h) (Or.inl ⟨by rfl, ?_⟩) ?_ ?_
  rotate_left
  · intro w'
    go_simp
    with_reducible rfl
  rotate_left
  · simp only [Act.put, List.setIfInBounds_toArray, List.set_cons_zero, List.set_cons_succ, i64_w, i32_w]
    rfl
  refine pure_ (i := 4) (N := some 7) (v := ?_) (a' := ?_) #[true, true, false, false, true, false, false, false, false, false, false, false, false, false, false, false, false, false, false, false, false, false] rfl rfl (by kernel_rfl) (fun _ _ _ h => h) (Or.inl ⟨by rfl, ?_⟩) ?_ ?_
  rotate_left
  · intro w'
    go_simp
    with_reducible rfl
  rotate_left
  · simp only [Act.put, List.setIfInBounds_toArray, List.set_cons_zero, List.set_cons_succ, i64_w, i32_w]
    rfl
  refine pure_ (i := 5) (N := some 8) (v := ?_) (a' := ?_) #[true, true, false, false, true, true, false, false, false, false, false, false, false, false, false, false, false, false, false, false, false, false] rfl rfl (by kernel_rfl) (fun _ _ _ h => h) (Or.inl ⟨by rfl, ?_⟩) ?_ ?_
  rotate_left
  · intro w'
    go_simp
    with_reducible rfl
  rotate_left
  · simp only [Act.put, List.setIfInBounds_toArray, List.set_cons_zero, List.set_cons_succ, i64_w, i32_w]
    rfl
  refine pure_ (i := 8) (N := some 11) (v := ?_) (a' := ?_) #[true, true, false, false, true, true, false, false, true, false, false, false, false, false, false, false, false, false, false, false, false, false] rfl rfl (by kernel_rfl) (fun _ _ _ h => h) (Or.inl ⟨by rfl, ?_⟩) ?_ ?_
  rotate_left
  · intro w'
    go_simp
    with_reducible rfl
  rotate_left
  · simp only [Act.put, List.setIfInBounds_toArray, List.set_cons_zero, List.set_cons_succ, i64_w, i32_w]
    rfl
  refine pure_ (i := 9) (N := some 12) (v := ?_) (a' := ?_) #[true, true, false, false, true, true, false, false, true, true, false, false, false, false, false, false, false, false, false, false, false, false] rfl rfl (by kernel_rfl) (fun _ _ _ h => h) (Or.inl ⟨by rfl, ?_⟩) ?_ ?_
  rotate_left
  · intro w'
    go_simp
    with_reducible rfl
  rotate_left
  · simp only [Act.put, List.setIfInBounds_toArray, List.set_cons_zero, List.set_cons_succ, i64_w, i32_w]
    rfl
  refine pure_ (i := 12) (N := some 15) (v := ?_) (a' := ?_) #[true, true, false, false, true, true, false, false, true, true, false, false, true, false, false, false, false, false, false, false, false, false] rfl rfl (by kernel_rfl) (fun _ _ _ h => h) (Or.inl ⟨by rfl, ?_⟩) ?_ ?_
  rotate_left
  · intro w'
    go_simp
    with_reducible rfl
  rotate_left
  · simp only [Act.put, List.setIfInBounds_toArray, List.set_cons_zero, List.set_cons_succ, i64_w, i32_w]
    rfl
  refine pure_ (i := 13) (N := some 16) (v := ?_) (a' := ?_) #[true, true, false, false, true, true, false, false, true, true, false, false, true, true, false, false, false, false, false, false, false, false] rfl rfl (by kernel_rfl) (fun _ _ _ h => h) (Or.inl ⟨by rfl, ?_⟩) ?_ ?_
  rotate_left
  · intro w'
    go_simp
    with_reducible rfl
  rotate_left
  · simp only [Act.put, List.setIfInBounds_toArray, List.set_cons_zero, List.set_cons_succ, i64_w, i32_w]
    rfl
  refine pure_ (i := 16) (N := some 19) (v := ?_) (a' := ?_) #[true, true, false, false, true, true, false, false, true, true, false, false, true, true, false, false, true, false, false, false, false, false] rfl rfl (by kernel_rfl) (fun _ _ _ h => h) (Or.inl ⟨by rfl, ?_⟩) ?_ ?_
  rotate_left
  · intro w'
    go_simp
    with_reducible rfl
  rotate_left
  · simp only [Act.put, List.setIfInBounds_toArray, List.set_cons_zero, List.set_cons_succ, i64_w, i32_w]
    rfl
  refine pure_ (i := 17) (N := some 20) (v := ?_) (a' := ?_) #[true, true, false, false, true, true, false, false, true, true, false, false, true, true, false, false, true, true, false, false, false, false] rfl rfl (by kernel_rfl) (fun _ _ _ h => h) (Or.inl ⟨by rfl, ?_⟩) ?_ ?_
  rotate_left
  · intro w'
    go_simp
    with_reducible rfl
  rotate_left
  · simp only [Act.put, List.setIfInBounds_toArray, List.set_cons_zero, List.set_cons_succ, i64_w, i32_w]
    rfl
  refine take_ (i := 2) (N := some 5) (v := ?_) (a' := ?_) #[true, true, true, false, true, true, false, false, true, true, false, false, true, true, false, false, true, true, false, false, false, false] rfl rfl (by kernel_rfl) (fun _ _ _ h => h) (Or.inl ⟨by rfl, ?_⟩) hHeld ?_ ?_
  rotate_left
  · rintro w' ⟨s0, s1, s2, s3, s4, s5, s6, s7, s8, s9, s10, s11, s12, s13, s14, s15, s16⟩
    go_simp
    with_reducible rfl
  rotate_left
  · simp only [Act.put, List.setIfInBounds_toArray, List.set_cons_zero, List.set_cons_succ, i64_w, i32_w]
    rfl
  refine take_ (i := 6) (N := some 9) (v := ?_) (a' := ?_) #[true, true, true, false, true, true, true, false, true, true, false, false, true, true, false, false, true, true, false, false, false, false] rfl rfl (by kernel_rfl) (fun _ _ _ h => h) (Or.inl ⟨by rfl, ?_⟩) hHeld ?_ ?_
  rotate_left
  · rintro w' ⟨s0, s1, s2, s3, s4, s5, s6, s7, s8, s9, s10, s11, s12, s13, s14, s15, s16⟩
    go_simp
    with_reducible rfl
  rotate_left
  · simp only [Act.put, List.setIfInBounds_toArray, List.set_cons_zero, List.set_cons_succ, i64_w, i32_w]
    rfl
  refine take_ (i := 10) (N := some 13) (v := ?_) (a' := ?_) #[true, true, true, false, true, true, true, false, true, true, true, false, true, true, false, false, true, true, false, false, false, false] rfl rfl (by kernel_rfl) (fun _ _ _ h => h) (Or.inl ⟨by rfl, ?_⟩) hHeld ?_ ?_
  rotate_left
  · rintro w' ⟨s0, s1, s2, s3, s4, s5, s6, s7, s8, s9, s10, s11, s12, s13, s14, s15, s16⟩
    go_simp
    with_reducible rfl
  rotate_left
  · simp only [Act.put, List.setIfInBounds_toArray, List.set_cons_zero, List.set_cons_succ, i64_w, i32_w]
    rfl
  refine take_ (i := 14) (N := some 17) (v := ?_) (a' := ?_) #[true, true, true, false, true, true, true, false, true, true, true, false, true, true, true, false, true, true, false, false, false, false] rfl rfl (by kernel_rfl) (fun _ _ _ h => h) (Or.inl ⟨by rfl, ?_⟩) hHeld ?_ ?_
  rotate_left
  · rintro w' ⟨s0, s1, s2, s3, s4, s5, s6, s7, s8, s9, s10, s11, s12, s13, s14, s15, s16⟩
    go_simp
    with_reducible rfl
  rotate_left
  · simp only [Act.put, List.setIfInBounds_toArray, List.set_cons_zero, List.set_cons_succ, i64_w, i32_w]
    rfl
  refine take_ (i := 18) (N := some 21) (v := ?_) (a' := ?_) #[true, true, true, false, true, true, true, false, true, true, true, false, true, true, true, false, true, true, true, false, false, false] rfl rfl (by kernel_rfl) (fun _ _ _ h => h) (Or.inl ⟨by rfl, ?_⟩) hHeld ?_ ?_
  rotate_left
  · rintro w' ⟨s0, s1, s2, s3, s4, s5, s6, s7, s8, s9, s10, s11, s12, s13, s14, s15, s16⟩
    go_simp
    with_reducible rfl
  rotate_left
  · simp only [Act.put, List.setIfInBounds_toArray, List.set_cons_zero, List.set_cons_succ, i64_w, i32_w]
    rfl
  refine one_ (i := 3) (N := some 6) #[true, true, true, true, true, true, true, false, true, true, true, false, true, true, true, false, true, true, true, false, false, false] rfl rfl (by kernel_rfl) (by decide) (fun K hK => ?_)
  refine goes_ Tryd.func25 (by kernel_rfl) rfl #[.agg #[.int .u64 n0, .int .u64 n1, .int .u64 n2, .string pre, .string mt, .string o]] (by rfl) rfl rfl (by simp only [List.map_toArray, List.map_cons, List.map_nil]; rfl) ?_
  with_reducible refine (get0_any n0 n1 n2 pre mt o _).mono ?_
  rintro e w3 ⟨rfl, hb⟩
  refine ⟨_, rfl, ?_⟩
  refine hK.out _ _ (p10_on hb hHeld) (fun hHeld => ?_)
  clear hK K
  refine norm_ (a' := ?_) ?_ ?_
  rotate_left
  · show Act.put _ (some 6) _ = _
    simp only [Act.put, List.setIfInBounds_toArray, List.set_cons_zero, List.set_cons_succ, i64_w, i32_w]
    rfl
  refine one_ (i := 7) (N := some 10) #[true, true, true, true, true, true, true, true, true, true, true, false, true, true, true, false, true, true, true, false, false, false] rfl rfl (by kernel_rfl) (by decide) (fun K hK => ?_)
  refine goes_ Tryd.func26 (by kernel_rfl) rfl #[.agg #[.int .u64 n0, .int .u64 n1, .int .u64 n2, .string pre, .string mt, .string o]] (by rfl) rfl rfl (by simp only [List.map_toArray, List.map_cons, List.map_nil]; rfl) ?_
  with_reducible refine (get1_any n0 n1 n2 pre mt o _).mono ?_
  rintro e w3 ⟨rfl, hb⟩
  refine ⟨_, rfl, ?_⟩
  refine hK.out _ _ (p10_on hb hHeld) (fun hHeld => ?_)
  clear hK K
  refine norm_ (a' := ?_) ?_ ?_
  rotate_left
  · show Act.put _ (some 10) _ = _
    simp only [Act.put, List.setIfInBounds_toArray, List.set_cons_zero, List.set_cons_succ, i64_w, i32_w]
    rfl
  refine one_ (i := 11) (N := some 14) #[true, true, true, true, true, true, true, true, true, true, true, true, true, true, true, false, true, true, true, false, false, false] rfl rfl (by kernel_rfl) (by decide) (fun K hK => ?_)
  refine goes_ Tryd.func27 (by kernel_rfl) rfl #[.agg #[.int .u64 n0, .int .u64 n1, .int .u64 n2, .string pre, .string mt, .string o]] (by rfl) rfl rfl (by simp only [List.map_toArray, List.map_cons, List.map_nil]; rfl) ?_
  with_reducible refine (get2_any n0 n1 n2 pre mt o _).mono ?_
  rintro e w3 ⟨rfl, hb⟩
  refine ⟨_, rfl, ?_⟩
  refine hK.out _ _ (p10_on hb hHeld) (fun hHeld => ?_)
  clear hK K
  refine norm_ (a' := ?_) ?_ ?_
  rotate_left
  · show Act.put _ (some 14) _ = _
    simp only [Act.put, List.setIfInBounds_toArray, List.set_cons_zero, List.set_cons_succ, i64_w, i32_w]
    rfl
  refine one_ (i := 15) (N := some 18) #[true, true, true, true, true, true, true, true, true, true, true, true, true, true, true, true, true, true, true, false, false, false] rfl rfl (by kernel_rfl) (by decide) (fun K hK => ?_)
  refine goes_ Tryd.func28 (by kernel_rfl) rfl #[.agg #[.int .u64 n0, .int .u64 n1, .int .u64 n2, .string pre, .string mt, .string o]] (by rfl) rfl rfl (by simp only [List.map_toArray, List.map_cons, List.map_nil]; rfl) ?_
  with_reducible refine (get3_any n0 n1 n2 pre mt o _).mono ?_
  rintro e w3 ⟨rfl, hb⟩
  refine ⟨_, rfl, ?_⟩
  refine hK.out _ _ (p10_on hb hHeld) (fun hHeld => ?_)
  clear hK K
  refine norm_ (a' := ?_) ?_ ?_
  rotate_left
  · show Act.put _ (some 18) _ = _
    simp only [Act.put, List.setIfInBounds_toArray, List.set_cons_zero, List.set_cons_succ, i64_w, i32_w]
    rfl
  refine one_ (i := 19) (N := some 22) #[true, true, true, true, true, true, true, true, true, true, true, true, true, true, true, true, true, true, true, true, false, false] rfl rfl (by kernel_rfl) (by decide) (fun K hK => ?_)
  refine goes_ Tryd.func29 (by kernel_rfl) rfl #[.agg #[.int .u64 n0, .int .u64 n1, .int .u64 n2, .string pre, .string mt, .string o]] (by rfl) rfl rfl (by simp only [List.map_toArray, List.map_cons, List.map_nil]; rfl) ?_
  with_reducible refine (get4_any n0 n1 n2 pre mt o _).mono ?_
  rintro e w3 ⟨rfl, hb⟩
  refine ⟨_, rfl, ?_⟩
  refine hK.out _ _ (p10_on hb hHeld) (fun hHeld => ?_)
  clear hK K
  refine norm_ (a' := ?_) ?_ ?_
  rotate_left
  · show Act.put _ (some 22) _ = _
    simp only [Act.put, List.setIfInBounds_toArray, List.set_cons_zero, List.set_cons_succ, i64_w, i32_w]
    rfl
  refine pure_ (i := 20) (N := some 23) (v := ?_) (a' := ?_) #[true, true, true, true, true, true, true, true, true, true, true, true, true, true, true, true, true, true, true, true, true, false] rfl rfl (by kernel_rfl) (fun _ _ _ h => h) (Or.inl ⟨by rfl, ?_⟩) ?_ ?_
  rotate_left
  · intro w'
    go_simp
    with_reducible rfl
  rotate_left
  · simp only [Act.put, List.setIfInBounds_toArray, List.set_cons_zero, List.set_cons_succ, i64_w, i32_w]
    rfl
  refine last_ (i := 21) (N := none) #[true, true, true, true, true, true, true, true, true, true, true, true, true, true, true, true, true, true, true, true, true, true] rfl rfl (by kernel_rfl) (by decide) (fun K hK => ?_)
  have HL := hHeld
  obtain ⟨-, -, -, -, -, -, z0, z1, z2, z3, z4, f0, f1, f2, f3, f4, hBB⟩ := HL
  refine skip_ (w1 := ?_) (by rfl) rfl ?_ ?_
  rotate_left
  · go_simp
    rfl
  refine hK.out _ _ ?_
  clear hK K
  refine done_ (by kernel_rfl) ?_
  go_wp2_with fail
  refine bodyPost_ret (v := .agg #[.int .u64 n0, .int .u64 n1, .int .u64 n2, .string pre, .string mt]) (by simp [results, Tryd.results13, go_sem, z0, z1, z2, z3, z4, f0, f1, f2, f3, f4]) rfl ⟨rfl, ?_⟩
  repeat (first | exact hBB.out | (refine bl_set ?_ (Nat.le_refl _) _))
/-- a fresh plain version -/
def FZ (w : World) (r : Nat) (W : World) : Prop := W.heap[r]? = some (.cells #[.int .u64 0, .int .u64 0, .int .u64 0, .string ⟨#[]⟩, .string ⟨#[]⟩] 25 (0, 0)) ∧ w.heap.size ≤ r ∧ Below w.heap.size w W
theorem fz_start (w : World) : FZ w w.heap.size (w.alloc (.cells #[.int .u64 0, .int .u64 0, .int .u64 0, .string ⟨#[]⟩, .string ⟨#[]⟩] 25)) := ⟨heap_new0 w _ _ rfl, Nat.le_refl _, bl_alloc (Below.refl _ _) _⟩
theorem fz_on {w : World} {r : Nat} {W W' : World} (h : FZ w r W) (hb : Below W.heap.size W W') : FZ w r W' := ⟨(hb.block _ (Array.getElem?_eq_some_iff.1 h.1).1).trans h.1, h.2.1, bl_on h.2.2 hb⟩
theorem fz_facts {w : World} {r : Nat} {W : World} (h : FZ w r W) : W.cell? ⟨r, 0, none⟩ = some (.int .u64 0) ∧ W.cell? ⟨r, 1, none⟩ = some (.int .u64 0) ∧ W.cell? ⟨r, 2, none⟩ = some (.int .u64 0) ∧ W.cell? ⟨r, 3, none⟩ = some (.string ⟨#[]⟩) ∧ W.cell? ⟨r, 4, none⟩ = some (.string ⟨#[]⟩) ∧ W.frozen? ⟨r, 0, none⟩ = false ∧ W.frozen? ⟨r, 1, none⟩ = false ∧ W.frozen? ⟨r, 2, none⟩ = false ∧ W.frozen? ⟨r, 3, none⟩ = false ∧ W.frozen? ⟨r, 4, none⟩ = false :=
  ⟨cellsOf h.1 0, cellsOf h.1 1, cellsOf h.1 2, cellsOf h.1 3, cellsOf h.1 4, frozenOf h.1 0, frozenOf h.1 1, frozenOf h.1 2, frozenOf h.1 3, frozenOf h.1 4⟩
theorem fz_set {w : World} {r : Nat} {W : World} (h : FZ w r W) (a b c d e : Value) : Below w.heap.size w (((((W.setCell ⟨r, 0, none⟩ a).setCell ⟨r, 1, none⟩ b).setCell ⟨r, 2, none⟩ c).setCell ⟨r, 3, none⟩ d).setCell ⟨r, 4, none⟩ e) :=
  bl_set (bl_set (bl_set (bl_set (bl_set h.2.2 h.2.1 _) h.2.1 _) h.2.1 _) h.2.1 _) h.2.1 _
set_option maxHeartbeats 8000000 in
set_option maxRecDepth 100000 in
theorem read8_ok (q : Nat) (n0 n1 n2 : Int) (pre mt o : ByteArray) (w : World) (h : w.heap[q]? = some (.cells #[.int .u64 n0, .int .u64 n1, .int .u64 n2, .string pre, .string mt, .string o] 42 (0, 0))) :
    Calls Tryd.prog 8 #[.pointer (some ⟨q, 0, none⟩), .nilIface] w fun e w' => e = .returned (.tuple #[.agg #[.int .u64 n0, .int .u64 n1, .int .u64 n2, .string pre, .string mt], .bool true]) ∧ Below w.heap.size w w' := by
  have HQ := Aside0.mk h
  have HF := Aside0.mk (fz_start w)
  have HO := Aside0.mk (show (w.alloc (.cells #[.int .u64 0, .int .u64 0, .int .u64 0, .string ⟨#[]⟩, .string ⟨#[]⟩] 25)).heap[q]? = some (.cells #[.int .u64 n0, .int .u64 n1, .int .u64 n2, .string pre, .string mt, .string o] 42 (0, 0)) from ((MapKept.heap_alloc w _).2 q (Array.getElem?_eq_some_iff.1 h).1).trans h)
  clear h
  go_enter Tryd.func8, Tryd.ntmps8
  go_wp2_with (go_at_call 13; (with_reducible refine (plain13 q n0 n1 n2 pre mt o _ HO.out).mono ?_); rintro e w2 ⟨rfl, hb⟩; have HF2 := Aside0.mk (fz_on HF.out hb); obtain ⟨z0, z1, z2, z3, z4, f0, f1, f2, f3, f4⟩ := fz_facts HF2.out; clear hb)
  refine bodyPost_ret (v := .tuple #[.agg #[.int .u64 n0, .int .u64 n1, .int .u64 n2, .string pre, .string mt], .bool true]) (by simp [results, Tryd.results8, go_sem, z0, z1, z2, z3, z4, f0, f1, f2, f3, f4]) rfl ⟨rfl, fz_set HF2.out _ _ _ _ _⟩
set_option maxHeartbeats 8000000 in
set_option maxRecDepth 100000 in
theorem read8_err (t : Nat) (p : Value) (w : World) :
    Calls Tryd.prog 8 #[.pointer none, .iface t p] w fun e w' => e = .returned (.tuple #[.agg #[.int .u64 0, .int .u64 0, .int .u64 0, .string ⟨#[]⟩, .string ⟨#[]⟩], .bool false]) ∧ Below w.heap.size w w' := by
  have HF := Aside0.mk (fz_start w)
  obtain ⟨z0, z1, z2, z3, z4, f0, f1, f2, f3, f4⟩ := fz_facts HF.out
  go_enter Tryd.func8, Tryd.ntmps8
  go_wp2
  refine bodyPost_ret (v := .tuple #[.agg #[.int .u64 0, .int .u64 0, .int .u64 0, .string ⟨#[]⟩, .string ⟨#[]⟩], .bool false]) (by simp [results, Tryd.results8, go_sem, z0, z1, z2, z3, z4, f0, f1, f2, f3, f4]) rfl ⟨rfl, ?_⟩
  first | exact fz_set HF.out _ _ _ _ _ | exact HF.out.2.2
def Post5 (s : ByteArray) (e : Ending) : Prop := match strictL (L s) with | some (u0, u1, u2, pre, mt) => e = .returned (.tuple #[.agg #[.int .u64 u0, .int .u64 u1, .int .u64 u2, .string (mkB pre), .string (mkB mt)], .bool true]) | none => e = .returned (.tuple #[.agg #[.int .u64 0, .int .u64 0, .int .u64 0, .string ⟨#[]⟩, .string ⟨#[]⟩], .bool false])
set_option maxHeartbeats 8000000 in
set_option maxRecDepth 100000 in
theorem strict5 (s : ByteArray) (w : World) (hG : GlobS w) (hE : GlobE w) :
    Calls Tryd.prog 5 #[.string s] w fun e w' => Post5 s e ∧ Below w.heap.size w w' := by
  have HF := Aside0.mk (fz_start w)
  have HG := Aside0.mk (globS_below hG HF.out.2.2)
  have HE := Aside0.mk (globE_below hE HF.out.2.2)
  clear hG hE
  go_enter Tryd.func5, Tryd.ntmps5
  go_wp2_with (first
    | (go_at_call 9; (with_reducible refine (strict9 s _ HG.out HE.out).mono ?_); rintro e w2 hp; rcases hp with ⟨u0, u1, u2, g, V, pre, mt, a, b, c, hs, rfl, hst⟩ | ⟨hs, ⟨tt, pp, rfl⟩, hb⟩)
    | (go_at_call 8; first
      | (obtain ⟨o, hv⟩ := hst.vb; (with_reducible refine (read8_ok V u0 u1 u2 (mkB pre) (mkB mt) o _ hv).mono ?_); rintro e w3 ⟨rfl, hb3⟩; have HF3 := Aside0.mk (fz_on HF.out (bl_on hst.hb hb3)); obtain ⟨z0, z1, z2, z3, z4, f0, f1, f2, f3, f4⟩ := fz_facts HF3.out; have HS := Aside0.mk hs; clear hb3 hv hst hs)
      | ((with_reducible refine (read8_err tt pp _).mono ?_); rintro e w3 ⟨rfl, hb3⟩; have HF3 := Aside0.mk (fz_on HF.out (bl_on hb hb3)); obtain ⟨z0, z1, z2, z3, z4, f0, f1, f2, f3, f4⟩ := fz_facts HF3.out; have HS := Aside0.mk hs; clear hb3 hb hs)))
  · refine bodyPost_ret (v := .tuple #[.agg #[.int .u64 u0, .int .u64 u1, .int .u64 u2, .string (mkB pre), .string (mkB mt)], .bool true]) (by simp [results, Tryd.results5, go_sem, z0, z1, z2, z3, z4, f0, f1, f2, f3, f4]) rfl ⟨by unfold Post5; rw [HS.out], fz_set HF3.out _ _ _ _ _⟩
  · refine bodyPost_ret (v := .tuple #[.agg #[.int .u64 0, .int .u64 0, .int .u64 0, .string ⟨#[]⟩, .string ⟨#[]⟩], .bool false]) (by simp [results, Tryd.results5, go_sem, z0, z1, z2, z3, z4, f0, f1, f2, f3, f4]) rfl ⟨by unfold Post5; rw [HS.out], fz_set HF3.out _ _ _ _ _⟩
end Go.Proofs.YtdomidlpkffigaaDoor
