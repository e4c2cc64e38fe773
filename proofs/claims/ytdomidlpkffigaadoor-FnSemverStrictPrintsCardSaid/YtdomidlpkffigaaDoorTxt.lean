/-
  A version's text, walked.
-/
import Derived.Test.YtdomidlpkffigaaDoorFmt
set_option linter.unusedVariables false
set_option linter.unusedSimpArgs false
namespace Go.Proofs.YtdomidlpkffigaaDoor
open Go Go.RowKit Go.Proofs.YtdomidlpkffigaaDoorW.PrintWords Go.Proofs.YtdomidlpkffigaaDoorW.PrintLast Go.Proofs.YtdomidlpkffigaaDoor.Gram

/-- a version in memory, and the table -/
abbrev SV (w : World) (q : Nat) (u0 u1 u2 : Nat) (pre mt o : ByteArray) (W : World) : Prop := W.cell? ⟨q, 0, none⟩ = some (.int .u64 u0) ∧ W.cell? ⟨q, 1, none⟩ = some (.int .u64 u1) ∧ W.cell? ⟨q, 2, none⟩ = some (.int .u64 u2) ∧ W.cell? ⟨q, 3, none⟩ = some (.string pre) ∧ W.cell? ⟨q, 4, none⟩ = some (.string mt) ∧ Hid (GlobP W) ∧ Hid (Below w.heap.size w W)
theorem sv_on {w : World} {q u0 u1 u2 : Nat} {pre mt o : ByteArray} {W W' : World} (hb : Below W.heap.size W W') (h : SV w q u0 u1 u2 pre mt o W) : SV w q u0 u1 u2 pre mt o W' :=
  ⟨cell_on hb h.1, cell_on hb h.2.1, cell_on hb h.2.2.1, cell_on hb h.2.2.2.1, cell_on hb h.2.2.2.2.1, Lib.hid (globP_below h.2.2.2.2.2.1.out hb), Lib.hid (bl_on h.2.2.2.2.2.2.out hb)⟩
theorem sv_start {w : World} (u0 u1 u2 : Nat) (pre mt o : ByteArray) (hT : GlobP w) : SV w w.heap.size u0 u1 u2 pre mt o (w.alloc (.cells #[.int .u64 u0, .int .u64 u1, .int .u64 u2, .string pre, .string mt, .string o] 42)) := by
  have hn := heap_new0 w _ (.cells #[.int .u64 u0, .int .u64 u1, .int .u64 u2, .string pre, .string mt, .string o] 42) rfl
  have hb := bl_alloc (Below.refl w.heap.size w) (.cells #[.int .u64 u0, .int .u64 u1, .int .u64 u2, .string pre, .string mt, .string o] 42)
  exact ⟨cellsOf hn 0, cellsOf hn 1, cellsOf hn 2, cellsOf hn 3, cellsOf hn 4, Lib.hid (globP_below hT hb), Lib.hid hb⟩
theorem dec_len (u : Nat) (hu : u < 18446744073709551616) : (mkB (Lib.decDigits u)).size ≤ 20 := by
  rw [mk_size, Lib.decDigits_length]
  by_cases h0 : u = 0
  · subst h0; rw [Lib.nDigits_small (by decide)]; decide
  · have := Lib.numDigits_eq u (by omega) hu
    split at this <;> omega
set_option maxHeartbeats 8000000 in
set_option maxRecDepth 100000 in
theorem text12_00 (u0 u1 u2 : Nat) (pre mt o : ByteArray) (h0 : u0 < 18446744073709551616) (h1 : u1 < 18446744073709551616) (h2 : u2 < 18446744073709551616) (hs : pre.size + mt.size ≤ 100000) (hp : (pre.toList == []) = true) (hm : (mt.toList == []) = true) (w : World) (hT : GlobP w) :
    Calls Tryd.prog 12 #[.agg #[.int .u64 u0, .int .u64 u1, .int .u64 u2, .string pre, .string mt, .string o]] w fun e w' => e = .returned (.string (mkB (Lib.decDigits u0) ++ ⟨#[46]⟩ ++ mkB (Lib.decDigits u1) ++ ⟨#[46]⟩ ++ mkB (Lib.decDigits u2))) ∧ Below w.heap.size w w' := by
  have HF := Lib.hid (sv_start u0 u1 u2 pre mt o hT)
  have H0 := Aside0.mk h0
  have H1 := Aside0.mk h1
  have H2 := Aside0.mk h2
  have b0 := dec_len u0 h0
  have b1 := dec_len u1 h1
  have b2 := dec_len u2 h2
  clear hT h0 h1 h2
  obtain ⟨d0, e0⟩ : ∃ d, d = mkB (Lib.decDigits u0) := ⟨_, rfl⟩
  obtain ⟨d1, e1⟩ : ∃ d, d = mkB (Lib.decDigits u1) := ⟨_, rfl⟩
  obtain ⟨d2, e2⟩ : ∃ d, d = mkB (Lib.decDigits u2) := ⟨_, rfl⟩
  rw [← e0] at b0
  rw [← e1] at b1
  rw [← e2] at b2
  rw [← e0, ← e1, ← e2]
  have E0 := Aside0.mk e0
  have E1 := Aside0.mk e1
  have E2 := Aside0.mk e2
  have s1 : (9223372036854775807 < d0.size + 1) = False := eq_false (by omega)
  have s2 : (9223372036854775807 < d0.size + 1 + d1.size) = False := eq_false (by omega)
  have s3 : (9223372036854775807 < d0.size + 1 + d1.size + 1) = False := eq_false (by omega)
  have s4 : (9223372036854775807 < d0.size + 1 + d1.size + 1 + d2.size) = False := eq_false (by omega)
  have s5 : (9223372036854775807 < 1 + pre.size) = False := eq_false (by omega)
  have s6 : (9223372036854775807 < d0.size + 1 + d1.size + 1 + d2.size + (1 + pre.size)) = False := eq_false (by omega)
  have s7 : (9223372036854775807 < 1 + mt.size) = False := eq_false (by omega)
  have s8 : (9223372036854775807 < d0.size + 1 + d1.size + 1 + d2.size + (1 + pre.size) + (1 + mt.size)) = False := eq_false (by omega)
  have s9 : (9223372036854775807 < d0.size + 1 + d1.size + 1 + d2.size + (1 + mt.size)) = False := eq_false (by omega)
  have q1 : (pre.toList != []) = !(pre.toList == []) := rfl
  rw [hp] at q1
  have q2 : (mt.toList != []) = !(mt.toList == []) := rfl
  rw [hm] at q2
  clear e0 e1 e2 b0 b1 b2 hs
  go_enter Tryd.func12, Tryd.ntmps12
  go_upto_region 1 with fail
  refine start_ (n := 14) (S := fun w' => SV w w.heap.size u0 u1 u2 pre mt o w') (ds := []) #[false, false, false, false, false, false, false, false, false, false, false, false, false, false] (by kernel_rfl) rfl rfl (sv_on (bl_drew (Below.refl _ _)) HF.out) (fun hHeld => ?_)
  refine pure_ (i := 0) (N := some 4) (v := ?_) (a' := ?_) #[true, false, false, false, false, false, false, false, false, false, false, false, false, false] rfl rfl (by kernel_rfl) (fun _ _ _ h => h) (Or.inl ⟨by rfl, ?_⟩) ?_ ?_
  rotate_left
  · intro w'
    go_simp
    with_reducible rfl
  rotate_left
  · simp only [Act.put, List.setIfInBounds_toArray, List.set_cons_zero, List.set_cons_succ, i64_w, i32_w]
    rfl
  refine pure_ (i := 4) (N := some 8) (v := ?_) (a' := ?_) #[true, false, false, false, true, false, false, false, false, false, false, false, false, false] rfl rfl (by kernel_rfl) (fun _ _ _ h => h) (Or.inl ⟨by rfl, ?_⟩) ?_ ?_
  rotate_left
  · intro w'
    go_simp
    with_reducible rfl
  rotate_left
  · simp only [Act.put, List.setIfInBounds_toArray, List.set_cons_zero, List.set_cons_succ, i64_w, i32_w]
    rfl
  refine pure_ (i := 9) (N := some 13) (v := ?_) (a' := ?_) #[true, false, false, false, true, false, false, false, false, true, false, false, false, false] rfl rfl (by kernel_rfl) (fun _ _ _ h => h) (Or.inl ⟨by rfl, ?_⟩) ?_ ?_
  rotate_left
  · intro w'
    go_simp
    with_reducible rfl
  rotate_left
  · simp only [Act.put, List.setIfInBounds_toArray, List.set_cons_zero, List.set_cons_succ, i64_w, i32_w]
    rfl
  refine take_ (i := 1) (N := some 5) (v := ?_) (a' := ?_) #[true, true, false, false, true, false, false, false, false, true, false, false, false, false] rfl rfl (by kernel_rfl) (fun _ _ _ h => h) (Or.inl ⟨by rfl, ?_⟩) hHeld ?_ ?_
  rotate_left
  · rintro w' ⟨s0, s1, s2, s3, s4, s5, s6⟩
    go_simp
    with_reducible rfl
  rotate_left
  · simp only [Act.put, List.setIfInBounds_toArray, List.set_cons_zero, List.set_cons_succ, i64_w, i32_w]
    rfl
  refine take_ (i := 5) (N := some 9) (v := ?_) (a' := ?_) #[true, true, false, false, true, true, false, false, false, true, false, false, false, false] rfl rfl (by kernel_rfl) (fun _ _ _ h => h) (Or.inl ⟨by rfl, ?_⟩) hHeld ?_ ?_
  rotate_left
  · rintro w' ⟨s0, s1, s2, s3, s4, s5, s6⟩
    go_simp
    with_reducible rfl
  rotate_left
  · simp only [Act.put, List.setIfInBounds_toArray, List.set_cons_zero, List.set_cons_succ, i64_w, i32_w]
    rfl
  refine take_ (i := 10) (N := some 14) (v := ?_) (a' := ?_) #[true, true, false, false, true, true, false, false, false, true, true, false, false, false] rfl rfl (by kernel_rfl) (fun _ _ _ h => h) (Or.inl ⟨by rfl, ?_⟩) hHeld ?_ ?_
  rotate_left
  · rintro w' ⟨s0, s1, s2, s3, s4, s5, s6⟩
    go_simp
    with_reducible rfl
  rotate_left
  · simp only [Act.put, List.setIfInBounds_toArray, List.set_cons_zero, List.set_cons_succ, i64_w, i32_w]
    rfl
  refine one_ (i := 2) (N := some 6) #[true, true, true, false, true, true, false, false, false, true, true, false, false, false] rfl rfl (by kernel_rfl) (by decide) (fun K hK => ?_)
  have HT0 := hHeld.2.2.2.2.2.1.out
  refine goes_ Tryd.func24 (by kernel_rfl) rfl #[.int .u64 u0, .int .i64 10] (by rfl) rfl rfl (by simp only [List.map_toArray, List.map_cons, List.map_nil]; rfl) ?_
  with_reducible refine (fmt24 u0 H0.out _ HT0).mono ?_
  rintro e w3 ⟨rfl, hb⟩
  rw [← E0.out]
  refine ⟨_, rfl, ?_⟩
  refine hK.out _ _ (sv_on hb hHeld) (fun hHeld => ?_)
  clear hK K
  refine norm_ (a' := ?_) ?_ ?_
  rotate_left
  · show Act.put _ (some 6) _ = _
    simp only [Act.put, List.setIfInBounds_toArray, List.set_cons_zero, List.set_cons_succ, i64_w, i32_w]
    rfl
  refine pure_ (i := 3) (N := some 7) (v := ?_) (a' := ?_) #[true, true, true, true, true, true, false, false, false, true, true, false, false, false] rfl rfl (by kernel_rfl) (fun _ _ _ h => h) (Or.inl ⟨by rfl, ?_⟩) ?_ ?_
  rotate_left
  · intro w'
    go_simp
    with_reducible rfl
  rotate_left
  · simp only [Act.put, List.setIfInBounds_toArray, List.set_cons_zero, List.set_cons_succ, i64_w, i32_w]
    rfl
  refine one_ (i := 6) (N := some 10) #[true, true, true, true, true, true, true, false, false, true, true, false, false, false] rfl rfl (by kernel_rfl) (by decide) (fun K hK => ?_)
  have HT1 := hHeld.2.2.2.2.2.1.out
  refine goes_ Tryd.func24 (by kernel_rfl) rfl #[.int .u64 u1, .int .i64 10] (by rfl) rfl rfl (by simp only [List.map_toArray, List.map_cons, List.map_nil]; rfl) ?_
  with_reducible refine (fmt24 u1 H1.out _ HT1).mono ?_
  rintro e w3 ⟨rfl, hb⟩
  rw [← E1.out]
  refine ⟨_, rfl, ?_⟩
  refine hK.out _ _ (sv_on hb hHeld) (fun hHeld => ?_)
  clear hK K
  refine norm_ (a' := ?_) ?_ ?_
  rotate_left
  · show Act.put _ (some 10) _ = _
    simp only [Act.put, List.setIfInBounds_toArray, List.set_cons_zero, List.set_cons_succ, i64_w, i32_w]
    rfl
  refine pure_ (i := 7) (N := some 11) (v := ?_) (a' := ?_) #[true, true, true, true, true, true, true, true, false, true, true, false, false, false] rfl rfl (by kernel_rfl) (fun _ _ _ h => h) (Or.inl ⟨by rfl, ?_⟩) ?_ ?_
  rotate_left
  · intro w'
    go_simp
    with_reducible rfl
  rotate_left
  · simp only [Act.put, List.setIfInBounds_toArray, List.set_cons_zero, List.set_cons_succ, i64_w, i32_w]
    rfl
  refine pure_ (i := 8) (N := some 12) (v := ?_) (a' := ?_) #[true, true, true, true, true, true, true, true, true, true, true, false, false, false] rfl rfl (by kernel_rfl) (fun _ _ _ h => h) (Or.inl ⟨by rfl, ?_⟩) ?_ ?_
  rotate_left
  · intro w'
    go_simp
    with_reducible rfl
  rotate_left
  · simp only [Act.put, List.setIfInBounds_toArray, List.set_cons_zero, List.set_cons_succ, i64_w, i32_w]
    rfl
  refine one_ (i := 11) (N := some 15) #[true, true, true, true, true, true, true, true, true, true, true, true, false, false] rfl rfl (by kernel_rfl) (by decide) (fun K hK => ?_)
  have HT2 := hHeld.2.2.2.2.2.1.out
  refine goes_ Tryd.func24 (by kernel_rfl) rfl #[.int .u64 u2, .int .i64 10] (by rfl) rfl rfl (by simp only [List.map_toArray, List.map_cons, List.map_nil]; rfl) ?_
  with_reducible refine (fmt24 u2 H2.out _ HT2).mono ?_
  rintro e w3 ⟨rfl, hb⟩
  rw [← E2.out]
  refine ⟨_, rfl, ?_⟩
  refine hK.out _ _ (sv_on hb hHeld) (fun hHeld => ?_)
  clear hK K
  refine norm_ (a' := ?_) ?_ ?_
  rotate_left
  · show Act.put _ (some 15) _ = _
    simp only [Act.put, List.setIfInBounds_toArray, List.set_cons_zero, List.set_cons_succ, i64_w, i32_w]
    rfl
  refine pure_ (i := 12) (N := some 16) (v := ?_) (a' := ?_) #[true, true, true, true, true, true, true, true, true, true, true, true, true, false] rfl rfl (by kernel_rfl) (fun _ _ _ h => h) (Or.inl ⟨by rfl, ?_⟩) ?_ ?_
  rotate_left
  · intro w'
    go_simp
    with_reducible rfl
  rotate_left
  · simp only [Act.put, List.setIfInBounds_toArray, List.set_cons_zero, List.set_cons_succ, i64_w, i32_w]
    rfl
  refine pure_ (i := 13) (N := some 3) (v := ?_) (a' := ?_) #[true, true, true, true, true, true, true, true, true, true, true, true, true, true] rfl rfl (by kernel_rfl) (fun _ _ _ h => h) (Or.inl ⟨by rfl, ?_⟩) ?_ ?_
  rotate_left
  · intro w'
    go_simp
    with_reducible rfl
  rotate_left
  · simp only [Act.put, List.setIfInBounds_toArray, List.set_cons_zero, List.set_cons_succ, i64_w, i32_w]
    rfl
  refine done_ (by kernel_rfl) ?_
  have HB := Lib.hid hHeld.2.2.2.2.2.2.out
  obtain ⟨-, -, -, v3, v4, -, -⟩ := hHeld
  go_wp2
  go_ret
  exact ⟨rfl, HB.out⟩
set_option maxHeartbeats 8000000 in
set_option maxRecDepth 100000 in
theorem text12_01 (u0 u1 u2 : Nat) (pre mt o : ByteArray) (h0 : u0 < 18446744073709551616) (h1 : u1 < 18446744073709551616) (h2 : u2 < 18446744073709551616) (hs : pre.size + mt.size ≤ 100000) (hp : (pre.toList == []) = true) (hm : (mt.toList == []) = false) (w : World) (hT : GlobP w) :
    Calls Tryd.prog 12 #[.agg #[.int .u64 u0, .int .u64 u1, .int .u64 u2, .string pre, .string mt, .string o]] w fun e w' => e = .returned (.string (mkB (Lib.decDigits u0) ++ ⟨#[46]⟩ ++ mkB (Lib.decDigits u1) ++ ⟨#[46]⟩ ++ mkB (Lib.decDigits u2) ++ (⟨#[43]⟩ ++ mt))) ∧ Below w.heap.size w w' := by
  have HF := Lib.hid (sv_start u0 u1 u2 pre mt o hT)
  have H0 := Aside0.mk h0
  have H1 := Aside0.mk h1
  have H2 := Aside0.mk h2
  have b0 := dec_len u0 h0
  have b1 := dec_len u1 h1
  have b2 := dec_len u2 h2
  clear hT h0 h1 h2
  obtain ⟨d0, e0⟩ : ∃ d, d = mkB (Lib.decDigits u0) := ⟨_, rfl⟩
  obtain ⟨d1, e1⟩ : ∃ d, d = mkB (Lib.decDigits u1) := ⟨_, rfl⟩
  obtain ⟨d2, e2⟩ : ∃ d, d = mkB (Lib.decDigits u2) := ⟨_, rfl⟩
  rw [← e0] at b0
  rw [← e1] at b1
  rw [← e2] at b2
  rw [← e0, ← e1, ← e2]
  have E0 := Aside0.mk e0
  have E1 := Aside0.mk e1
  have E2 := Aside0.mk e2
  have s1 : (9223372036854775807 < d0.size + 1) = False := eq_false (by omega)
  have s2 : (9223372036854775807 < d0.size + 1 + d1.size) = False := eq_false (by omega)
  have s3 : (9223372036854775807 < d0.size + 1 + d1.size + 1) = False := eq_false (by omega)
  have s4 : (9223372036854775807 < d0.size + 1 + d1.size + 1 + d2.size) = False := eq_false (by omega)
  have s5 : (9223372036854775807 < 1 + pre.size) = False := eq_false (by omega)
  have s6 : (9223372036854775807 < d0.size + 1 + d1.size + 1 + d2.size + (1 + pre.size)) = False := eq_false (by omega)
  have s7 : (9223372036854775807 < 1 + mt.size) = False := eq_false (by omega)
  have s8 : (9223372036854775807 < d0.size + 1 + d1.size + 1 + d2.size + (1 + pre.size) + (1 + mt.size)) = False := eq_false (by omega)
  have s9 : (9223372036854775807 < d0.size + 1 + d1.size + 1 + d2.size + (1 + mt.size)) = False := eq_false (by omega)
  have q1 : (pre.toList != []) = !(pre.toList == []) := rfl
  rw [hp] at q1
  have q2 : (mt.toList != []) = !(mt.toList == []) := rfl
  rw [hm] at q2
  clear e0 e1 e2 b0 b1 b2 hs
  go_enter Tryd.func12, Tryd.ntmps12
  go_upto_region 1 with fail
  refine start_ (n := 14) (S := fun w' => SV w w.heap.size u0 u1 u2 pre mt o w') (ds := []) #[false, false, false, false, false, false, false, false, false, false, false, false, false, false] (by kernel_rfl) rfl rfl (sv_on (bl_drew (Below.refl _ _)) HF.out) (fun hHeld => ?_)
  refine pure_ (i := 0) (N := some 4) (v := ?_) (a' := ?_) #[true, false, false, false, false, false, false, false, false, false, false, false, false, false] rfl rfl (by kernel_rfl) (fun _ _ _ h => h) (Or.inl ⟨by rfl, ?_⟩) ?_ ?_
  rotate_left
  · intro w'
    go_simp
    with_reducible rfl
  rotate_left
  · simp only [Act.put, List.setIfInBounds_toArray, List.set_cons_zero, List.set_cons_succ, i64_w, i32_w]
    rfl
  refine pure_ (i := 4) (N := some 8) (v := ?_) (a' := ?_) #[true, false, false, false, true, false, false, false, false, false, false, false, false, false] rfl rfl (by kernel_rfl) (fun _ _ _ h => h) (Or.inl ⟨by rfl, ?_⟩) ?_ ?_
  rotate_left
  · intro w'
    go_simp
    with_reducible rfl
  rotate_left
  · simp only [Act.put, List.setIfInBounds_toArray, List.set_cons_zero, List.set_cons_succ, i64_w, i32_w]
    rfl
  refine pure_ (i := 9) (N := some 13) (v := ?_) (a' := ?_) #[true, false, false, false, true, false, false, false, false, true, false, false, false, false] rfl rfl (by kernel_rfl) (fun _ _ _ h => h) (Or.inl ⟨by rfl, ?_⟩) ?_ ?_
  rotate_left
  · intro w'
    go_simp
    with_reducible rfl
  rotate_left
  · simp only [Act.put, List.setIfInBounds_toArray, List.set_cons_zero, List.set_cons_succ, i64_w, i32_w]
    rfl
  refine take_ (i := 1) (N := some 5) (v := ?_) (a' := ?_) #[true, true, false, false, true, false, false, false, false, true, false, false, false, false] rfl rfl (by kernel_rfl) (fun _ _ _ h => h) (Or.inl ⟨by rfl, ?_⟩) hHeld ?_ ?_
  rotate_left
  · rintro w' ⟨s0, s1, s2, s3, s4, s5, s6⟩
    go_simp
    with_reducible rfl
  rotate_left
  · simp only [Act.put, List.setIfInBounds_toArray, List.set_cons_zero, List.set_cons_succ, i64_w, i32_w]
    rfl
  refine take_ (i := 5) (N := some 9) (v := ?_) (a' := ?_) #[true, true, false, false, true, true, false, false, false, true, false, false, false, false] rfl rfl (by kernel_rfl) (fun _ _ _ h => h) (Or.inl ⟨by rfl, ?_⟩) hHeld ?_ ?_
  rotate_left
  · rintro w' ⟨s0, s1, s2, s3, s4, s5, s6⟩
    go_simp
    with_reducible rfl
  rotate_left
  · simp only [Act.put, List.setIfInBounds_toArray, List.set_cons_zero, List.set_cons_succ, i64_w, i32_w]
    rfl
  refine take_ (i := 10) (N := some 14) (v := ?_) (a' := ?_) #[true, true, false, false, true, true, false, false, false, true, true, false, false, false] rfl rfl (by kernel_rfl) (fun _ _ _ h => h) (Or.inl ⟨by rfl, ?_⟩) hHeld ?_ ?_
  rotate_left
  · rintro w' ⟨s0, s1, s2, s3, s4, s5, s6⟩
    go_simp
    with_reducible rfl
  rotate_left
  · simp only [Act.put, List.setIfInBounds_toArray, List.set_cons_zero, List.set_cons_succ, i64_w, i32_w]
    rfl
  refine one_ (i := 2) (N := some 6) #[true, true, true, false, true, true, false, false, false, true, true, false, false, false] rfl rfl (by kernel_rfl) (by decide) (fun K hK => ?_)
  have HT0 := hHeld.2.2.2.2.2.1.out
  refine goes_ Tryd.func24 (by kernel_rfl) rfl #[.int .u64 u0, .int .i64 10] (by rfl) rfl rfl (by simp only [List.map_toArray, List.map_cons, List.map_nil]; rfl) ?_
  with_reducible refine (fmt24 u0 H0.out _ HT0).mono ?_
  rintro e w3 ⟨rfl, hb⟩
  rw [← E0.out]
  refine ⟨_, rfl, ?_⟩
  refine hK.out _ _ (sv_on hb hHeld) (fun hHeld => ?_)
  clear hK K
  refine norm_ (a' := ?_) ?_ ?_
  rotate_left
  · show Act.put _ (some 6) _ = _
    simp only [Act.put, List.setIfInBounds_toArray, List.set_cons_zero, List.set_cons_succ, i64_w, i32_w]
    rfl
  refine pure_ (i := 3) (N := some 7) (v := ?_) (a' := ?_) #[true, true, true, true, true, true, false, false, false, true, true, false, false, false] rfl rfl (by kernel_rfl) (fun _ _ _ h => h) (Or.inl ⟨by rfl, ?_⟩) ?_ ?_
  rotate_left
  · intro w'
    go_simp
    with_reducible rfl
  rotate_left
  · simp only [Act.put, List.setIfInBounds_toArray, List.set_cons_zero, List.set_cons_succ, i64_w, i32_w]
    rfl
  refine one_ (i := 6) (N := some 10) #[true, true, true, true, true, true, true, false, false, true, true, false, false, false] rfl rfl (by kernel_rfl) (by decide) (fun K hK => ?_)
  have HT1 := hHeld.2.2.2.2.2.1.out
  refine goes_ Tryd.func24 (by kernel_rfl) rfl #[.int .u64 u1, .int .i64 10] (by rfl) rfl rfl (by simp only [List.map_toArray, List.map_cons, List.map_nil]; rfl) ?_
  with_reducible refine (fmt24 u1 H1.out _ HT1).mono ?_
  rintro e w3 ⟨rfl, hb⟩
  rw [← E1.out]
  refine ⟨_, rfl, ?_⟩
  refine hK.out _ _ (sv_on hb hHeld) (fun hHeld => ?_)
  clear hK K
  refine norm_ (a' := ?_) ?_ ?_
  rotate_left
  · show Act.put _ (some 10) _ = _
    simp only [Act.put, List.setIfInBounds_toArray, List.set_cons_zero, List.set_cons_succ, i64_w, i32_w]
    rfl
  refine pure_ (i := 7) (N := some 11) (v := ?_) (a' := ?_) #[true, true, true, true, true, true, true, true, false, true, true, false, false, false] rfl rfl (by kernel_rfl) (fun _ _ _ h => h) (Or.inl ⟨by rfl, ?_⟩) ?_ ?_
  rotate_left
  · intro w'
    go_simp
    with_reducible rfl
  rotate_left
  · simp only [Act.put, List.setIfInBounds_toArray, List.set_cons_zero, List.set_cons_succ, i64_w, i32_w]
    rfl
  refine pure_ (i := 8) (N := some 12) (v := ?_) (a' := ?_) #[true, true, true, true, true, true, true, true, true, true, true, false, false, false] rfl rfl (by kernel_rfl) (fun _ _ _ h => h) (Or.inl ⟨by rfl, ?_⟩) ?_ ?_
  rotate_left
  · intro w'
    go_simp
    with_reducible rfl
  rotate_left
  · simp only [Act.put, List.setIfInBounds_toArray, List.set_cons_zero, List.set_cons_succ, i64_w, i32_w]
    rfl
  refine one_ (i := 11) (N := some 15) #[true, true, true, true, true, true, true, true, true, true, true, true, false, false] rfl rfl (by kernel_rfl) (by decide) (fun K hK => ?_)
  have HT2 := hHeld.2.2.2.2.2.1.out
  refine goes_ Tryd.func24 (by kernel_rfl) rfl #[.int .u64 u2, .int .i64 10] (by rfl) rfl rfl (by simp only [List.map_toArray, List.map_cons, List.map_nil]; rfl) ?_
  with_reducible refine (fmt24 u2 H2.out _ HT2).mono ?_
  rintro e w3 ⟨rfl, hb⟩
  rw [← E2.out]
  refine ⟨_, rfl, ?_⟩
  refine hK.out _ _ (sv_on hb hHeld) (fun hHeld => ?_)
  clear hK K
  refine norm_ (a' := ?_) ?_ ?_
  rotate_left
  · show Act.put _ (some 15) _ = _
    simp only [Act.put, List.setIfInBounds_toArray, List.set_cons_zero, List.set_cons_succ, i64_w, i32_w]
    rfl
  refine pure_ (i := 12) (N := some 16) (v := ?_) (a' := ?_) #[true, true, true, true, true, true, true, true, true, true, true, true, true, false] rfl rfl (by kernel_rfl) (fun _ _ _ h => h) (Or.inl ⟨by rfl, ?_⟩) ?_ ?_
  rotate_left
  · intro w'
    go_simp
    with_reducible rfl
  rotate_left
  · simp only [Act.put, List.setIfInBounds_toArray, List.set_cons_zero, List.set_cons_succ, i64_w, i32_w]
    rfl
  refine pure_ (i := 13) (N := some 3) (v := ?_) (a' := ?_) #[true, true, true, true, true, true, true, true, true, true, true, true, true, true] rfl rfl (by kernel_rfl) (fun _ _ _ h => h) (Or.inl ⟨by rfl, ?_⟩) ?_ ?_
  rotate_left
  · intro w'
    go_simp
    with_reducible rfl
  rotate_left
  · simp only [Act.put, List.setIfInBounds_toArray, List.set_cons_zero, List.set_cons_succ, i64_w, i32_w]
    rfl
  refine done_ (by kernel_rfl) ?_
  have HB := Lib.hid hHeld.2.2.2.2.2.2.out
  obtain ⟨-, -, -, v3, v4, -, -⟩ := hHeld
  go_wp2
  go_ret
  exact ⟨rfl, HB.out⟩
set_option maxHeartbeats 8000000 in
set_option maxRecDepth 100000 in
theorem text12_10 (u0 u1 u2 : Nat) (pre mt o : ByteArray) (h0 : u0 < 18446744073709551616) (h1 : u1 < 18446744073709551616) (h2 : u2 < 18446744073709551616) (hs : pre.size + mt.size ≤ 100000) (hp : (pre.toList == []) = false) (hm : (mt.toList == []) = true) (w : World) (hT : GlobP w) :
    Calls Tryd.prog 12 #[.agg #[.int .u64 u0, .int .u64 u1, .int .u64 u2, .string pre, .string mt, .string o]] w fun e w' => e = .returned (.string (mkB (Lib.decDigits u0) ++ ⟨#[46]⟩ ++ mkB (Lib.decDigits u1) ++ ⟨#[46]⟩ ++ mkB (Lib.decDigits u2) ++ (⟨#[45]⟩ ++ pre))) ∧ Below w.heap.size w w' := by
  have HF := Lib.hid (sv_start u0 u1 u2 pre mt o hT)
  have H0 := Aside0.mk h0
  have H1 := Aside0.mk h1
  have H2 := Aside0.mk h2
  have b0 := dec_len u0 h0
  have b1 := dec_len u1 h1
  have b2 := dec_len u2 h2
  clear hT h0 h1 h2
  obtain ⟨d0, e0⟩ : ∃ d, d = mkB (Lib.decDigits u0) := ⟨_, rfl⟩
  obtain ⟨d1, e1⟩ : ∃ d, d = mkB (Lib.decDigits u1) := ⟨_, rfl⟩
  obtain ⟨d2, e2⟩ : ∃ d, d = mkB (Lib.decDigits u2) := ⟨_, rfl⟩
  rw [← e0] at b0
  rw [← e1] at b1
  rw [← e2] at b2
  rw [← e0, ← e1, ← e2]
  have E0 := Aside0.mk e0
  have E1 := Aside0.mk e1
  have E2 := Aside0.mk e2
  have s1 : (9223372036854775807 < d0.size + 1) = False := eq_false (by omega)
  have s2 : (9223372036854775807 < d0.size + 1 + d1.size) = False := eq_false (by omega)
  have s3 : (9223372036854775807 < d0.size + 1 + d1.size + 1) = False := eq_false (by omega)
  have s4 : (9223372036854775807 < d0.size + 1 + d1.size + 1 + d2.size) = False := eq_false (by omega)
  have s5 : (9223372036854775807 < 1 + pre.size) = False := eq_false (by omega)
  have s6 : (9223372036854775807 < d0.size + 1 + d1.size + 1 + d2.size + (1 + pre.size)) = False := eq_false (by omega)
  have s7 : (9223372036854775807 < 1 + mt.size) = False := eq_false (by omega)
  have s8 : (9223372036854775807 < d0.size + 1 + d1.size + 1 + d2.size + (1 + pre.size) + (1 + mt.size)) = False := eq_false (by omega)
  have s9 : (9223372036854775807 < d0.size + 1 + d1.size + 1 + d2.size + (1 + mt.size)) = False := eq_false (by omega)
  have q1 : (pre.toList != []) = !(pre.toList == []) := rfl
  rw [hp] at q1
  have q2 : (mt.toList != []) = !(mt.toList == []) := rfl
  rw [hm] at q2
  clear e0 e1 e2 b0 b1 b2 hs
  go_enter Tryd.func12, Tryd.ntmps12
  go_upto_region 1 with fail
  refine start_ (n := 14) (S := fun w' => SV w w.heap.size u0 u1 u2 pre mt o w') (ds := []) #[false, false, false, false, false, false, false, false, false, false, false, false, false, false] (by kernel_rfl) rfl rfl (sv_on (bl_drew (Below.refl _ _)) HF.out) (fun hHeld => ?_)
  refine pure_ (i := 0) (N := some 4) (v := ?_) (a' := ?_) #[true, false, false, false, false, false, false, false, false, false, false, false, false, false] rfl rfl (by kernel_rfl) (fun _ _ _ h => h) (Or.inl ⟨by rfl, ?_⟩) ?_ ?_
  rotate_left
  · intro w'
    go_simp
    with_reducible rfl
  rotate_left
  · simp only [Act.put, List.setIfInBounds_toArray, List.set_cons_zero, List.set_cons_succ, i64_w, i32_w]
    rfl
  refine pure_ (i := 4) (N := some 8) (v := ?_) (a' := ?_) #[true, false, false, false, true, false, false, false, false, false, false, false, false, false] rfl rfl (by kernel_rfl) (fun _ _ _ h => h) (Or.inl ⟨by rfl, ?_⟩) ?_ ?_
  rotate_left
  · intro w'
    go_simp
    with_reducible rfl
  rotate_left
  · simp only [Act.put, List.setIfInBounds_toArray, List.set_cons_zero, List.set_cons_succ, i64_w, i32_w]
    rfl
  refine pure_ (i := 9) (N := some 13) (v := ?_) (a' := ?_) #[true, false, false, false, true, false, false, false, false, true, false, false, false, false] rfl rfl (by kernel_rfl) (fun _ _ _ h => h) (Or.inl ⟨by rfl, ?_⟩) ?_ ?_
  rotate_left
  · intro w'
    go_simp
    with_reducible rfl
  rotate_left
  · simp only [Act.put, List.setIfInBounds_toArray, List.set_cons_zero, List.set_cons_succ, i64_w, i32_w]
    rfl
  refine take_ (i := 1) (N := some 5) (v := ?_) (a' := ?_) #[true, true, false, false, true, false, false, false, false, true, false, false, false, false] rfl rfl (by kernel_rfl) (fun _ _ _ h => h) (Or.inl ⟨by rfl, ?_⟩) hHeld ?_ ?_
  rotate_left
  · rintro w' ⟨s0, s1, s2, s3, s4, s5, s6⟩
    go_simp
    with_reducible rfl
  rotate_left
  · simp only [Act.put, List.setIfInBounds_toArray, List.set_cons_zero, List.set_cons_succ, i64_w, i32_w]
    rfl
  refine take_ (i := 5) (N := some 9) (v := ?_) (a' := ?_) #[true, true, false, false, true, true, false, false, false, true, false, false, false, false] rfl rfl (by kernel_rfl) (fun _ _ _ h => h) (Or.inl ⟨by rfl, ?_⟩) hHeld ?_ ?_
  rotate_left
  · rintro w' ⟨s0, s1, s2, s3, s4, s5, s6⟩
    go_simp
    with_reducible rfl
  rotate_left
  · simp only [Act.put, List.setIfInBounds_toArray, List.set_cons_zero, List.set_cons_succ, i64_w, i32_w]
    rfl
  refine take_ (i := 10) (N := some 14) (v := ?_) (a' := ?_) #[true, true, false, false, true, true, false, false, false, true, true, false, false, false] rfl rfl (by kernel_rfl) (fun _ _ _ h => h) (Or.inl ⟨by rfl, ?_⟩) hHeld ?_ ?_
  rotate_left
  · rintro w' ⟨s0, s1, s2, s3, s4, s5, s6⟩
    go_simp
    with_reducible rfl
  rotate_left
  · simp only [Act.put, List.setIfInBounds_toArray, List.set_cons_zero, List.set_cons_succ, i64_w, i32_w]
    rfl
  refine one_ (i := 2) (N := some 6) #[true, true, true, false, true, true, false, false, false, true, true, false, false, false] rfl rfl (by kernel_rfl) (by decide) (fun K hK => ?_)
  have HT0 := hHeld.2.2.2.2.2.1.out
  refine goes_ Tryd.func24 (by kernel_rfl) rfl #[.int .u64 u0, .int .i64 10] (by rfl) rfl rfl (by simp only [List.map_toArray, List.map_cons, List.map_nil]; rfl) ?_
  with_reducible refine (fmt24 u0 H0.out _ HT0).mono ?_
  rintro e w3 ⟨rfl, hb⟩
  rw [← E0.out]
  refine ⟨_, rfl, ?_⟩
  refine hK.out _ _ (sv_on hb hHeld) (fun hHeld => ?_)
  clear hK K
  refine norm_ (a' := ?_) ?_ ?_
  rotate_left
  · show Act.put _ (some 6) _ = _
    simp only [Act.put, List.setIfInBounds_toArray, List.set_cons_zero, List.set_cons_succ, i64_w, i32_w]
    rfl
  refine pure_ (i := 3) (N := some 7) (v := ?_) (a' := ?_) #[true, true, true, true, true, true, false, false, false, true, true, false, false, false] rfl rfl (by kernel_rfl) (fun _ _ _ h => h) (Or.inl ⟨by rfl, ?_⟩) ?_ ?_
  rotate_left
  · intro w'
    go_simp
    with_reducible rfl
  rotate_left
  · simp only [Act.put, List.setIfInBounds_toArray, List.set_cons_zero, List.set_cons_succ, i64_w, i32_w]
    rfl
  refine one_ (i := 6) (N := some 10) #[true, true, true, true, true, true, true, false, false, true, true, false, false, false] rfl rfl (by kernel_rfl) (by decide) (fun K hK => ?_)
  have HT1 := hHeld.2.2.2.2.2.1.out
  refine goes_ Tryd.func24 (by kernel_rfl) rfl #[.int .u64 u1, .int .i64 10] (by rfl) rfl rfl (by simp only [List.map_toArray, List.map_cons, List.map_nil]; rfl) ?_
  with_reducible refine (fmt24 u1 H1.out _ HT1).mono ?_
  rintro e w3 ⟨rfl, hb⟩
  rw [← E1.out]
  refine ⟨_, rfl, ?_⟩
  refine hK.out _ _ (sv_on hb hHeld) (fun hHeld => ?_)
  clear hK K
  refine norm_ (a' := ?_) ?_ ?_
  rotate_left
  · show Act.put _ (some 10) _ = _
    simp only [Act.put, List.setIfInBounds_toArray, List.set_cons_zero, List.set_cons_succ, i64_w, i32_w]
    rfl
  refine pure_ (i := 7) (N := some 11) (v := ?_) (a' := ?_) #[true, true, true, true, true, true, true, true, false, true, true, false, false, false] rfl rfl (by kernel_rfl) (fun _ _ _ h => h) (Or.inl ⟨by rfl, ?_⟩) ?_ ?_
  rotate_left
  · intro w'
    go_simp
    with_reducible rfl
  rotate_left
  · simp only [Act.put, List.setIfInBounds_toArray, List.set_cons_zero, List.set_cons_succ, i64_w, i32_w]
    rfl
  refine pure_ (i := 8) (N := some 12) (v := ?_) (a' := ?_) #[true, true, true, true, true, true, true, true, true, true, true, false, false, false] rfl rfl (by kernel_rfl) (fun _ _ _ h => h) (Or.inl ⟨by rfl, ?_⟩) ?_ ?_
  rotate_left
  · intro w'
    go_simp
    with_reducible rfl
  rotate_left
  · simp only [Act.put, List.setIfInBounds_toArray, List.set_cons_zero, List.set_cons_succ, i64_w, i32_w]
    rfl
  refine one_ (i := 11) (N := some 15) #[true, true, true, true, true, true, true, true, true, true, true, true, false, false] rfl rfl (by kernel_rfl) (by decide) (fun K hK => ?_)
  have HT2 := hHeld.2.2.2.2.2.1.out
  refine goes_ Tryd.func24 (by kernel_rfl) rfl #[.int .u64 u2, .int .i64 10] (by rfl) rfl rfl (by simp only [List.map_toArray, List.map_cons, List.map_nil]; rfl) ?_
  with_reducible refine (fmt24 u2 H2.out _ HT2).mono ?_
  rintro e w3 ⟨rfl, hb⟩
  rw [← E2.out]
  refine ⟨_, rfl, ?_⟩
  refine hK.out _ _ (sv_on hb hHeld) (fun hHeld => ?_)
  clear hK K
  refine norm_ (a' := ?_) ?_ ?_
  rotate_left
  · show Act.put _ (some 15) _ = _
    simp only [Act.put, List.setIfInBounds_toArray, List.set_cons_zero, List.set_cons_succ, i64_w, i32_w]
    rfl
  refine pure_ (i := 12) (N := some 16) (v := ?_) (a' := ?_) #[true, true, true, true, true, true, true, true, true, true, true, true, true, false] rfl rfl (by kernel_rfl) (fun _ _ _ h => h) (Or.inl ⟨by rfl, ?_⟩) ?_ ?_
  rotate_left
  · intro w'
    go_simp
    with_reducible rfl
  rotate_left
  · simp only [Act.put, List.setIfInBounds_toArray, List.set_cons_zero, List.set_cons_succ, i64_w, i32_w]
    rfl
  refine pure_ (i := 13) (N := some 3) (v := ?_) (a' := ?_) #[true, true, true, true, true, true, true, true, true, true, true, true, true, true] rfl rfl (by kernel_rfl) (fun _ _ _ h => h) (Or.inl ⟨by rfl, ?_⟩) ?_ ?_
  rotate_left
  · intro w'
    go_simp
    with_reducible rfl
  rotate_left
  · simp only [Act.put, List.setIfInBounds_toArray, List.set_cons_zero, List.set_cons_succ, i64_w, i32_w]
    rfl
  refine done_ (by kernel_rfl) ?_
  have HB := Lib.hid hHeld.2.2.2.2.2.2.out
  obtain ⟨-, -, -, v3, v4, -, -⟩ := hHeld
  go_wp2
  go_ret
  exact ⟨rfl, HB.out⟩
set_option maxHeartbeats 8000000 in
set_option maxRecDepth 100000 in
theorem text12_11 (u0 u1 u2 : Nat) (pre mt o : ByteArray) (h0 : u0 < 18446744073709551616) (h1 : u1 < 18446744073709551616) (h2 : u2 < 18446744073709551616) (hs : pre.size + mt.size ≤ 100000) (hp : (pre.toList == []) = false) (hm : (mt.toList == []) = false) (w : World) (hT : GlobP w) :
    Calls Tryd.prog 12 #[.agg #[.int .u64 u0, .int .u64 u1, .int .u64 u2, .string pre, .string mt, .string o]] w fun e w' => e = .returned (.string (mkB (Lib.decDigits u0) ++ ⟨#[46]⟩ ++ mkB (Lib.decDigits u1) ++ ⟨#[46]⟩ ++ mkB (Lib.decDigits u2) ++ (⟨#[45]⟩ ++ pre) ++ (⟨#[43]⟩ ++ mt))) ∧ Below w.heap.size w w' := by
  have HF := Lib.hid (sv_start u0 u1 u2 pre mt o hT)
  have H0 := Aside0.mk h0
  have H1 := Aside0.mk h1
  have H2 := Aside0.mk h2
  have b0 := dec_len u0 h0
  have b1 := dec_len u1 h1
  have b2 := dec_len u2 h2
  clear hT h0 h1 h2
  obtain ⟨d0, e0⟩ : ∃ d, d = mkB (Lib.decDigits u0) := ⟨_, rfl⟩
  obtain ⟨d1, e1⟩ : ∃ d, d = mkB (Lib.decDigits u1) := ⟨_, rfl⟩
  obtain ⟨d2, e2⟩ : ∃ d, d = mkB (Lib.decDigits u2) := ⟨_, rfl⟩
  rw [← e0] at b0
  rw [← e1] at b1
  rw [← e2] at b2
  rw [← e0, ← e1, ← e2]
  have E0 := Aside0.mk e0
  have E1 := Aside0.mk e1
  have E2 := Aside0.mk e2
  have s1 : (9223372036854775807 < d0.size + 1) = False := eq_false (by omega)
  have s2 : (9223372036854775807 < d0.size + 1 + d1.size) = False := eq_false (by omega)
  have s3 : (9223372036854775807 < d0.size + 1 + d1.size + 1) = False := eq_false (by omega)
  have s4 : (9223372036854775807 < d0.size + 1 + d1.size + 1 + d2.size) = False := eq_false (by omega)
  have s5 : (9223372036854775807 < 1 + pre.size) = False := eq_false (by omega)
  have s6 : (9223372036854775807 < d0.size + 1 + d1.size + 1 + d2.size + (1 + pre.size)) = False := eq_false (by omega)
  have s7 : (9223372036854775807 < 1 + mt.size) = False := eq_false (by omega)
  have s8 : (9223372036854775807 < d0.size + 1 + d1.size + 1 + d2.size + (1 + pre.size) + (1 + mt.size)) = False := eq_false (by omega)
  have s9 : (9223372036854775807 < d0.size + 1 + d1.size + 1 + d2.size + (1 + mt.size)) = False := eq_false (by omega)
  have q1 : (pre.toList != []) = !(pre.toList == []) := rfl
  rw [hp] at q1
  have q2 : (mt.toList != []) = !(mt.toList == []) := rfl
  rw [hm] at q2
  clear e0 e1 e2 b0 b1 b2 hs
  go_enter Tryd.func12, Tryd.ntmps12
  go_upto_region 1 with fail
  refine start_ (n := 14) (S := fun w' => SV w w.heap.size u0 u1 u2 pre mt o w') (ds := []) #[false, false, false, false, false, false, false, false, false, false, false, false, false, false] (by kernel_rfl) rfl rfl (sv_on (bl_drew (Below.refl _ _)) HF.out) (fun hHeld => ?_)
  refine pure_ (i := 0) (N := some 4) (v := ?_) (a' := ?_) #[true, false, false, false, false, false, false, false, false, false, false, false, false, false] rfl rfl (by kernel_rfl) (fun _ _ _ h => h) (Or.inl ⟨by rfl, ?_⟩) ?_ ?_
  rotate_left
  · intro w'
    go_simp
    with_reducible rfl
  rotate_left
  · simp only [Act.put, List.setIfInBounds_toArray, List.set_cons_zero, List.set_cons_succ, i64_w, i32_w]
    rfl
  refine pure_ (i := 4) (N := some 8) (v := ?_) (a' := ?_) #[true, false, false, false, true, false, false, false, false, false, false, false, false, false] rfl rfl (by kernel_rfl) (fun _ _ _ h => h) (Or.inl ⟨by rfl, ?_⟩) ?_ ?_
  rotate_left
  · intro w'
    go_simp
    with_reducible rfl
  rotate_left
  · simp only [Act.put, List.setIfInBounds_toArray, List.set_cons_zero, List.set_cons_succ, i64_w, i32_w]
    rfl
  refine pure_ (i := 9) (N := some 13) (v := ?_) (a' := ?_) #[true, false, false, false, true, false, false, false, false, true, false, false, false, false] rfl rfl (by kernel_rfl) (fun _ _ _ h => h) (Or.inl ⟨by rfl, ?_⟩) ?_ ?_
  rotate_left
  · intro w'
    go_simp
    with_reducible rfl
  rotate_left
  · simp only [Act.put, List.setIfInBounds_toArray, List.set_cons_zero, List.set_cons_succ, i64_w, i32_w]
    rfl
  refine take_ (i := 1) (N := some 5) (v := ?_) (a' := ?_) #[true, true, false, false, true, false, false, false, false, true, false, false, false, false] rfl rfl (by kernel_rfl) (fun _ _ _ h => h) (Or.inl ⟨by rfl, ?_⟩) hHeld ?_ ?_
  rotate_left
  · rintro w' ⟨s0, s1, s2, s3, s4, s5, s6⟩
    go_simp
    with_reducible rfl
  rotate_left
  · simp only [Act.put, List.setIfInBounds_toArray, List.set_cons_zero, List.set_cons_succ, i64_w, i32_w]
    rfl
  refine take_ (i := 5) (N := some 9) (v := ?_) (a' := ?_) #[true, true, false, false, true, true, false, false, false, true, false, false, false, false] rfl rfl (by kernel_rfl) (fun _ _ _ h => h) (Or.inl ⟨by rfl, ?_⟩) hHeld ?_ ?_
  rotate_left
  · rintro w' ⟨s0, s1, s2, s3, s4, s5, s6⟩
    go_simp
    with_reducible rfl
  rotate_left
  · simp only [Act.put, List.setIfInBounds_toArray, List.set_cons_zero, List.set_cons_succ, i64_w, i32_w]
    rfl
  refine take_ (i := 10) (N := some 14) (v := ?_) (a' := ?_) #[true, true, false, false, true, true, false, false, false, true, true, false, false, false] rfl rfl (by kernel_rfl) (fun _ _ _ h => h) (Or.inl ⟨by rfl, ?_⟩) hHeld ?_ ?_
  rotate_left
  · rintro w' ⟨s0, s1, s2, s3, s4, s5, s6⟩
    go_simp
    with_reducible rfl
  rotate_left
  · simp only [Act.put, List.setIfInBounds_toArray, List.set_cons_zero, List.set_cons_succ, i64_w, i32_w]
    rfl
  refine one_ (i := 2) (N := some 6) #[true, true, true, false, true, true, false, false, false, true, true, false, false, false] rfl rfl (by kernel_rfl) (by decide) (fun K hK => ?_)
  have HT0 := hHeld.2.2.2.2.2.1.out
  refine goes_ Tryd.func24 (by kernel_rfl) rfl #[.int .u64 u0, .int .i64 10] (by rfl) rfl rfl (by simp only [List.map_toArray, List.map_cons, List.map_nil]; rfl) ?_
  with_reducible refine (fmt24 u0 H0.out _ HT0).mono ?_
  rintro e w3 ⟨rfl, hb⟩
  rw [← E0.out]
  refine ⟨_, rfl, ?_⟩
  refine hK.out _ _ (sv_on hb hHeld) (fun hHeld => ?_)
  clear hK K
  refine norm_ (a' := ?_) ?_ ?_
  rotate_left
  · show Act.put _ (some 6) _ = _
    simp only [Act.put, List.setIfInBounds_toArray, List.set_cons_zero, List.set_cons_succ, i64_w, i32_w]
    rfl
  refine pure_ (i := 3) (N := some 7) (v := ?_) (a' := ?_) #[true, true, true, true, true, true, false, false, false, true, true, false, false, false] rfl rfl (by kernel_rfl) (fun _ _ _ h => h) (Or.inl ⟨by rfl, ?_⟩) ?_ ?_
  rotate_left
  · intro w'
    go_simp
    with_reducible rfl
  rotate_left
  · simp only [Act.put, List.setIfInBounds_toArray, List.set_cons_zero, List.set_cons_succ, i64_w, i32_w]
    rfl
  refine one_ (i := 6) (N := some 10) #[true, true, true, true, true, true, true, false, false, true, true, false, false, false] rfl rfl (by kernel_rfl) (by decide) (fun K hK => ?_)
  have HT1 := hHeld.2.2.2.2.2.1.out
  refine goes_ Tryd.func24 (by kernel_rfl) rfl #[.int .u64 u1, .int .i64 10] (by rfl) rfl rfl (by simp only [List.map_toArray, List.map_cons, List.map_nil]; rfl) ?_
  with_reducible refine (fmt24 u1 H1.out _ HT1).mono ?_
  rintro e w3 ⟨rfl, hb⟩
  rw [← E1.out]
  refine ⟨_, rfl, ?_⟩
  refine hK.out _ _ (sv_on hb hHeld) (fun hHeld => ?_)
  clear hK K
  refine norm_ (a' := ?_) ?_ ?_
  rotate_left
  · show Act.put _ (some 10) _ = _
    simp only [Act.put, List.setIfInBounds_toArray, List.set_cons_zero, List.set_cons_succ, i64_w, i32_w]
    rfl
  refine pure_ (i := 7) (N := some 11) (v := ?_) (a' := ?_) #[true, true, true, true, true, true, true, true, false, true, true, false, false, false] rfl rfl (by kernel_rfl) (fun _ _ _ h => h) (Or.inl ⟨by rfl, ?_⟩) ?_ ?_
  rotate_left
  · intro w'
    go_simp
    with_reducible rfl
  rotate_left
  · simp only [Act.put, List.setIfInBounds_toArray, List.set_cons_zero, List.set_cons_succ, i64_w, i32_w]
    rfl
  refine pure_ (i := 8) (N := some 12) (v := ?_) (a' := ?_) #[true, true, true, true, true, true, true, true, true, true, true, false, false, false] rfl rfl (by kernel_rfl) (fun _ _ _ h => h) (Or.inl ⟨by rfl, ?_⟩) ?_ ?_
  rotate_left
  · intro w'
    go_simp
    with_reducible rfl
  rotate_left
  · simp only [Act.put, List.setIfInBounds_toArray, List.set_cons_zero, List.set_cons_succ, i64_w, i32_w]
    rfl
  refine one_ (i := 11) (N := some 15) #[true, true, true, true, true, true, true, true, true, true, true, true, false, false] rfl rfl (by kernel_rfl) (by decide) (fun K hK => ?_)
  have HT2 := hHeld.2.2.2.2.2.1.out
  refine goes_ Tryd.func24 (by kernel_rfl) rfl #[.int .u64 u2, .int .i64 10] (by rfl) rfl rfl (by simp only [List.map_toArray, List.map_cons, List.map_nil]; rfl) ?_
  with_reducible refine (fmt24 u2 H2.out _ HT2).mono ?_
  rintro e w3 ⟨rfl, hb⟩
  rw [← E2.out]
  refine ⟨_, rfl, ?_⟩
  refine hK.out _ _ (sv_on hb hHeld) (fun hHeld => ?_)
  clear hK K
  refine norm_ (a' := ?_) ?_ ?_
  rotate_left
  · show Act.put _ (some 15) _ = _
    simp only [Act.put, List.setIfInBounds_toArray, List.set_cons_zero, List.set_cons_succ, i64_w, i32_w]
    rfl
  refine pure_ (i := 12) (N := some 16) (v := ?_) (a' := ?_) #[true, true, true, true, true, true, true, true, true, true, true, true, true, false] rfl rfl (by kernel_rfl) (fun _ _ _ h => h) (Or.inl ⟨by rfl, ?_⟩) ?_ ?_
  rotate_left
  · intro w'
    go_simp
    with_reducible rfl
  rotate_left
  · simp only [Act.put, List.setIfInBounds_toArray, List.set_cons_zero, List.set_cons_succ, i64_w, i32_w]
    rfl
  refine pure_ (i := 13) (N := some 3) (v := ?_) (a' := ?_) #[true, true, true, true, true, true, true, true, true, true, true, true, true, true] rfl rfl (by kernel_rfl) (fun _ _ _ h => h) (Or.inl ⟨by rfl, ?_⟩) ?_ ?_
  rotate_left
  · intro w'
    go_simp
    with_reducible rfl
  rotate_left
  · simp only [Act.put, List.setIfInBounds_toArray, List.set_cons_zero, List.set_cons_succ, i64_w, i32_w]
    rfl
  refine done_ (by kernel_rfl) ?_
  have HB := Lib.hid hHeld.2.2.2.2.2.2.out
  obtain ⟨-, -, -, v3, v4, -, -⟩ := hHeld
  go_wp2
  go_ret
  exact ⟨rfl, HB.out⟩
end Go.Proofs.YtdomidlpkffigaaDoor
