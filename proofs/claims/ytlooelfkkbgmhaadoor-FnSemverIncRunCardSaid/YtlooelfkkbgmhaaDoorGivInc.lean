/-
  The increments of a version, over any version whose numbers are not the greatest: the numbers' text comes along, and is not looked at.
-/
import Derived.Test.YtlooelfkkbgmhaaDoorCmp
import Derived.Test.YtlooelfkkbgmhaaDoorShelfI
import Derived.Lib.ItoaMem
import Derived.BigCall
import Derived.BigGuard
import Derived.Deep.RegionWith
import Derived.Deep.QuietTactic
import Derived.BigQuiet
set_option linter.unusedVariables false
set_option linter.unusedSimpArgs false
namespace Go.Proofs.YtlooelfkkbgmhaaDoor
open Go Go.RowKit Go.Sort Go.Lib Go.Proofs.YtlooelfkkbgmhaaDoorW.PrintWords Go.Proofs.YtlooelfkkbgmhaaDoorW.PrintLast

/-- a text of at most 64 bytes is handed back, and all that was is as it was -/
def ShortText (w : World) (e : Ending) (w' : World) : Prop := ∃ s : ByteArray, e = .returned (.string s) ∧ s.size ≤ 64 ∧ Below w.heap.size w w'

theorem holds0 (w : World) (T : TypeId) (nd : Nat) (hs : nd ≤ 24) : Holds (fun (b : UInt8) => Value.int .u8 (b.toNat : Int)) (w.alloc (.cells Lib.zeros24 T)) w.heap.size 0 (Array.replicate nd (0 : UInt8)) := fun j hj => by
  have hj' : j < nd := by simpa using hj
  refine ⟨?_, World.frozen?_alloc_new _ _ _ _⟩
  rw [World.cell?_alloc_new, Lib.zeros24_at _ (by omega), getElem!_pos _ j hj]
  simp
theorem put_below (w : World) (o : Obj) (dk : Array UInt8) (k : Nat) : Below w.heap.size w ((putRow (fun (b : UInt8) => Value.int .u8 (b.toNat : Int)) (w.alloc o) w.heap.size 0 dk).drewN k) := by
  rw [alloc_eq_grow]
  obtain ⟨os', _, e⟩ := putRow_grow_new (fun (b : UInt8) => Value.int .u8 (b.toNat : Int)) w #[o] w.heap.size 0 dk (Nat.le_refl _)
  rw [e]
  have h : Below w.heap.size w (grow w os') := by
    refine ⟨rfl, rfl, rfl, ?_, ?_⟩
    · simp [grow]
    · intro b hb
      simp [grow, Array.getElem?_append_left hb]
  exact ⟨h.os, h.tape, h.output, h.size, h.block⟩
theorem fu_small (i : Nat) (hi : i < 100) (w : World) : Calls Tryd.prog 142 #[.int .u64 i, .int .i64 10] w (ShortText w) := by
  go_enter Tryd.func142, Tryd.ntmps142
  go_wp2_with (go_at_call 146; refine (Tryd.internal_strconv_small i hi _).mono ?_; rintro e w' ⟨rfl, rfl⟩)
  go_ret
  have h20 : Lib.nDigits i ≤ 20 := by
    by_cases h : 1 ≤ i
    · have := Lib.numDigits_eq i h (by omega); split at this <;> omega
    · obtain rfl : i = 0 := by omega
      rw [show Lib.nDigits 0 = 1 by simp [Lib.nDigits]]; omega
  refine ⟨_, rfl, ?_, Below.refl _ _⟩
  have := Lib.decDigits_length i
  simp [ByteArray.size, this]
  omega

set_option maxHeartbeats 6400000 in
set_option maxRecDepth 100000 in
theorem fu_large (u : Nat) (hu1 : 100 ≤ u) (hu64 : u < 18446744073709551616) (w : World) (htab : GlobT w) : Calls Tryd.prog 142 #[.int .u64 u, .int .i64 10] w (ShortText w) := by
  have hnd20 : Lib.nDigits u ≤ 20 := by have := Lib.numDigits_eq u (by omega) hu64; split at this <;> omega
  have hal : Tryd.prog.arrayLen 131 = 24 := by kernel_rfl
  have hsl1 : ∀ W, (Instr.sliceAt 131 (.pointer (some ⟨w.heap.size, 0, none⟩)) none (some (.int .i64 (Lib.nDigits u : Int))) none).run Tryd.prog W = .ok (.slice (some ⟨w.heap.size, 0, none⟩) (Lib.nDigits u) 24) W := fun W => by
    rw [run_sliceAt_array_h W 131 ⟨w.heap.size, 0, none⟩ (by kernel_rfl) .i64 (Lib.nDigits u : Int) (by omega) (by rw [hal]; omega)]
    go_simp
  have hH0 := holds0 w 131 (Lib.nDigits u) (by omega)
  have hfmt := Tryd.internal_strconv_formatBase10 w.heap.size 0 24 u (Array.replicate (Lib.nDigits u) 0) (w.alloc (.cells Lib.zeros24 131)) hH0 (by rw [Array.size_replicate]; exact Lib.lt_pow_nDigits u) hu64 (by rw [Array.size_replicate]; omega)
  rw [Array.size_replicate] at hfmt
  have HH0 := Lib.hid hH0
  have HT := Lib.hid htab
  clear hH0 hal htab
  go_enter Tryd.func142, Tryd.ntmps142
  go_wp2_with (first
    | (go_at_call 147; refine (Tryd.internal_strconv_numDigits u (by omega) hu64 _ (Lib.tabIs_alloc HT.out _)).mono ?_; rintro e w' ⟨rfl, rfl⟩))
  go_at_call 148
  refine hfmt.mono ?_
  rintro e w' ⟨rfl, k, v', dk, rfl, hF⟩
  have hcv : (convert 42 9 (.slice (some ⟨w.heap.size, 0, none⟩) (Lib.nDigits u) 24)).run Tryd.prog ((putRow (fun (b : UInt8) => Value.int .u8 (b.toNat : Int)) (w.alloc (.cells Lib.zeros24 131)) w.heap.size 0 dk).drewN k) = .ok (.string ⟨(Lib.decDigits u).toArray⟩) ((putRow (fun (b : UInt8) => Value.int .u8 (b.toNat : Int)) (w.alloc (.cells Lib.zeros24 131)) w.heap.size 0 dk).drewN k) := by
    have h := run_convert_bytes_back (P := Tryd.prog) ((putRow (fun (b : UInt8) => Value.int .u8 (b.toNat : Int)) (w.alloc (.cells Lib.zeros24 131)) w.heap.size 0 dk).drewN k) 42 9 5 ⟨w.heap.size, 0, none⟩ 24 (Lib.decDigits u) Tryd.underlying42 Tryd.underlying5 Tryd.underlying9 (fun j hj => by
      rw [Lib.row_is_numeral hF j hj, Lib.add_plain, World.cell?_drewN]
      exact cell?_putRow (fun (b : UInt8) => Value.int .u8 (b.toNat : Int)) _ w.heap.size 0 _ dk HH0.out (by rw [hF.size, Array.size_replicate]) j (by rw [hF.size]; rw [Lib.decDigits_length] at hj; exact hj))
    rw [Lib.decDigits_length] at h
    exact h
  go_wp2
  go_ret
  refine ⟨_, rfl, ?_, ?_⟩
  · have := Lib.decDigits_length u
    simp [ByteArray.size, this]
    omega
  · exact put_below w _ dk k

/-- a number of 64 bits -/
def U64 (v : Int) : Prop := 0 ≤ v ∧ v < 18446744073709551616
theorem fu_any (v : Int) (h : U64 v) (w : World) (hG : GlobT w) : Calls Tryd.prog 136 #[.int .u64 v, .int .i64 10] w (ShortText w) := by
  obtain ⟨h0, h1⟩ := h
  have key : Calls Tryd.prog 142 #[.int .u64 v, .int .i64 10] w (ShortText w) := by
    obtain ⟨u, rfl⟩ : ∃ u : Nat, v = u := ⟨v.toNat, by omega⟩
    by_cases h : u < 100
    · exact fu_small u h w
    · exact fu_large u (by omega) (by omega) w hG
  have HK := Lib.hid key
  clear key hG
  go_enter Tryd.func136, Tryd.ntmps136
  go_wp2_with (go_at_call 142; refine (HK.out).mono ?_; rintro e w' ⟨s, rfl, hs, hb⟩)
  go_ret
  exact ⟨s, rfl, hs, hb⟩

/-- all that was is as it was, the table of the powers of ten, too -/
structure Sta (w W : World) : Prop where
  bel : Below w.heap.size w W
  tab : GlobT W
theorem sta_on {w W W' : World} (h : Hid (Sta w W)) (hb : Below W.heap.size W W') : Hid (Sta w W') := Lib.hid ⟨bl_on h.out.bel hb, globT_below h.out.tab hb⟩
abbrev Box6 (w : World) (a b c : Int) (s m o : ByteArray) (W : World) : Prop := W.cell? ⟨w.heap.size, 0, none⟩ = some (.int .u64 a) ∧ W.cell? ⟨w.heap.size, 1, none⟩ = some (.int .u64 b) ∧ W.cell? ⟨w.heap.size, 2, none⟩ = some (.int .u64 c) ∧ W.cell? ⟨w.heap.size, 3, none⟩ = some (.string s) ∧ W.cell? ⟨w.heap.size, 4, none⟩ = some (.string m) ∧ W.cell? ⟨w.heap.size, 5, none⟩ = some (.string o) ∧ Hid (Sta w W)
theorem box6_start (w : World) (a b c : Int) (s m o : ByteArray) (hG : GlobT w) : Box6 w a b c s m o (w.alloc (.cells #[.int .u64 a, .int .u64 b, .int .u64 c, .string s, .string m, .string o] 70)) := by
  have hb : Below w.heap.size w (w.alloc (.cells #[.int .u64 a, .int .u64 b, .int .u64 c, .string s, .string m, .string o] 70)) := bl_alloc (Below.refl _ _) _
  exact ⟨by go_simp, by go_simp, by go_simp, by go_simp, by go_simp, by go_simp, Lib.hid ⟨hb, globT_below hG hb⟩⟩

set_option maxHeartbeats 4000000 in
set_option maxRecDepth 100000 in
theorem String_any (a b c : Int) (o : ByteArray) (ha : U64 a) (hb : U64 b) (hc : U64 c) (w : World) (hG : GlobT w) :
    Calls Tryd.prog 110 #[.agg #[.int .u64 a, .int .u64 b, .int .u64 c, .string ⟨#[]⟩, .string ⟨#[]⟩, .string o]] w fun e w' => ∃ s : ByteArray, e = .returned (.string s) ∧ s.size ≤ 256 ∧ Below w.heap.size w w' := by
  have HA := Lib.hid ha
  have HBb := Lib.hid hb
  have HC := Lib.hid hc
  have HB := Lib.hid (box6_start w a b c ⟨#[]⟩ ⟨#[]⟩ o hG)
  clear hG ha hb hc
  go_enter Tryd.func110, Tryd.ntmps110
  go_wp2_with fail
  refine start_ (n := 14) (S := fun w' => w'.cell? ⟨w.heap.size, 0, none⟩ = some (.int .u64 a) ∧ w'.cell? ⟨w.heap.size, 1, none⟩ = some (.int .u64 b) ∧ w'.cell? ⟨w.heap.size, 2, none⟩ = some (.int .u64 c) ∧ w'.cell? ⟨w.heap.size, 3, none⟩ = some (.string ⟨#[]⟩) ∧ w'.cell? ⟨w.heap.size, 4, none⟩ = some (.string ⟨#[]⟩) ∧ w'.cell? ⟨w.heap.size, 5, none⟩ = some (.string o) ∧ Hid (Sta w w')) (ds := []) #[false, false, false, false, false, false, false, false, false, false, false, false, false, false] (by kernel_rfl) rfl rfl ⟨cell_on (drew_below _) HB.out.1, cell_on (drew_below _) HB.out.2.1, cell_on (drew_below _) HB.out.2.2.1, cell_on (drew_below _) HB.out.2.2.2.1, cell_on (drew_below _) HB.out.2.2.2.2.1, cell_on (drew_below _) HB.out.2.2.2.2.2.1, sta_on HB.out.2.2.2.2.2.2 (drew_below _)⟩ (fun hHeld => ?_)
  refine pure_ (i := 0) (N := some 4) (v := ?_) (a' := ?_) #[true, false, false, false, false, false, false, false, false, false, false, false, false, false] rfl rfl (by kernel_rfl) (fun _ _ _ h => h) (Or.inl ⟨by rfl, ?_⟩) ?_ ?_
  rotate_left
  · intro w'
    go_simp
    with_reducible rfl
  rotate_left
  · simp only [Act.put, List.setIfInBounds_toArray, List.set_cons_zero, List.set_cons_succ, i64_w, i32_w]
    rfl
  refine pure_ (i := 4) (N := some 8) (v := ?_) (a' := ?_) #[true, false, false, false, true, false, false, false, false, false, false, false, false, false] rfl rfl (by kernel_rfl) (fun _ _ _ h => h) (Or.inl ⟨by rfl, ?_⟩) ?_ ?_
  rotate_left
  · intro w'
    go_simp
    with_reducible rfl
  rotate_left
  · simp only [Act.put, List.setIfInBounds_toArray, List.set_cons_zero, List.set_cons_succ, i64_w, i32_w]
    rfl
  refine pure_ (i := 9) (N := some 13) (v := ?_) (a' := ?_) #[true, false, false, false, true, false, false, false, false, true, false, false, false, false] rfl rfl (by kernel_rfl) (fun _ _ _ h => h) (Or.inl ⟨by rfl, ?_⟩) ?_ ?_
  rotate_left
  · intro w'
    go_simp
    with_reducible rfl
  rotate_left
  · simp only [Act.put, List.setIfInBounds_toArray, List.set_cons_zero, List.set_cons_succ, i64_w, i32_w]
    rfl
  refine take_ (i := 1) (N := some 5) (v := ?_) (a' := ?_) #[true, true, false, false, true, false, false, false, false, true, false, false, false, false] rfl rfl (by kernel_rfl) (fun _ _ _ h => h) (Or.inl ⟨by rfl, ?_⟩) hHeld ?_ ?_
  rotate_left
  · rintro w' ⟨s0, s1, s2, s3, s4, s5, s6⟩
    go_simp
    with_reducible rfl
  rotate_left
  · simp only [Act.put, List.setIfInBounds_toArray, List.set_cons_zero, List.set_cons_succ, i64_w, i32_w]
    rfl
  refine take_ (i := 5) (N := some 9) (v := ?_) (a' := ?_) #[true, true, false, false, true, true, false, false, false, true, false, false, false, false] rfl rfl (by kernel_rfl) (fun _ _ _ h => h) (Or.inl ⟨by rfl, ?_⟩) hHeld ?_ ?_
  rotate_left
  · rintro w' ⟨s0, s1, s2, s3, s4, s5, s6⟩
    go_simp
    with_reducible rfl
  rotate_left
  · simp only [Act.put, List.setIfInBounds_toArray, List.set_cons_zero, List.set_cons_succ, i64_w, i32_w]
    rfl
  refine take_ (i := 10) (N := some 14) (v := ?_) (a' := ?_) #[true, true, false, false, true, true, false, false, false, true, true, false, false, false] rfl rfl (by kernel_rfl) (fun _ _ _ h => h) (Or.inl ⟨by rfl, ?_⟩) hHeld ?_ ?_
  rotate_left
  · rintro w' ⟨s0, s1, s2, s3, s4, s5, s6⟩
    go_simp
    with_reducible rfl
  rotate_left
  · simp only [Act.put, List.setIfInBounds_toArray, List.set_cons_zero, List.set_cons_succ, i64_w, i32_w]
    rfl
  refine one_ (i := 2) (N := some 6) #[true, true, true, false, true, true, false, false, false, true, true, false, false, false] rfl rfl (by kernel_rfl) (by decide) (fun K hK => ?_)
  refine goes_ Tryd.func136 (by kernel_rfl) rfl #[.int .u64 a, .int .i64 10] (by rfl) rfl rfl (by simp only [List.map_toArray, List.map_cons, List.map_nil]; rfl) ?_
  with_reducible refine (fu_any a HA.out _ hHeld.2.2.2.2.2.2.out.tab).mono ?_
  rintro e w3 ⟨s0, rfl, hs0, hb⟩
  refine ⟨_, rfl, ?_⟩
  have q0 := eq_false (show ¬ 9223372036854775807 < s0.size + 1 by omega)
  refine hK.out _ _ ⟨cell_on hb hHeld.1, cell_on hb hHeld.2.1, cell_on hb hHeld.2.2.1, cell_on hb hHeld.2.2.2.1, cell_on hb hHeld.2.2.2.2.1, cell_on hb hHeld.2.2.2.2.2.1, sta_on hHeld.2.2.2.2.2.2 hb⟩ (fun hHeld => ?_)
  clear hK K
  refine norm_ (a' := ?_) ?_ ?_
  rotate_left
  · show Act.put _ (some 6) _ = _
    simp only [Act.put, List.setIfInBounds_toArray, List.set_cons_zero, List.set_cons_succ, i64_w, i32_w]
    rfl
  refine pure_ (i := 3) (N := some 7) (v := ?_) (a' := ?_) #[true, true, true, true, true, true, false, false, false, true, true, false, false, false] rfl rfl (by kernel_rfl) (fun _ _ _ h => h) (Or.inl ⟨by rfl, ?_⟩) ?_ ?_
  rotate_left
  · intro w'
    go_simp
    with_reducible rfl
  rotate_left
  · simp only [Act.put, List.setIfInBounds_toArray, List.set_cons_zero, List.set_cons_succ, i64_w, i32_w]
    rfl
  refine one_ (i := 6) (N := some 10) #[true, true, true, true, true, true, true, false, false, true, true, false, false, false] rfl rfl (by kernel_rfl) (by decide) (fun K hK => ?_)
  refine goes_ Tryd.func136 (by kernel_rfl) rfl #[.int .u64 b, .int .i64 10] (by rfl) rfl rfl (by simp only [List.map_toArray, List.map_cons, List.map_nil]; rfl) ?_
  with_reducible refine (fu_any b HBb.out _ hHeld.2.2.2.2.2.2.out.tab).mono ?_
  rintro e w3 ⟨s1, rfl, hs1, hb⟩
  refine ⟨_, rfl, ?_⟩
  have q1 := eq_false (show ¬ 9223372036854775807 < s0.size + 1 + s1.size by omega)
  have q2 := eq_false (show ¬ 9223372036854775807 < s0.size + 1 + s1.size + 1 by omega)
  refine hK.out _ _ ⟨cell_on hb hHeld.1, cell_on hb hHeld.2.1, cell_on hb hHeld.2.2.1, cell_on hb hHeld.2.2.2.1, cell_on hb hHeld.2.2.2.2.1, cell_on hb hHeld.2.2.2.2.2.1, sta_on hHeld.2.2.2.2.2.2 hb⟩ (fun hHeld => ?_)
  clear hK K
  refine norm_ (a' := ?_) ?_ ?_
  rotate_left
  · show Act.put _ (some 10) _ = _
    simp only [Act.put, List.setIfInBounds_toArray, List.set_cons_zero, List.set_cons_succ, i64_w, i32_w]
    rfl
  refine pure_ (i := 7) (N := some 11) (v := ?_) (a' := ?_) #[true, true, true, true, true, true, true, true, false, true, true, false, false, false] rfl rfl (by kernel_rfl) (fun _ _ _ h => h) (Or.inl ⟨by rfl, ?_⟩) ?_ ?_
  rotate_left
  · intro w'
    go_simp
    with_reducible rfl
  rotate_left
  · simp only [Act.put, List.setIfInBounds_toArray, List.set_cons_zero, List.set_cons_succ, i64_w, i32_w]
    rfl
  refine pure_ (i := 8) (N := some 12) (v := ?_) (a' := ?_) #[true, true, true, true, true, true, true, true, true, true, true, false, false, false] rfl rfl (by kernel_rfl) (fun _ _ _ h => h) (Or.inl ⟨by rfl, ?_⟩) ?_ ?_
  rotate_left
  · intro w'
    go_simp
    with_reducible rfl
  rotate_left
  · simp only [Act.put, List.setIfInBounds_toArray, List.set_cons_zero, List.set_cons_succ, i64_w, i32_w]
    rfl
  refine one_ (i := 11) (N := some 15) #[true, true, true, true, true, true, true, true, true, true, true, true, false, false] rfl rfl (by kernel_rfl) (by decide) (fun K hK => ?_)
  refine goes_ Tryd.func136 (by kernel_rfl) rfl #[.int .u64 c, .int .i64 10] (by rfl) rfl rfl (by simp only [List.map_toArray, List.map_cons, List.map_nil]; rfl) ?_
  with_reducible refine (fu_any c HC.out _ hHeld.2.2.2.2.2.2.out.tab).mono ?_
  rintro e w3 ⟨s2, rfl, hs2, hb⟩
  refine ⟨_, rfl, ?_⟩
  have q3 := eq_false (show ¬ 9223372036854775807 < s0.size + 1 + s1.size + 1 + s2.size by omega)
  refine hK.out _ _ ⟨cell_on hb hHeld.1, cell_on hb hHeld.2.1, cell_on hb hHeld.2.2.1, cell_on hb hHeld.2.2.2.1, cell_on hb hHeld.2.2.2.2.1, cell_on hb hHeld.2.2.2.2.2.1, sta_on hHeld.2.2.2.2.2.2 hb⟩ (fun hHeld => ?_)
  clear hK K
  refine norm_ (a' := ?_) ?_ ?_
  rotate_left
  · show Act.put _ (some 15) _ = _
    simp only [Act.put, List.setIfInBounds_toArray, List.set_cons_zero, List.set_cons_succ, i64_w, i32_w]
    rfl
  refine pure_ (i := 12) (N := some 16) (v := ?_) (a' := ?_) #[true, true, true, true, true, true, true, true, true, true, true, true, true, false] rfl rfl (by kernel_rfl) (fun _ _ _ h => h) (Or.inl ⟨by rfl, ?_⟩) ?_ ?_
  rotate_left
  · intro w'
    go_simp
    with_reducible rfl
  rotate_left
  · simp only [Act.put, List.setIfInBounds_toArray, List.set_cons_zero, List.set_cons_succ, i64_w, i32_w]
    rfl
  refine pure_ (i := 13) (N := some 3) (v := ?_) (a' := ?_) #[true, true, true, true, true, true, true, true, true, true, true, true, true, true] rfl rfl (by kernel_rfl) (fun _ _ _ h => h) (Or.inl ⟨by rfl, ?_⟩) ?_ ?_
  rotate_left
  · intro w'
    go_simp
    with_reducible rfl
  rotate_left
  · simp only [Act.put, List.setIfInBounds_toArray, List.set_cons_zero, List.set_cons_succ, i64_w, i32_w]
    rfl
  refine done_ (by kernel_rfl) ?_
  have HH := Lib.hid hHeld
  clear hHeld
  obtain ⟨c0, c1, c2, c3, c4, c5, hh⟩ := HH.out
  go_wp2_with fail
  go_ret
  refine ⟨_, rfl, ?_, hh.out.bel⟩
  simp only [ByteArray.size_append]
  have e : (⟨#[46]⟩ : ByteArray).size = 1 := rfl
  omega

set_option maxRecDepth 100000 in
theorem vprefix_any (a b c : Int) (s m : ByteArray) (w : World) :
    Calls Tryd.prog 109 #[.agg #[.int .u64 a, .int .u64 b, .int .u64 c, .string s, .string m, .string ⟨#[]⟩]] w fun e w' => e = .returned (.string ⟨#[]⟩) ∧ Below w.heap.size w w' := by
  go_enter Tryd.func109, Tryd.ntmps109
  go_wp2_with fail
  go_ret
  exact ⟨rfl, bl_alloc (Below.refl _ _) _⟩

theorem frozen_on {w w' : World} {x : Addr} {v : Value} (hb : Below w.heap.size w w') (h : w.cell? x = some v) (f : w.frozen? x = false) : w'.frozen? x = false :=
  (hb.frozen (World.block_lt_of_cell? w _ h)).trans f
set_option maxRecDepth 100000 in
theorem put5 (W : World) (q : Nat) (v0 v1 v2 v3 v4 u0 u1 u2 u3 u4 : Value) (h0 : W.cell? ⟨q, 0, none⟩ = some u0) (h1 : W.cell? ⟨q, 1, none⟩ = some u1) (h2 : W.cell? ⟨q, 2, none⟩ = some u2) (h3 : W.cell? ⟨q, 3, none⟩ = some u3) (h4 : W.cell? ⟨q, 4, none⟩ = some u4) (fn : Func) (hfn : fn.results = #[ResultVar.cell 2 24]) (tmps : Array Value) (ht : tmps[2]? = some (.pointer (some ⟨q, 0, none⟩))) :
    (results fn tmps).run Tryd.prog (((((W.setCell ⟨q, 0, none⟩ v0).setCell ⟨q, 1, none⟩ v1).setCell ⟨q, 2, none⟩ v2).setCell ⟨q, 3, none⟩ v3).setCell ⟨q, 4, none⟩ v4) = .ok (.agg #[v0, v1, v2, v3, v4]) (((((W.setCell ⟨q, 0, none⟩ v0).setCell ⟨q, 1, none⟩ v1).setCell ⟨q, 2, none⟩ v2).setCell ⟨q, 3, none⟩ v3).setCell ⟨q, 4, none⟩ v4) := by
  generalize hW' : ((((W.setCell ⟨q, 0, none⟩ v0).setCell ⟨q, 1, none⟩ v1).setCell ⟨q, 2, none⟩ v2).setCell ⟨q, 3, none⟩ v3).setCell ⟨q, 4, none⟩ v4 = W'
  have c0 : W'.cell? ⟨q, 0, none⟩ = some v0 := by subst hW'; go_simp
  have c1 : W'.cell? ⟨q, 1, none⟩ = some v1 := by subst hW'; go_simp
  have c2 : W'.cell? ⟨q, 2, none⟩ = some v2 := by subst hW'; go_simp
  have c3 : W'.cell? ⟨q, 3, none⟩ = some v3 := by subst hW'; go_simp
  have c4 : W'.cell? ⟨q, 4, none⟩ = some v4 := by subst hW'; go_simp
  clear hW'
  simp [results, hfn, go_sem, ht, c0, c1, c2, c3, c4]
set_option maxRecDepth 100000 in
theorem put6 (W : World) (q : Nat) (v0 v1 v2 v3 v4 v5 u0 u1 u2 u3 u4 u5 : Value) (h0 : W.cell? ⟨q, 0, none⟩ = some u0) (h1 : W.cell? ⟨q, 1, none⟩ = some u1) (h2 : W.cell? ⟨q, 2, none⟩ = some u2) (h3 : W.cell? ⟨q, 3, none⟩ = some u3) (h4 : W.cell? ⟨q, 4, none⟩ = some u4) (h5 : W.cell? ⟨q, 5, none⟩ = some u5) (fn : Func) (hfn : fn.results = #[ResultVar.cell 2 70]) (tmps : Array Value) (ht : tmps[2]? = some (.pointer (some ⟨q, 0, none⟩))) :
    (results fn tmps).run Tryd.prog ((((((W.setCell ⟨q, 0, none⟩ v0).setCell ⟨q, 1, none⟩ v1).setCell ⟨q, 2, none⟩ v2).setCell ⟨q, 3, none⟩ v3).setCell ⟨q, 4, none⟩ v4).setCell ⟨q, 5, none⟩ v5) = .ok (.agg #[v0, v1, v2, v3, v4, v5]) ((((((W.setCell ⟨q, 0, none⟩ v0).setCell ⟨q, 1, none⟩ v1).setCell ⟨q, 2, none⟩ v2).setCell ⟨q, 3, none⟩ v3).setCell ⟨q, 4, none⟩ v4).setCell ⟨q, 5, none⟩ v5) := by
  generalize hW' : (((((W.setCell ⟨q, 0, none⟩ v0).setCell ⟨q, 1, none⟩ v1).setCell ⟨q, 2, none⟩ v2).setCell ⟨q, 3, none⟩ v3).setCell ⟨q, 4, none⟩ v4).setCell ⟨q, 5, none⟩ v5 = W'
  have c0 : W'.cell? ⟨q, 0, none⟩ = some v0 := by subst hW'; go_simp
  have c1 : W'.cell? ⟨q, 1, none⟩ = some v1 := by subst hW'; go_simp
  have c2 : W'.cell? ⟨q, 2, none⟩ = some v2 := by subst hW'; go_simp
  have c3 : W'.cell? ⟨q, 3, none⟩ = some v3 := by subst hW'; go_simp
  have c4 : W'.cell? ⟨q, 4, none⟩ = some v4 := by subst hW'; go_simp
  have c5 : W'.cell? ⟨q, 5, none⟩ = some v5 := by subst hW'; go_simp
  clear hW'
  simp [results, hfn, go_sem, ht, c0, c1, c2, c3, c4, c5]
abbrev IncS (w : World) (a b c x y z : Int) (s m : ByteArray) (W : World) : Prop := W.cell? ⟨w.heap.size, 0, none⟩ = some (.int .u64 a) ∧ W.cell? ⟨w.heap.size, 1, none⟩ = some (.int .u64 b) ∧ W.cell? ⟨w.heap.size, 2, none⟩ = some (.int .u64 c) ∧ W.cell? ⟨w.heap.size, 3, none⟩ = some (.string s) ∧ W.cell? ⟨w.heap.size, 4, none⟩ = some (.string m) ∧ W.cell? ⟨w.heap.size, 5, none⟩ = some (.string ⟨#[]⟩) ∧ W.cell? ⟨w.heap.size + 1, 0, none⟩ = some (.int .u64 0) ∧ W.cell? ⟨w.heap.size + 1, 1, none⟩ = some (.int .u64 0) ∧ W.cell? ⟨w.heap.size + 1, 2, none⟩ = some (.int .u64 0) ∧ W.cell? ⟨w.heap.size + 1, 3, none⟩ = some (.string ⟨#[]⟩) ∧ W.cell? ⟨w.heap.size + 1, 4, none⟩ = some (.string ⟨#[]⟩) ∧ W.cell? ⟨w.heap.size + 1, 5, none⟩ = some (.string ⟨#[]⟩) ∧ W.frozen? ⟨w.heap.size + 1, 0, none⟩ = false ∧ W.frozen? ⟨w.heap.size + 1, 1, none⟩ = false ∧ W.frozen? ⟨w.heap.size + 1, 2, none⟩ = false ∧ W.frozen? ⟨w.heap.size + 1, 3, none⟩ = false ∧ W.frozen? ⟨w.heap.size + 1, 4, none⟩ = false ∧ W.frozen? ⟨w.heap.size + 1, 5, none⟩ = false ∧ W.cell? ⟨w.heap.size + 1 + 1, 0, none⟩ = some (.int .u64 x) ∧ W.cell? ⟨w.heap.size + 1 + 1, 1, none⟩ = some (.int .u64 y) ∧ W.cell? ⟨w.heap.size + 1 + 1, 2, none⟩ = some (.int .u64 z) ∧ W.cell? ⟨w.heap.size + 1 + 1, 3, none⟩ = some (.string ⟨#[]⟩) ∧ W.cell? ⟨w.heap.size + 1 + 1, 4, none⟩ = some (.string ⟨#[]⟩) ∧ W.cell? ⟨w.heap.size + 1 + 1, 5, none⟩ = some (.string ⟨#[]⟩) ∧ W.frozen? ⟨w.heap.size + 1 + 1, 0, none⟩ = false ∧ W.frozen? ⟨w.heap.size + 1 + 1, 1, none⟩ = false ∧ W.frozen? ⟨w.heap.size + 1 + 1, 2, none⟩ = false ∧ W.frozen? ⟨w.heap.size + 1 + 1, 3, none⟩ = false ∧ W.frozen? ⟨w.heap.size + 1 + 1, 4, none⟩ = false ∧ W.frozen? ⟨w.heap.size + 1 + 1, 5, none⟩ = false ∧ Hid (Sta w W)
theorem inc_start (w : World) (a b c x y z : Int) (s m : ByteArray) (hG : GlobT w) : IncS w a b c x y z s m (((w.alloc (.cells #[.int .u64 a, .int .u64 b, .int .u64 c, .string s, .string m, .string ⟨#[]⟩] 70)).alloc (.cells #[.int .u64 0, .int .u64 0, .int .u64 0, .string ⟨#[]⟩, .string ⟨#[]⟩, .string ⟨#[]⟩] 70)).alloc (.cells #[.int .u64 x, .int .u64 y, .int .u64 z, .string ⟨#[]⟩, .string ⟨#[]⟩, .string ⟨#[]⟩] 70)) := by
  refine ⟨?_, ?_, ?_, ?_, ?_, ?_, ?_, ?_, ?_, ?_, ?_, ?_, ?_, ?_, ?_, ?_, ?_, ?_, ?_, ?_, ?_, ?_, ?_, ?_, ?_, ?_, ?_, ?_, ?_, ?_, ?_⟩
  all_goals first | (go_simp; done) | exact Lib.hid ⟨by repeat (first | exact Below.refl _ _ | apply bl_alloc), globT_below hG (by repeat (first | exact Below.refl _ _ | apply bl_alloc))⟩

set_option maxHeartbeats 4000000 in
set_option maxRecDepth 100000 in
theorem IncPatch_rel (a b c : Int) (s m : ByteArray) (ha : U64 a) (hb : U64 b) (hc : 0 ≤ c ∧ c < 18446744073709551615) (g : s.toList = []) (w : World) (hG : GlobT w) :
    Calls Tryd.prog 67 #[.agg #[.int .u64 a, .int .u64 b, .int .u64 c, .string s, .string m, .string ⟨#[]⟩]] w fun e w' => ∃ o : ByteArray, e = .returned (.agg #[.int .u64 a, .int .u64 b, .int .u64 (c + 1), .string ⟨#[]⟩, .string ⟨#[]⟩, .string o]) ∧ Below w.heap.size w w' := by
  have g1 : s.toList.isEmpty = true := by rw [g]; rfl
  have g2 : (!s.toList.isEmpty) = false := by rw [g]; rfl
  obtain ⟨hc0, hc1⟩ := hc
  have n1 : (c == 18446744073709551615) = false := by simp; omega
  have HA := Lib.hid ha
  have HBb := Lib.hid hb
  have HC : Hid (U64 (c + 1)) := Lib.hid ⟨by omega, by omega⟩
  clear ha hb g
  have HB := Lib.hid (inc_start w a b c a b (c + 1) s m hG)
  have HG := Lib.hid hG
  clear hG
  go_enter Tryd.func67, Tryd.ntmps67
  go_wp2_with fail
  refine start_ (n := 8) (S := fun w' => w'.cell? ⟨w.heap.size, 0, none⟩ = some (.int .u64 a) ∧ w'.cell? ⟨w.heap.size, 1, none⟩ = some (.int .u64 b) ∧ w'.cell? ⟨w.heap.size, 2, none⟩ = some (.int .u64 c) ∧ w'.cell? ⟨w.heap.size, 3, none⟩ = some (.string s) ∧ w'.cell? ⟨w.heap.size, 4, none⟩ = some (.string m) ∧ w'.cell? ⟨w.heap.size, 5, none⟩ = some (.string ⟨#[]⟩) ∧ w'.cell? ⟨w.heap.size + 1, 0, none⟩ = some (.int .u64 0) ∧ w'.cell? ⟨w.heap.size + 1, 1, none⟩ = some (.int .u64 0) ∧ w'.cell? ⟨w.heap.size + 1, 2, none⟩ = some (.int .u64 0) ∧ w'.cell? ⟨w.heap.size + 1, 3, none⟩ = some (.string ⟨#[]⟩) ∧ w'.cell? ⟨w.heap.size + 1, 4, none⟩ = some (.string ⟨#[]⟩) ∧ w'.cell? ⟨w.heap.size + 1, 5, none⟩ = some (.string ⟨#[]⟩) ∧ w'.frozen? ⟨w.heap.size + 1, 0, none⟩ = false ∧ w'.frozen? ⟨w.heap.size + 1, 1, none⟩ = false ∧ w'.frozen? ⟨w.heap.size + 1, 2, none⟩ = false ∧ w'.frozen? ⟨w.heap.size + 1, 3, none⟩ = false ∧ w'.frozen? ⟨w.heap.size + 1, 4, none⟩ = false ∧ w'.frozen? ⟨w.heap.size + 1, 5, none⟩ = false ∧ w'.cell? ⟨w.heap.size + 1 + 1, 0, none⟩ = some (.int .u64 a) ∧ w'.cell? ⟨w.heap.size + 1 + 1, 1, none⟩ = some (.int .u64 b) ∧ w'.cell? ⟨w.heap.size + 1 + 1, 2, none⟩ = some (.int .u64 (c + 1)) ∧ w'.cell? ⟨w.heap.size + 1 + 1, 3, none⟩ = some (.string ⟨#[]⟩) ∧ w'.cell? ⟨w.heap.size + 1 + 1, 4, none⟩ = some (.string ⟨#[]⟩) ∧ w'.cell? ⟨w.heap.size + 1 + 1, 5, none⟩ = some (.string ⟨#[]⟩) ∧ w'.frozen? ⟨w.heap.size + 1 + 1, 0, none⟩ = false ∧ w'.frozen? ⟨w.heap.size + 1 + 1, 1, none⟩ = false ∧ w'.frozen? ⟨w.heap.size + 1 + 1, 2, none⟩ = false ∧ w'.frozen? ⟨w.heap.size + 1 + 1, 3, none⟩ = false ∧ w'.frozen? ⟨w.heap.size + 1 + 1, 4, none⟩ = false ∧ w'.frozen? ⟨w.heap.size + 1 + 1, 5, none⟩ = false ∧ Hid (Sta w w')) (ds := [7]) #[false, false, false, false, false, false, false, false] (by kernel_rfl) rfl rfl ⟨cell_on (drew_below _) HB.out.1, cell_on (drew_below _) HB.out.2.1, cell_on (drew_below _) HB.out.2.2.1, cell_on (drew_below _) HB.out.2.2.2.1, cell_on (drew_below _) HB.out.2.2.2.2.1, cell_on (drew_below _) HB.out.2.2.2.2.2.1, cell_on (drew_below _) HB.out.2.2.2.2.2.2.1, cell_on (drew_below _) HB.out.2.2.2.2.2.2.2.1, cell_on (drew_below _) HB.out.2.2.2.2.2.2.2.2.1, cell_on (drew_below _) HB.out.2.2.2.2.2.2.2.2.2.1, cell_on (drew_below _) HB.out.2.2.2.2.2.2.2.2.2.2.1, cell_on (drew_below _) HB.out.2.2.2.2.2.2.2.2.2.2.2.1, frozen_on (drew_below _) HB.out.2.2.2.2.2.2.1 HB.out.2.2.2.2.2.2.2.2.2.2.2.2.1, frozen_on (drew_below _) HB.out.2.2.2.2.2.2.2.1 HB.out.2.2.2.2.2.2.2.2.2.2.2.2.2.1, frozen_on (drew_below _) HB.out.2.2.2.2.2.2.2.2.1 HB.out.2.2.2.2.2.2.2.2.2.2.2.2.2.2.1, frozen_on (drew_below _) HB.out.2.2.2.2.2.2.2.2.2.1 HB.out.2.2.2.2.2.2.2.2.2.2.2.2.2.2.2.1, frozen_on (drew_below _) HB.out.2.2.2.2.2.2.2.2.2.2.1 HB.out.2.2.2.2.2.2.2.2.2.2.2.2.2.2.2.2.1, frozen_on (drew_below _) HB.out.2.2.2.2.2.2.2.2.2.2.2.1 HB.out.2.2.2.2.2.2.2.2.2.2.2.2.2.2.2.2.2.1, cell_on (drew_below _) HB.out.2.2.2.2.2.2.2.2.2.2.2.2.2.2.2.2.2.2.1, cell_on (drew_below _) HB.out.2.2.2.2.2.2.2.2.2.2.2.2.2.2.2.2.2.2.2.1, cell_on (drew_below _) HB.out.2.2.2.2.2.2.2.2.2.2.2.2.2.2.2.2.2.2.2.2.1, cell_on (drew_below _) HB.out.2.2.2.2.2.2.2.2.2.2.2.2.2.2.2.2.2.2.2.2.2.1, cell_on (drew_below _) HB.out.2.2.2.2.2.2.2.2.2.2.2.2.2.2.2.2.2.2.2.2.2.2.1, cell_on (drew_below _) HB.out.2.2.2.2.2.2.2.2.2.2.2.2.2.2.2.2.2.2.2.2.2.2.2.1, frozen_on (drew_below _) HB.out.2.2.2.2.2.2.2.2.2.2.2.2.2.2.2.2.2.2.1 HB.out.2.2.2.2.2.2.2.2.2.2.2.2.2.2.2.2.2.2.2.2.2.2.2.2.1, frozen_on (drew_below _) HB.out.2.2.2.2.2.2.2.2.2.2.2.2.2.2.2.2.2.2.2.1 HB.out.2.2.2.2.2.2.2.2.2.2.2.2.2.2.2.2.2.2.2.2.2.2.2.2.2.1, frozen_on (drew_below _) HB.out.2.2.2.2.2.2.2.2.2.2.2.2.2.2.2.2.2.2.2.2.1 HB.out.2.2.2.2.2.2.2.2.2.2.2.2.2.2.2.2.2.2.2.2.2.2.2.2.2.2.1, frozen_on (drew_below _) HB.out.2.2.2.2.2.2.2.2.2.2.2.2.2.2.2.2.2.2.2.2.2.1 HB.out.2.2.2.2.2.2.2.2.2.2.2.2.2.2.2.2.2.2.2.2.2.2.2.2.2.2.2.1, frozen_on (drew_below _) HB.out.2.2.2.2.2.2.2.2.2.2.2.2.2.2.2.2.2.2.2.2.2.2.1 HB.out.2.2.2.2.2.2.2.2.2.2.2.2.2.2.2.2.2.2.2.2.2.2.2.2.2.2.2.2.1, frozen_on (drew_below _) HB.out.2.2.2.2.2.2.2.2.2.2.2.2.2.2.2.2.2.2.2.2.2.2.2.1 HB.out.2.2.2.2.2.2.2.2.2.2.2.2.2.2.2.2.2.2.2.2.2.2.2.2.2.2.2.2.2.1, sta_on HB.out.2.2.2.2.2.2.2.2.2.2.2.2.2.2.2.2.2.2.2.2.2.2.2.2.2.2.2.2.2.2 (drew_below _)⟩ (fun hHeld => ?_)
  refine take_ (i := 0) (N := some 20) (v := ?_) (a' := ?_) #[true, false, false, false, false, false, false, false] rfl rfl (by kernel_rfl) (fun _ _ _ h => h) (Or.inl ⟨by rfl, ?_⟩) hHeld ?_ ?_
  rotate_left
  · rintro w' ⟨s0, s1, s2, s3, s4, s5, s6, s7, s8, s9, s10, s11, s12, s13, s14, s15, s16, s17, s18, s19, s20, s21, s22, s23, s24, s25, s26, s27, s28, s29, s30⟩
    go_simp
    with_reducible rfl
  rotate_left
  · simp only [Act.put, List.setIfInBounds_toArray, List.set_cons_zero, List.set_cons_succ, i64_w, i32_w]
    rfl
  refine take_ (i := 3) (N := some 23) (v := ?_) (a' := ?_) #[true, false, false, true, false, false, false, false] rfl rfl (by kernel_rfl) (fun _ _ _ h => h) (Or.inl ⟨by rfl, ?_⟩) hHeld ?_ ?_
  rotate_left
  · rintro w' ⟨s0, s1, s2, s3, s4, s5, s6, s7, s8, s9, s10, s11, s12, s13, s14, s15, s16, s17, s18, s19, s20, s21, s22, s23, s24, s25, s26, s27, s28, s29, s30⟩
    go_simp
    with_reducible rfl
  rotate_left
  · simp only [Act.put, List.setIfInBounds_toArray, List.set_cons_zero, List.set_cons_succ, i64_w, i32_w]
    rfl
  refine one_ (i := 1) (N := some 21) #[true, true, false, true, false, false, false, false] rfl rfl (by kernel_rfl) (by decide) (fun K hK => ?_)
  refine goes_ Tryd.func109 (by kernel_rfl) rfl #[.agg #[.int .u64 a, .int .u64 b, .int .u64 c, .string s, .string m, .string ⟨#[]⟩]] (by rfl) rfl rfl (by simp only [List.map_toArray, List.map_cons, List.map_nil]; rfl) ?_
  with_reducible refine (vprefix_any a b c s m _).mono ?_
  rintro e w3 ⟨rfl, hb⟩
  refine ⟨_, rfl, ?_⟩
  refine hK.out _ _ ⟨cell_on hb hHeld.1, cell_on hb hHeld.2.1, cell_on hb hHeld.2.2.1, cell_on hb hHeld.2.2.2.1, cell_on hb hHeld.2.2.2.2.1, cell_on hb hHeld.2.2.2.2.2.1, cell_on hb hHeld.2.2.2.2.2.2.1, cell_on hb hHeld.2.2.2.2.2.2.2.1, cell_on hb hHeld.2.2.2.2.2.2.2.2.1, cell_on hb hHeld.2.2.2.2.2.2.2.2.2.1, cell_on hb hHeld.2.2.2.2.2.2.2.2.2.2.1, cell_on hb hHeld.2.2.2.2.2.2.2.2.2.2.2.1, frozen_on hb hHeld.2.2.2.2.2.2.1 hHeld.2.2.2.2.2.2.2.2.2.2.2.2.1, frozen_on hb hHeld.2.2.2.2.2.2.2.1 hHeld.2.2.2.2.2.2.2.2.2.2.2.2.2.1, frozen_on hb hHeld.2.2.2.2.2.2.2.2.1 hHeld.2.2.2.2.2.2.2.2.2.2.2.2.2.2.1, frozen_on hb hHeld.2.2.2.2.2.2.2.2.2.1 hHeld.2.2.2.2.2.2.2.2.2.2.2.2.2.2.2.1, frozen_on hb hHeld.2.2.2.2.2.2.2.2.2.2.1 hHeld.2.2.2.2.2.2.2.2.2.2.2.2.2.2.2.2.1, frozen_on hb hHeld.2.2.2.2.2.2.2.2.2.2.2.1 hHeld.2.2.2.2.2.2.2.2.2.2.2.2.2.2.2.2.2.1, cell_on hb hHeld.2.2.2.2.2.2.2.2.2.2.2.2.2.2.2.2.2.2.1, cell_on hb hHeld.2.2.2.2.2.2.2.2.2.2.2.2.2.2.2.2.2.2.2.1, cell_on hb hHeld.2.2.2.2.2.2.2.2.2.2.2.2.2.2.2.2.2.2.2.2.1, cell_on hb hHeld.2.2.2.2.2.2.2.2.2.2.2.2.2.2.2.2.2.2.2.2.2.1, cell_on hb hHeld.2.2.2.2.2.2.2.2.2.2.2.2.2.2.2.2.2.2.2.2.2.2.1, cell_on hb hHeld.2.2.2.2.2.2.2.2.2.2.2.2.2.2.2.2.2.2.2.2.2.2.2.1, frozen_on hb hHeld.2.2.2.2.2.2.2.2.2.2.2.2.2.2.2.2.2.2.1 hHeld.2.2.2.2.2.2.2.2.2.2.2.2.2.2.2.2.2.2.2.2.2.2.2.2.1, frozen_on hb hHeld.2.2.2.2.2.2.2.2.2.2.2.2.2.2.2.2.2.2.2.1 hHeld.2.2.2.2.2.2.2.2.2.2.2.2.2.2.2.2.2.2.2.2.2.2.2.2.2.1, frozen_on hb hHeld.2.2.2.2.2.2.2.2.2.2.2.2.2.2.2.2.2.2.2.2.1 hHeld.2.2.2.2.2.2.2.2.2.2.2.2.2.2.2.2.2.2.2.2.2.2.2.2.2.2.1, frozen_on hb hHeld.2.2.2.2.2.2.2.2.2.2.2.2.2.2.2.2.2.2.2.2.2.1 hHeld.2.2.2.2.2.2.2.2.2.2.2.2.2.2.2.2.2.2.2.2.2.2.2.2.2.2.2.1, frozen_on hb hHeld.2.2.2.2.2.2.2.2.2.2.2.2.2.2.2.2.2.2.2.2.2.2.1 hHeld.2.2.2.2.2.2.2.2.2.2.2.2.2.2.2.2.2.2.2.2.2.2.2.2.2.2.2.2.1, frozen_on hb hHeld.2.2.2.2.2.2.2.2.2.2.2.2.2.2.2.2.2.2.2.2.2.2.2.1 hHeld.2.2.2.2.2.2.2.2.2.2.2.2.2.2.2.2.2.2.2.2.2.2.2.2.2.2.2.2.2.1, sta_on hHeld.2.2.2.2.2.2.2.2.2.2.2.2.2.2.2.2.2.2.2.2.2.2.2.2.2.2.2.2.2.2 hb⟩ (fun hHeld => ?_)
  clear hK K
  refine norm_ (a' := ?_) ?_ ?_
  rotate_left
  · show Act.put _ (some 21) _ = _
    simp only [Act.put, List.setIfInBounds_toArray, List.set_cons_zero, List.set_cons_succ, i64_w, i32_w]
    rfl
  refine pure_ (i := 2) (N := some 22) (v := ?_) (a' := ?_) #[true, true, true, true, false, false, false, false] rfl rfl (by kernel_rfl) (fun _ _ _ h => h) (Or.inl ⟨by rfl, ?_⟩) ?_ ?_
  rotate_left
  · intro w'
    go_simp
    with_reducible rfl
  rotate_left
  · simp only [Act.put, List.setIfInBounds_toArray, List.set_cons_zero, List.set_cons_succ, i64_w, i32_w]
    rfl
  refine one_ (i := 4) (N := some 24) #[true, true, true, true, true, false, false, false] rfl rfl (by kernel_rfl) (by decide) (fun K hK => ?_)
  refine goes_ Tryd.func110 (by kernel_rfl) rfl #[.agg #[.int .u64 a, .int .u64 b, .int .u64 (c + 1), .string ⟨#[]⟩, .string ⟨#[]⟩, .string ⟨#[]⟩]] (by rfl) rfl rfl (by simp only [List.map_toArray, List.map_cons, List.map_nil]; rfl) ?_
  with_reducible refine (String_any (a) (b) ((c + 1)) ⟨#[]⟩ HA.out HBb.out HC.out _ hHeld.2.2.2.2.2.2.2.2.2.2.2.2.2.2.2.2.2.2.2.2.2.2.2.2.2.2.2.2.2.2.out.tab).mono ?_
  rintro e w3 ⟨o1, rfl, ho1, hb⟩
  refine ⟨_, rfl, ?_⟩
  have q0 := eq_false (show ¬ 9223372036854775807 < o1.size by omega)
  refine hK.out _ _ ⟨cell_on hb hHeld.1, cell_on hb hHeld.2.1, cell_on hb hHeld.2.2.1, cell_on hb hHeld.2.2.2.1, cell_on hb hHeld.2.2.2.2.1, cell_on hb hHeld.2.2.2.2.2.1, cell_on hb hHeld.2.2.2.2.2.2.1, cell_on hb hHeld.2.2.2.2.2.2.2.1, cell_on hb hHeld.2.2.2.2.2.2.2.2.1, cell_on hb hHeld.2.2.2.2.2.2.2.2.2.1, cell_on hb hHeld.2.2.2.2.2.2.2.2.2.2.1, cell_on hb hHeld.2.2.2.2.2.2.2.2.2.2.2.1, frozen_on hb hHeld.2.2.2.2.2.2.1 hHeld.2.2.2.2.2.2.2.2.2.2.2.2.1, frozen_on hb hHeld.2.2.2.2.2.2.2.1 hHeld.2.2.2.2.2.2.2.2.2.2.2.2.2.1, frozen_on hb hHeld.2.2.2.2.2.2.2.2.1 hHeld.2.2.2.2.2.2.2.2.2.2.2.2.2.2.1, frozen_on hb hHeld.2.2.2.2.2.2.2.2.2.1 hHeld.2.2.2.2.2.2.2.2.2.2.2.2.2.2.2.1, frozen_on hb hHeld.2.2.2.2.2.2.2.2.2.2.1 hHeld.2.2.2.2.2.2.2.2.2.2.2.2.2.2.2.2.1, frozen_on hb hHeld.2.2.2.2.2.2.2.2.2.2.2.1 hHeld.2.2.2.2.2.2.2.2.2.2.2.2.2.2.2.2.2.1, cell_on hb hHeld.2.2.2.2.2.2.2.2.2.2.2.2.2.2.2.2.2.2.1, cell_on hb hHeld.2.2.2.2.2.2.2.2.2.2.2.2.2.2.2.2.2.2.2.1, cell_on hb hHeld.2.2.2.2.2.2.2.2.2.2.2.2.2.2.2.2.2.2.2.2.1, cell_on hb hHeld.2.2.2.2.2.2.2.2.2.2.2.2.2.2.2.2.2.2.2.2.2.1, cell_on hb hHeld.2.2.2.2.2.2.2.2.2.2.2.2.2.2.2.2.2.2.2.2.2.2.1, cell_on hb hHeld.2.2.2.2.2.2.2.2.2.2.2.2.2.2.2.2.2.2.2.2.2.2.2.1, frozen_on hb hHeld.2.2.2.2.2.2.2.2.2.2.2.2.2.2.2.2.2.2.1 hHeld.2.2.2.2.2.2.2.2.2.2.2.2.2.2.2.2.2.2.2.2.2.2.2.2.1, frozen_on hb hHeld.2.2.2.2.2.2.2.2.2.2.2.2.2.2.2.2.2.2.2.1 hHeld.2.2.2.2.2.2.2.2.2.2.2.2.2.2.2.2.2.2.2.2.2.2.2.2.2.1, frozen_on hb hHeld.2.2.2.2.2.2.2.2.2.2.2.2.2.2.2.2.2.2.2.2.1 hHeld.2.2.2.2.2.2.2.2.2.2.2.2.2.2.2.2.2.2.2.2.2.2.2.2.2.2.1, frozen_on hb hHeld.2.2.2.2.2.2.2.2.2.2.2.2.2.2.2.2.2.2.2.2.2.1 hHeld.2.2.2.2.2.2.2.2.2.2.2.2.2.2.2.2.2.2.2.2.2.2.2.2.2.2.2.1, frozen_on hb hHeld.2.2.2.2.2.2.2.2.2.2.2.2.2.2.2.2.2.2.2.2.2.2.1 hHeld.2.2.2.2.2.2.2.2.2.2.2.2.2.2.2.2.2.2.2.2.2.2.2.2.2.2.2.2.1, frozen_on hb hHeld.2.2.2.2.2.2.2.2.2.2.2.2.2.2.2.2.2.2.2.2.2.2.2.1 hHeld.2.2.2.2.2.2.2.2.2.2.2.2.2.2.2.2.2.2.2.2.2.2.2.2.2.2.2.2.2.1, sta_on hHeld.2.2.2.2.2.2.2.2.2.2.2.2.2.2.2.2.2.2.2.2.2.2.2.2.2.2.2.2.2.2 hb⟩ (fun hHeld => ?_)
  clear hK K
  refine norm_ (a' := ?_) ?_ ?_
  rotate_left
  · show Act.put _ (some 24) _ = _
    simp only [Act.put, List.setIfInBounds_toArray, List.set_cons_zero, List.set_cons_succ, i64_w, i32_w]
    rfl
  refine pure_ (i := 5) (N := some 25) (v := ?_) (a' := ?_) #[true, true, true, true, true, true, false, false] rfl rfl (by kernel_rfl) (fun _ _ _ h => h) (Or.inl ⟨by rfl, ?_⟩) ?_ ?_
  rotate_left
  · intro w'
    go_simp
    with_reducible rfl
  rotate_left
  · simp only [Act.put, List.setIfInBounds_toArray, List.set_cons_zero, List.set_cons_succ, i64_w, i32_w]
    rfl
  refine pure_ (i := 6) (N := some 26) (v := ?_) (a' := ?_) #[true, true, true, true, true, true, true, false] rfl rfl (by kernel_rfl) (fun _ _ _ h => h) (Or.inl ⟨by rfl, ?_⟩) ?_ ?_
  rotate_left
  · intro w'
    go_simp
    with_reducible rfl
  rotate_left
  · simp only [Act.put, List.setIfInBounds_toArray, List.set_cons_zero, List.set_cons_succ, i64_w, i32_w]
    rfl
  refine last_ (i := 7) (N := none) #[true, true, true, true, true, true, true, true] rfl rfl (by kernel_rfl) (by decide) (fun K hK => ?_)
  refine skip_ (w1 := ?_) (by rfl) rfl ?_ ?_
  rotate_left
  · go_simp
    rfl
  refine hK.out _ _ ?_
  clear hK K
  refine done_ (by kernel_rfl) ?_
  obtain ⟨f0, f1, f2, f3, f4, f5, f6, f7, f8, f9, f10, f11, f12, f13, f14, f15, f16, f17, f18, f19, f20, f21, f22, f23, f24, f25, f26, f27, f28, f29, hh⟩ := hHeld
  go_wp2_with fail
  clear HB HG HA HBb HC
  refine bodyPost_ret (v := .agg #[.int .u64 a, .int .u64 b, .int .u64 (c + 1), .string ⟨#[]⟩, .string ⟨#[]⟩, .string (((⟨#[]⟩ : ByteArray) ++ ⟨#[]⟩) ++ o1)]) ?hr rfl ⟨((⟨#[]⟩ : ByteArray) ++ ⟨#[]⟩) ++ o1, rfl, ?hb⟩
  case hr =>
    clear f0 f1 f2 f3 f4 f5 f12 f13 f14 f15 f16 f17 f18 f19 f20 f21 f22 f23 f24 f25 f26 f27 f28 f29
    refine put6 _ _ _ _ _ _ _ _ ?u0 ?u1 ?u2 ?u3 ?u4 ?u5 ?h0 ?h1 ?h2 ?h3 ?h4 ?h5 _ ?hfn _ ?ht
    case hfn => exact Tryd.results67
    case u0 => exact .int .u64 0
    case u1 => exact .int .u64 0
    case u2 => exact .int .u64 0
    case u3 => exact .string ⟨#[]⟩
    case u4 => exact .string ⟨#[]⟩
    case u5 => exact .string ⟨#[]⟩
    case h0 => exact (World.cell?_setCell_far _ _ _ _ (show w.heap.size + 1 + 1 ≠ w.heap.size + 1 by omega)).trans f6
    case h1 => exact (World.cell?_setCell_far _ _ _ _ (show w.heap.size + 1 + 1 ≠ w.heap.size + 1 by omega)).trans f7
    case h2 => exact (World.cell?_setCell_far _ _ _ _ (show w.heap.size + 1 + 1 ≠ w.heap.size + 1 by omega)).trans f8
    case h3 => exact (World.cell?_setCell_far _ _ _ _ (show w.heap.size + 1 + 1 ≠ w.heap.size + 1 by omega)).trans f9
    case h4 => exact (World.cell?_setCell_far _ _ _ _ (show w.heap.size + 1 + 1 ≠ w.heap.size + 1 by omega)).trans f10
    case h5 => exact (World.cell?_setCell_far _ _ _ _ (show w.heap.size + 1 + 1 ≠ w.heap.size + 1 by omega)).trans f11
    case ht => rfl
  case hb =>
    repeat (refine Below.setCell ?_ (by first | (show w.heap.size ≤ w.heap.size + 1; omega) | (show w.heap.size ≤ w.heap.size + 1 + 1; omega)) _)
    exact hh.out.bel

set_option maxHeartbeats 4000000 in
set_option maxRecDepth 100000 in
theorem IncPatch_pre (a b c : Int) (s m : ByteArray) (ha : U64 a) (hb : U64 b) (hc : U64 c) (g : ¬ s.toList = []) (w : World) (hG : GlobT w) :
    Calls Tryd.prog 67 #[.agg #[.int .u64 a, .int .u64 b, .int .u64 c, .string s, .string m, .string ⟨#[]⟩]] w fun e w' => ∃ o : ByteArray, e = .returned (.agg #[.int .u64 a, .int .u64 b, .int .u64 c, .string ⟨#[]⟩, .string ⟨#[]⟩, .string o]) ∧ Below w.heap.size w w' := by
  have g1 : s.toList.isEmpty = false := by cases h : s.toList with | nil => exact absurd h g | cons _ _ => rfl
  have g2 : (!s.toList.isEmpty) = true := by rw [g1]; rfl
  have HA := Lib.hid ha
  have HBb := Lib.hid hb
  have HC := Lib.hid hc
  clear ha hb hc
  clear g
  have HB := Lib.hid (inc_start w a b c a b c s m hG)
  have HG := Lib.hid hG
  clear hG
  go_enter Tryd.func67, Tryd.ntmps67
  go_wp2_with fail
  refine start_ (n := 8) (S := fun w' => w'.cell? ⟨w.heap.size, 0, none⟩ = some (.int .u64 a) ∧ w'.cell? ⟨w.heap.size, 1, none⟩ = some (.int .u64 b) ∧ w'.cell? ⟨w.heap.size, 2, none⟩ = some (.int .u64 c) ∧ w'.cell? ⟨w.heap.size, 3, none⟩ = some (.string s) ∧ w'.cell? ⟨w.heap.size, 4, none⟩ = some (.string m) ∧ w'.cell? ⟨w.heap.size, 5, none⟩ = some (.string ⟨#[]⟩) ∧ w'.cell? ⟨w.heap.size + 1, 0, none⟩ = some (.int .u64 0) ∧ w'.cell? ⟨w.heap.size + 1, 1, none⟩ = some (.int .u64 0) ∧ w'.cell? ⟨w.heap.size + 1, 2, none⟩ = some (.int .u64 0) ∧ w'.cell? ⟨w.heap.size + 1, 3, none⟩ = some (.string ⟨#[]⟩) ∧ w'.cell? ⟨w.heap.size + 1, 4, none⟩ = some (.string ⟨#[]⟩) ∧ w'.cell? ⟨w.heap.size + 1, 5, none⟩ = some (.string ⟨#[]⟩) ∧ w'.frozen? ⟨w.heap.size + 1, 0, none⟩ = false ∧ w'.frozen? ⟨w.heap.size + 1, 1, none⟩ = false ∧ w'.frozen? ⟨w.heap.size + 1, 2, none⟩ = false ∧ w'.frozen? ⟨w.heap.size + 1, 3, none⟩ = false ∧ w'.frozen? ⟨w.heap.size + 1, 4, none⟩ = false ∧ w'.frozen? ⟨w.heap.size + 1, 5, none⟩ = false ∧ w'.cell? ⟨w.heap.size + 1 + 1, 0, none⟩ = some (.int .u64 a) ∧ w'.cell? ⟨w.heap.size + 1 + 1, 1, none⟩ = some (.int .u64 b) ∧ w'.cell? ⟨w.heap.size + 1 + 1, 2, none⟩ = some (.int .u64 c) ∧ w'.cell? ⟨w.heap.size + 1 + 1, 3, none⟩ = some (.string ⟨#[]⟩) ∧ w'.cell? ⟨w.heap.size + 1 + 1, 4, none⟩ = some (.string ⟨#[]⟩) ∧ w'.cell? ⟨w.heap.size + 1 + 1, 5, none⟩ = some (.string ⟨#[]⟩) ∧ w'.frozen? ⟨w.heap.size + 1 + 1, 0, none⟩ = false ∧ w'.frozen? ⟨w.heap.size + 1 + 1, 1, none⟩ = false ∧ w'.frozen? ⟨w.heap.size + 1 + 1, 2, none⟩ = false ∧ w'.frozen? ⟨w.heap.size + 1 + 1, 3, none⟩ = false ∧ w'.frozen? ⟨w.heap.size + 1 + 1, 4, none⟩ = false ∧ w'.frozen? ⟨w.heap.size + 1 + 1, 5, none⟩ = false ∧ Hid (Sta w w')) (ds := [7]) #[false, false, false, false, false, false, false, false] (by kernel_rfl) rfl rfl ⟨cell_on (drew_below _) HB.out.1, cell_on (drew_below _) HB.out.2.1, cell_on (drew_below _) HB.out.2.2.1, cell_on (drew_below _) HB.out.2.2.2.1, cell_on (drew_below _) HB.out.2.2.2.2.1, cell_on (drew_below _) HB.out.2.2.2.2.2.1, cell_on (drew_below _) HB.out.2.2.2.2.2.2.1, cell_on (drew_below _) HB.out.2.2.2.2.2.2.2.1, cell_on (drew_below _) HB.out.2.2.2.2.2.2.2.2.1, cell_on (drew_below _) HB.out.2.2.2.2.2.2.2.2.2.1, cell_on (drew_below _) HB.out.2.2.2.2.2.2.2.2.2.2.1, cell_on (drew_below _) HB.out.2.2.2.2.2.2.2.2.2.2.2.1, frozen_on (drew_below _) HB.out.2.2.2.2.2.2.1 HB.out.2.2.2.2.2.2.2.2.2.2.2.2.1, frozen_on (drew_below _) HB.out.2.2.2.2.2.2.2.1 HB.out.2.2.2.2.2.2.2.2.2.2.2.2.2.1, frozen_on (drew_below _) HB.out.2.2.2.2.2.2.2.2.1 HB.out.2.2.2.2.2.2.2.2.2.2.2.2.2.2.1, frozen_on (drew_below _) HB.out.2.2.2.2.2.2.2.2.2.1 HB.out.2.2.2.2.2.2.2.2.2.2.2.2.2.2.2.1, frozen_on (drew_below _) HB.out.2.2.2.2.2.2.2.2.2.2.1 HB.out.2.2.2.2.2.2.2.2.2.2.2.2.2.2.2.2.1, frozen_on (drew_below _) HB.out.2.2.2.2.2.2.2.2.2.2.2.1 HB.out.2.2.2.2.2.2.2.2.2.2.2.2.2.2.2.2.2.1, cell_on (drew_below _) HB.out.2.2.2.2.2.2.2.2.2.2.2.2.2.2.2.2.2.2.1, cell_on (drew_below _) HB.out.2.2.2.2.2.2.2.2.2.2.2.2.2.2.2.2.2.2.2.1, cell_on (drew_below _) HB.out.2.2.2.2.2.2.2.2.2.2.2.2.2.2.2.2.2.2.2.2.1, cell_on (drew_below _) HB.out.2.2.2.2.2.2.2.2.2.2.2.2.2.2.2.2.2.2.2.2.2.1, cell_on (drew_below _) HB.out.2.2.2.2.2.2.2.2.2.2.2.2.2.2.2.2.2.2.2.2.2.2.1, cell_on (drew_below _) HB.out.2.2.2.2.2.2.2.2.2.2.2.2.2.2.2.2.2.2.2.2.2.2.2.1, frozen_on (drew_below _) HB.out.2.2.2.2.2.2.2.2.2.2.2.2.2.2.2.2.2.2.1 HB.out.2.2.2.2.2.2.2.2.2.2.2.2.2.2.2.2.2.2.2.2.2.2.2.2.1, frozen_on (drew_below _) HB.out.2.2.2.2.2.2.2.2.2.2.2.2.2.2.2.2.2.2.2.1 HB.out.2.2.2.2.2.2.2.2.2.2.2.2.2.2.2.2.2.2.2.2.2.2.2.2.2.1, frozen_on (drew_below _) HB.out.2.2.2.2.2.2.2.2.2.2.2.2.2.2.2.2.2.2.2.2.1 HB.out.2.2.2.2.2.2.2.2.2.2.2.2.2.2.2.2.2.2.2.2.2.2.2.2.2.2.1, frozen_on (drew_below _) HB.out.2.2.2.2.2.2.2.2.2.2.2.2.2.2.2.2.2.2.2.2.2.1 HB.out.2.2.2.2.2.2.2.2.2.2.2.2.2.2.2.2.2.2.2.2.2.2.2.2.2.2.2.1, frozen_on (drew_below _) HB.out.2.2.2.2.2.2.2.2.2.2.2.2.2.2.2.2.2.2.2.2.2.2.1 HB.out.2.2.2.2.2.2.2.2.2.2.2.2.2.2.2.2.2.2.2.2.2.2.2.2.2.2.2.2.1, frozen_on (drew_below _) HB.out.2.2.2.2.2.2.2.2.2.2.2.2.2.2.2.2.2.2.2.2.2.2.2.1 HB.out.2.2.2.2.2.2.2.2.2.2.2.2.2.2.2.2.2.2.2.2.2.2.2.2.2.2.2.2.2.1, sta_on HB.out.2.2.2.2.2.2.2.2.2.2.2.2.2.2.2.2.2.2.2.2.2.2.2.2.2.2.2.2.2.2 (drew_below _)⟩ (fun hHeld => ?_)
  refine take_ (i := 0) (N := some 20) (v := ?_) (a' := ?_) #[true, false, false, false, false, false, false, false] rfl rfl (by kernel_rfl) (fun _ _ _ h => h) (Or.inl ⟨by rfl, ?_⟩) hHeld ?_ ?_
  rotate_left
  · rintro w' ⟨s0, s1, s2, s3, s4, s5, s6, s7, s8, s9, s10, s11, s12, s13, s14, s15, s16, s17, s18, s19, s20, s21, s22, s23, s24, s25, s26, s27, s28, s29, s30⟩
    go_simp
    with_reducible rfl
  rotate_left
  · simp only [Act.put, List.setIfInBounds_toArray, List.set_cons_zero, List.set_cons_succ, i64_w, i32_w]
    rfl
  refine take_ (i := 3) (N := some 23) (v := ?_) (a' := ?_) #[true, false, false, true, false, false, false, false] rfl rfl (by kernel_rfl) (fun _ _ _ h => h) (Or.inl ⟨by rfl, ?_⟩) hHeld ?_ ?_
  rotate_left
  · rintro w' ⟨s0, s1, s2, s3, s4, s5, s6, s7, s8, s9, s10, s11, s12, s13, s14, s15, s16, s17, s18, s19, s20, s21, s22, s23, s24, s25, s26, s27, s28, s29, s30⟩
    go_simp
    with_reducible rfl
  rotate_left
  · simp only [Act.put, List.setIfInBounds_toArray, List.set_cons_zero, List.set_cons_succ, i64_w, i32_w]
    rfl
  refine one_ (i := 1) (N := some 21) #[true, true, false, true, false, false, false, false] rfl rfl (by kernel_rfl) (by decide) (fun K hK => ?_)
  refine goes_ Tryd.func109 (by kernel_rfl) rfl #[.agg #[.int .u64 a, .int .u64 b, .int .u64 c, .string s, .string m, .string ⟨#[]⟩]] (by rfl) rfl rfl (by simp only [List.map_toArray, List.map_cons, List.map_nil]; rfl) ?_
  with_reducible refine (vprefix_any a b c s m _).mono ?_
  rintro e w3 ⟨rfl, hb⟩
  refine ⟨_, rfl, ?_⟩
  refine hK.out _ _ ⟨cell_on hb hHeld.1, cell_on hb hHeld.2.1, cell_on hb hHeld.2.2.1, cell_on hb hHeld.2.2.2.1, cell_on hb hHeld.2.2.2.2.1, cell_on hb hHeld.2.2.2.2.2.1, cell_on hb hHeld.2.2.2.2.2.2.1, cell_on hb hHeld.2.2.2.2.2.2.2.1, cell_on hb hHeld.2.2.2.2.2.2.2.2.1, cell_on hb hHeld.2.2.2.2.2.2.2.2.2.1, cell_on hb hHeld.2.2.2.2.2.2.2.2.2.2.1, cell_on hb hHeld.2.2.2.2.2.2.2.2.2.2.2.1, frozen_on hb hHeld.2.2.2.2.2.2.1 hHeld.2.2.2.2.2.2.2.2.2.2.2.2.1, frozen_on hb hHeld.2.2.2.2.2.2.2.1 hHeld.2.2.2.2.2.2.2.2.2.2.2.2.2.1, frozen_on hb hHeld.2.2.2.2.2.2.2.2.1 hHeld.2.2.2.2.2.2.2.2.2.2.2.2.2.2.1, frozen_on hb hHeld.2.2.2.2.2.2.2.2.2.1 hHeld.2.2.2.2.2.2.2.2.2.2.2.2.2.2.2.1, frozen_on hb hHeld.2.2.2.2.2.2.2.2.2.2.1 hHeld.2.2.2.2.2.2.2.2.2.2.2.2.2.2.2.2.1, frozen_on hb hHeld.2.2.2.2.2.2.2.2.2.2.2.1 hHeld.2.2.2.2.2.2.2.2.2.2.2.2.2.2.2.2.2.1, cell_on hb hHeld.2.2.2.2.2.2.2.2.2.2.2.2.2.2.2.2.2.2.1, cell_on hb hHeld.2.2.2.2.2.2.2.2.2.2.2.2.2.2.2.2.2.2.2.1, cell_on hb hHeld.2.2.2.2.2.2.2.2.2.2.2.2.2.2.2.2.2.2.2.2.1, cell_on hb hHeld.2.2.2.2.2.2.2.2.2.2.2.2.2.2.2.2.2.2.2.2.2.1, cell_on hb hHeld.2.2.2.2.2.2.2.2.2.2.2.2.2.2.2.2.2.2.2.2.2.2.1, cell_on hb hHeld.2.2.2.2.2.2.2.2.2.2.2.2.2.2.2.2.2.2.2.2.2.2.2.1, frozen_on hb hHeld.2.2.2.2.2.2.2.2.2.2.2.2.2.2.2.2.2.2.1 hHeld.2.2.2.2.2.2.2.2.2.2.2.2.2.2.2.2.2.2.2.2.2.2.2.2.1, frozen_on hb hHeld.2.2.2.2.2.2.2.2.2.2.2.2.2.2.2.2.2.2.2.1 hHeld.2.2.2.2.2.2.2.2.2.2.2.2.2.2.2.2.2.2.2.2.2.2.2.2.2.1, frozen_on hb hHeld.2.2.2.2.2.2.2.2.2.2.2.2.2.2.2.2.2.2.2.2.1 hHeld.2.2.2.2.2.2.2.2.2.2.2.2.2.2.2.2.2.2.2.2.2.2.2.2.2.2.1, frozen_on hb hHeld.2.2.2.2.2.2.2.2.2.2.2.2.2.2.2.2.2.2.2.2.2.1 hHeld.2.2.2.2.2.2.2.2.2.2.2.2.2.2.2.2.2.2.2.2.2.2.2.2.2.2.2.1, frozen_on hb hHeld.2.2.2.2.2.2.2.2.2.2.2.2.2.2.2.2.2.2.2.2.2.2.1 hHeld.2.2.2.2.2.2.2.2.2.2.2.2.2.2.2.2.2.2.2.2.2.2.2.2.2.2.2.2.1, frozen_on hb hHeld.2.2.2.2.2.2.2.2.2.2.2.2.2.2.2.2.2.2.2.2.2.2.2.1 hHeld.2.2.2.2.2.2.2.2.2.2.2.2.2.2.2.2.2.2.2.2.2.2.2.2.2.2.2.2.2.1, sta_on hHeld.2.2.2.2.2.2.2.2.2.2.2.2.2.2.2.2.2.2.2.2.2.2.2.2.2.2.2.2.2.2 hb⟩ (fun hHeld => ?_)
  clear hK K
  refine norm_ (a' := ?_) ?_ ?_
  rotate_left
  · show Act.put _ (some 21) _ = _
    simp only [Act.put, List.setIfInBounds_toArray, List.set_cons_zero, List.set_cons_succ, i64_w, i32_w]
    rfl
  refine pure_ (i := 2) (N := some 22) (v := ?_) (a' := ?_) #[true, true, true, true, false, false, false, false] rfl rfl (by kernel_rfl) (fun _ _ _ h => h) (Or.inl ⟨by rfl, ?_⟩) ?_ ?_
  rotate_left
  · intro w'
    go_simp
    with_reducible rfl
  rotate_left
  · simp only [Act.put, List.setIfInBounds_toArray, List.set_cons_zero, List.set_cons_succ, i64_w, i32_w]
    rfl
  refine one_ (i := 4) (N := some 24) #[true, true, true, true, true, false, false, false] rfl rfl (by kernel_rfl) (by decide) (fun K hK => ?_)
  refine goes_ Tryd.func110 (by kernel_rfl) rfl #[.agg #[.int .u64 a, .int .u64 b, .int .u64 c, .string ⟨#[]⟩, .string ⟨#[]⟩, .string ⟨#[]⟩]] (by rfl) rfl rfl (by simp only [List.map_toArray, List.map_cons, List.map_nil]; rfl) ?_
  with_reducible refine (String_any (a) (b) (c) ⟨#[]⟩ HA.out HBb.out HC.out _ hHeld.2.2.2.2.2.2.2.2.2.2.2.2.2.2.2.2.2.2.2.2.2.2.2.2.2.2.2.2.2.2.out.tab).mono ?_
  rintro e w3 ⟨o1, rfl, ho1, hb⟩
  refine ⟨_, rfl, ?_⟩
  have q0 := eq_false (show ¬ 9223372036854775807 < o1.size by omega)
  refine hK.out _ _ ⟨cell_on hb hHeld.1, cell_on hb hHeld.2.1, cell_on hb hHeld.2.2.1, cell_on hb hHeld.2.2.2.1, cell_on hb hHeld.2.2.2.2.1, cell_on hb hHeld.2.2.2.2.2.1, cell_on hb hHeld.2.2.2.2.2.2.1, cell_on hb hHeld.2.2.2.2.2.2.2.1, cell_on hb hHeld.2.2.2.2.2.2.2.2.1, cell_on hb hHeld.2.2.2.2.2.2.2.2.2.1, cell_on hb hHeld.2.2.2.2.2.2.2.2.2.2.1, cell_on hb hHeld.2.2.2.2.2.2.2.2.2.2.2.1, frozen_on hb hHeld.2.2.2.2.2.2.1 hHeld.2.2.2.2.2.2.2.2.2.2.2.2.1, frozen_on hb hHeld.2.2.2.2.2.2.2.1 hHeld.2.2.2.2.2.2.2.2.2.2.2.2.2.1, frozen_on hb hHeld.2.2.2.2.2.2.2.2.1 hHeld.2.2.2.2.2.2.2.2.2.2.2.2.2.2.1, frozen_on hb hHeld.2.2.2.2.2.2.2.2.2.1 hHeld.2.2.2.2.2.2.2.2.2.2.2.2.2.2.2.1, frozen_on hb hHeld.2.2.2.2.2.2.2.2.2.2.1 hHeld.2.2.2.2.2.2.2.2.2.2.2.2.2.2.2.2.1, frozen_on hb hHeld.2.2.2.2.2.2.2.2.2.2.2.1 hHeld.2.2.2.2.2.2.2.2.2.2.2.2.2.2.2.2.2.1, cell_on hb hHeld.2.2.2.2.2.2.2.2.2.2.2.2.2.2.2.2.2.2.1, cell_on hb hHeld.2.2.2.2.2.2.2.2.2.2.2.2.2.2.2.2.2.2.2.1, cell_on hb hHeld.2.2.2.2.2.2.2.2.2.2.2.2.2.2.2.2.2.2.2.2.1, cell_on hb hHeld.2.2.2.2.2.2.2.2.2.2.2.2.2.2.2.2.2.2.2.2.2.1, cell_on hb hHeld.2.2.2.2.2.2.2.2.2.2.2.2.2.2.2.2.2.2.2.2.2.2.1, cell_on hb hHeld.2.2.2.2.2.2.2.2.2.2.2.2.2.2.2.2.2.2.2.2.2.2.2.1, frozen_on hb hHeld.2.2.2.2.2.2.2.2.2.2.2.2.2.2.2.2.2.2.1 hHeld.2.2.2.2.2.2.2.2.2.2.2.2.2.2.2.2.2.2.2.2.2.2.2.2.1, frozen_on hb hHeld.2.2.2.2.2.2.2.2.2.2.2.2.2.2.2.2.2.2.2.1 hHeld.2.2.2.2.2.2.2.2.2.2.2.2.2.2.2.2.2.2.2.2.2.2.2.2.2.1, frozen_on hb hHeld.2.2.2.2.2.2.2.2.2.2.2.2.2.2.2.2.2.2.2.2.1 hHeld.2.2.2.2.2.2.2.2.2.2.2.2.2.2.2.2.2.2.2.2.2.2.2.2.2.2.1, frozen_on hb hHeld.2.2.2.2.2.2.2.2.2.2.2.2.2.2.2.2.2.2.2.2.2.1 hHeld.2.2.2.2.2.2.2.2.2.2.2.2.2.2.2.2.2.2.2.2.2.2.2.2.2.2.2.1, frozen_on hb hHeld.2.2.2.2.2.2.2.2.2.2.2.2.2.2.2.2.2.2.2.2.2.2.1 hHeld.2.2.2.2.2.2.2.2.2.2.2.2.2.2.2.2.2.2.2.2.2.2.2.2.2.2.2.2.1, frozen_on hb hHeld.2.2.2.2.2.2.2.2.2.2.2.2.2.2.2.2.2.2.2.2.2.2.2.1 hHeld.2.2.2.2.2.2.2.2.2.2.2.2.2.2.2.2.2.2.2.2.2.2.2.2.2.2.2.2.2.1, sta_on hHeld.2.2.2.2.2.2.2.2.2.2.2.2.2.2.2.2.2.2.2.2.2.2.2.2.2.2.2.2.2.2 hb⟩ (fun hHeld => ?_)
  clear hK K
  refine norm_ (a' := ?_) ?_ ?_
  rotate_left
  · show Act.put _ (some 24) _ = _
    simp only [Act.put, List.setIfInBounds_toArray, List.set_cons_zero, List.set_cons_succ, i64_w, i32_w]
    rfl
  refine pure_ (i := 5) (N := some 25) (v := ?_) (a' := ?_) #[true, true, true, true, true, true, false, false] rfl rfl (by kernel_rfl) (fun _ _ _ h => h) (Or.inl ⟨by rfl, ?_⟩) ?_ ?_
  rotate_left
  · intro w'
    go_simp
    with_reducible rfl
  rotate_left
  · simp only [Act.put, List.setIfInBounds_toArray, List.set_cons_zero, List.set_cons_succ, i64_w, i32_w]
    rfl
  refine pure_ (i := 6) (N := some 26) (v := ?_) (a' := ?_) #[true, true, true, true, true, true, true, false] rfl rfl (by kernel_rfl) (fun _ _ _ h => h) (Or.inl ⟨by rfl, ?_⟩) ?_ ?_
  rotate_left
  · intro w'
    go_simp
    with_reducible rfl
  rotate_left
  · simp only [Act.put, List.setIfInBounds_toArray, List.set_cons_zero, List.set_cons_succ, i64_w, i32_w]
    rfl
  refine last_ (i := 7) (N := none) #[true, true, true, true, true, true, true, true] rfl rfl (by kernel_rfl) (by decide) (fun K hK => ?_)
  refine skip_ (w1 := ?_) (by rfl) rfl ?_ ?_
  rotate_left
  · go_simp
    rfl
  refine hK.out _ _ ?_
  clear hK K
  refine done_ (by kernel_rfl) ?_
  obtain ⟨f0, f1, f2, f3, f4, f5, f6, f7, f8, f9, f10, f11, f12, f13, f14, f15, f16, f17, f18, f19, f20, f21, f22, f23, f24, f25, f26, f27, f28, f29, hh⟩ := hHeld
  go_wp2_with fail
  clear HB HG HA HBb HC
  refine bodyPost_ret (v := .agg #[.int .u64 a, .int .u64 b, .int .u64 c, .string ⟨#[]⟩, .string ⟨#[]⟩, .string (((⟨#[]⟩ : ByteArray) ++ ⟨#[]⟩) ++ o1)]) ?hr rfl ⟨((⟨#[]⟩ : ByteArray) ++ ⟨#[]⟩) ++ o1, rfl, ?hb⟩
  case hr =>
    clear f0 f1 f2 f3 f4 f5 f12 f13 f14 f15 f16 f17 f18 f19 f20 f21 f22 f23 f24 f25 f26 f27 f28 f29
    refine put6 _ _ _ _ _ _ _ _ ?u0 ?u1 ?u2 ?u3 ?u4 ?u5 ?h0 ?h1 ?h2 ?h3 ?h4 ?h5 _ ?hfn _ ?ht
    case hfn => exact Tryd.results67
    case u0 => exact .int .u64 0
    case u1 => exact .int .u64 0
    case u2 => exact .int .u64 0
    case u3 => exact .string ⟨#[]⟩
    case u4 => exact .string ⟨#[]⟩
    case u5 => exact .string ⟨#[]⟩
    case h0 => exact (World.cell?_setCell_far _ _ _ _ (show w.heap.size + 1 + 1 ≠ w.heap.size + 1 by omega)).trans f6
    case h1 => exact (World.cell?_setCell_far _ _ _ _ (show w.heap.size + 1 + 1 ≠ w.heap.size + 1 by omega)).trans f7
    case h2 => exact (World.cell?_setCell_far _ _ _ _ (show w.heap.size + 1 + 1 ≠ w.heap.size + 1 by omega)).trans f8
    case h3 => exact (World.cell?_setCell_far _ _ _ _ (show w.heap.size + 1 + 1 ≠ w.heap.size + 1 by omega)).trans f9
    case h4 => exact (World.cell?_setCell_far _ _ _ _ (show w.heap.size + 1 + 1 ≠ w.heap.size + 1 by omega)).trans f10
    case h5 => exact (World.cell?_setCell_far _ _ _ _ (show w.heap.size + 1 + 1 ≠ w.heap.size + 1 by omega)).trans f11
    case ht => rfl
  case hb =>
    repeat (refine Below.setCell ?_ (by first | (show w.heap.size ≤ w.heap.size + 1; omega) | (show w.heap.size ≤ w.heap.size + 1 + 1; omega)) _)
    exact hh.out.bel

set_option maxHeartbeats 4000000 in
set_option maxRecDepth 100000 in
theorem IncMinor_any (a b c : Int) (s m : ByteArray) (ha : U64 a) (hb : 0 ≤ b ∧ b < 18446744073709551615) (w : World) (hG : GlobT w) :
    Calls Tryd.prog 127 #[.agg #[.int .u64 a, .int .u64 b, .int .u64 c, .string s, .string m, .string ⟨#[]⟩]] w fun e w' => ∃ o : ByteArray, e = .returned (.agg #[.int .u64 a, .int .u64 (b + 1), .int .u64 0, .string ⟨#[]⟩, .string ⟨#[]⟩, .string o]) ∧ Below w.heap.size w w' := by
  obtain ⟨hb0, hb1⟩ := hb
  have n1 : (b == 18446744073709551615) = false := by simp; omega
  have HA := Lib.hid ha
  have HBb : Hid (U64 (b + 1)) := Lib.hid ⟨by omega, by omega⟩
  have HC : Hid (U64 0) := Lib.hid ⟨by omega, by omega⟩
  clear ha
  have HB := Lib.hid (inc_start w a b c a (b + 1) 0 s m hG)
  have HG := Lib.hid hG
  clear hG
  go_enter Tryd.func127, Tryd.ntmps127
  go_wp2_with fail
  refine start_ (n := 8) (S := fun w' => w'.cell? ⟨w.heap.size, 0, none⟩ = some (.int .u64 a) ∧ w'.cell? ⟨w.heap.size, 1, none⟩ = some (.int .u64 b) ∧ w'.cell? ⟨w.heap.size, 2, none⟩ = some (.int .u64 c) ∧ w'.cell? ⟨w.heap.size, 3, none⟩ = some (.string s) ∧ w'.cell? ⟨w.heap.size, 4, none⟩ = some (.string m) ∧ w'.cell? ⟨w.heap.size, 5, none⟩ = some (.string ⟨#[]⟩) ∧ w'.cell? ⟨w.heap.size + 1, 0, none⟩ = some (.int .u64 0) ∧ w'.cell? ⟨w.heap.size + 1, 1, none⟩ = some (.int .u64 0) ∧ w'.cell? ⟨w.heap.size + 1, 2, none⟩ = some (.int .u64 0) ∧ w'.cell? ⟨w.heap.size + 1, 3, none⟩ = some (.string ⟨#[]⟩) ∧ w'.cell? ⟨w.heap.size + 1, 4, none⟩ = some (.string ⟨#[]⟩) ∧ w'.cell? ⟨w.heap.size + 1, 5, none⟩ = some (.string ⟨#[]⟩) ∧ w'.frozen? ⟨w.heap.size + 1, 0, none⟩ = false ∧ w'.frozen? ⟨w.heap.size + 1, 1, none⟩ = false ∧ w'.frozen? ⟨w.heap.size + 1, 2, none⟩ = false ∧ w'.frozen? ⟨w.heap.size + 1, 3, none⟩ = false ∧ w'.frozen? ⟨w.heap.size + 1, 4, none⟩ = false ∧ w'.frozen? ⟨w.heap.size + 1, 5, none⟩ = false ∧ w'.cell? ⟨w.heap.size + 1 + 1, 0, none⟩ = some (.int .u64 a) ∧ w'.cell? ⟨w.heap.size + 1 + 1, 1, none⟩ = some (.int .u64 (b + 1)) ∧ w'.cell? ⟨w.heap.size + 1 + 1, 2, none⟩ = some (.int .u64 0) ∧ w'.cell? ⟨w.heap.size + 1 + 1, 3, none⟩ = some (.string ⟨#[]⟩) ∧ w'.cell? ⟨w.heap.size + 1 + 1, 4, none⟩ = some (.string ⟨#[]⟩) ∧ w'.cell? ⟨w.heap.size + 1 + 1, 5, none⟩ = some (.string ⟨#[]⟩) ∧ w'.frozen? ⟨w.heap.size + 1 + 1, 0, none⟩ = false ∧ w'.frozen? ⟨w.heap.size + 1 + 1, 1, none⟩ = false ∧ w'.frozen? ⟨w.heap.size + 1 + 1, 2, none⟩ = false ∧ w'.frozen? ⟨w.heap.size + 1 + 1, 3, none⟩ = false ∧ w'.frozen? ⟨w.heap.size + 1 + 1, 4, none⟩ = false ∧ w'.frozen? ⟨w.heap.size + 1 + 1, 5, none⟩ = false ∧ Hid (Sta w w')) (ds := [7]) #[false, false, false, false, false, false, false, false] (by kernel_rfl) rfl rfl ⟨cell_on (drew_below _) HB.out.1, cell_on (drew_below _) HB.out.2.1, cell_on (drew_below _) HB.out.2.2.1, cell_on (drew_below _) HB.out.2.2.2.1, cell_on (drew_below _) HB.out.2.2.2.2.1, cell_on (drew_below _) HB.out.2.2.2.2.2.1, cell_on (drew_below _) HB.out.2.2.2.2.2.2.1, cell_on (drew_below _) HB.out.2.2.2.2.2.2.2.1, cell_on (drew_below _) HB.out.2.2.2.2.2.2.2.2.1, cell_on (drew_below _) HB.out.2.2.2.2.2.2.2.2.2.1, cell_on (drew_below _) HB.out.2.2.2.2.2.2.2.2.2.2.1, cell_on (drew_below _) HB.out.2.2.2.2.2.2.2.2.2.2.2.1, frozen_on (drew_below _) HB.out.2.2.2.2.2.2.1 HB.out.2.2.2.2.2.2.2.2.2.2.2.2.1, frozen_on (drew_below _) HB.out.2.2.2.2.2.2.2.1 HB.out.2.2.2.2.2.2.2.2.2.2.2.2.2.1, frozen_on (drew_below _) HB.out.2.2.2.2.2.2.2.2.1 HB.out.2.2.2.2.2.2.2.2.2.2.2.2.2.2.1, frozen_on (drew_below _) HB.out.2.2.2.2.2.2.2.2.2.1 HB.out.2.2.2.2.2.2.2.2.2.2.2.2.2.2.2.1, frozen_on (drew_below _) HB.out.2.2.2.2.2.2.2.2.2.2.1 HB.out.2.2.2.2.2.2.2.2.2.2.2.2.2.2.2.2.1, frozen_on (drew_below _) HB.out.2.2.2.2.2.2.2.2.2.2.2.1 HB.out.2.2.2.2.2.2.2.2.2.2.2.2.2.2.2.2.2.1, cell_on (drew_below _) HB.out.2.2.2.2.2.2.2.2.2.2.2.2.2.2.2.2.2.2.1, cell_on (drew_below _) HB.out.2.2.2.2.2.2.2.2.2.2.2.2.2.2.2.2.2.2.2.1, cell_on (drew_below _) HB.out.2.2.2.2.2.2.2.2.2.2.2.2.2.2.2.2.2.2.2.2.1, cell_on (drew_below _) HB.out.2.2.2.2.2.2.2.2.2.2.2.2.2.2.2.2.2.2.2.2.2.1, cell_on (drew_below _) HB.out.2.2.2.2.2.2.2.2.2.2.2.2.2.2.2.2.2.2.2.2.2.2.1, cell_on (drew_below _) HB.out.2.2.2.2.2.2.2.2.2.2.2.2.2.2.2.2.2.2.2.2.2.2.2.1, frozen_on (drew_below _) HB.out.2.2.2.2.2.2.2.2.2.2.2.2.2.2.2.2.2.2.1 HB.out.2.2.2.2.2.2.2.2.2.2.2.2.2.2.2.2.2.2.2.2.2.2.2.2.1, frozen_on (drew_below _) HB.out.2.2.2.2.2.2.2.2.2.2.2.2.2.2.2.2.2.2.2.1 HB.out.2.2.2.2.2.2.2.2.2.2.2.2.2.2.2.2.2.2.2.2.2.2.2.2.2.1, frozen_on (drew_below _) HB.out.2.2.2.2.2.2.2.2.2.2.2.2.2.2.2.2.2.2.2.2.1 HB.out.2.2.2.2.2.2.2.2.2.2.2.2.2.2.2.2.2.2.2.2.2.2.2.2.2.2.1, frozen_on (drew_below _) HB.out.2.2.2.2.2.2.2.2.2.2.2.2.2.2.2.2.2.2.2.2.2.1 HB.out.2.2.2.2.2.2.2.2.2.2.2.2.2.2.2.2.2.2.2.2.2.2.2.2.2.2.2.1, frozen_on (drew_below _) HB.out.2.2.2.2.2.2.2.2.2.2.2.2.2.2.2.2.2.2.2.2.2.2.1 HB.out.2.2.2.2.2.2.2.2.2.2.2.2.2.2.2.2.2.2.2.2.2.2.2.2.2.2.2.2.1, frozen_on (drew_below _) HB.out.2.2.2.2.2.2.2.2.2.2.2.2.2.2.2.2.2.2.2.2.2.2.2.1 HB.out.2.2.2.2.2.2.2.2.2.2.2.2.2.2.2.2.2.2.2.2.2.2.2.2.2.2.2.2.2.1, sta_on HB.out.2.2.2.2.2.2.2.2.2.2.2.2.2.2.2.2.2.2.2.2.2.2.2.2.2.2.2.2.2.2 (drew_below _)⟩ (fun hHeld => ?_)
  refine take_ (i := 0) (N := some 16) (v := ?_) (a' := ?_) #[true, false, false, false, false, false, false, false] rfl rfl (by kernel_rfl) (fun _ _ _ h => h) (Or.inl ⟨by rfl, ?_⟩) hHeld ?_ ?_
  rotate_left
  · rintro w' ⟨s0, s1, s2, s3, s4, s5, s6, s7, s8, s9, s10, s11, s12, s13, s14, s15, s16, s17, s18, s19, s20, s21, s22, s23, s24, s25, s26, s27, s28, s29, s30⟩
    go_simp
    with_reducible rfl
  rotate_left
  · simp only [Act.put, List.setIfInBounds_toArray, List.set_cons_zero, List.set_cons_succ, i64_w, i32_w]
    rfl
  refine take_ (i := 3) (N := some 19) (v := ?_) (a' := ?_) #[true, false, false, true, false, false, false, false] rfl rfl (by kernel_rfl) (fun _ _ _ h => h) (Or.inl ⟨by rfl, ?_⟩) hHeld ?_ ?_
  rotate_left
  · rintro w' ⟨s0, s1, s2, s3, s4, s5, s6, s7, s8, s9, s10, s11, s12, s13, s14, s15, s16, s17, s18, s19, s20, s21, s22, s23, s24, s25, s26, s27, s28, s29, s30⟩
    go_simp
    with_reducible rfl
  rotate_left
  · simp only [Act.put, List.setIfInBounds_toArray, List.set_cons_zero, List.set_cons_succ, i64_w, i32_w]
    rfl
  refine one_ (i := 1) (N := some 17) #[true, true, false, true, false, false, false, false] rfl rfl (by kernel_rfl) (by decide) (fun K hK => ?_)
  refine goes_ Tryd.func109 (by kernel_rfl) rfl #[.agg #[.int .u64 a, .int .u64 b, .int .u64 c, .string s, .string m, .string ⟨#[]⟩]] (by rfl) rfl rfl (by simp only [List.map_toArray, List.map_cons, List.map_nil]; rfl) ?_
  with_reducible refine (vprefix_any a b c s m _).mono ?_
  rintro e w3 ⟨rfl, hb⟩
  refine ⟨_, rfl, ?_⟩
  refine hK.out _ _ ⟨cell_on hb hHeld.1, cell_on hb hHeld.2.1, cell_on hb hHeld.2.2.1, cell_on hb hHeld.2.2.2.1, cell_on hb hHeld.2.2.2.2.1, cell_on hb hHeld.2.2.2.2.2.1, cell_on hb hHeld.2.2.2.2.2.2.1, cell_on hb hHeld.2.2.2.2.2.2.2.1, cell_on hb hHeld.2.2.2.2.2.2.2.2.1, cell_on hb hHeld.2.2.2.2.2.2.2.2.2.1, cell_on hb hHeld.2.2.2.2.2.2.2.2.2.2.1, cell_on hb hHeld.2.2.2.2.2.2.2.2.2.2.2.1, frozen_on hb hHeld.2.2.2.2.2.2.1 hHeld.2.2.2.2.2.2.2.2.2.2.2.2.1, frozen_on hb hHeld.2.2.2.2.2.2.2.1 hHeld.2.2.2.2.2.2.2.2.2.2.2.2.2.1, frozen_on hb hHeld.2.2.2.2.2.2.2.2.1 hHeld.2.2.2.2.2.2.2.2.2.2.2.2.2.2.1, frozen_on hb hHeld.2.2.2.2.2.2.2.2.2.1 hHeld.2.2.2.2.2.2.2.2.2.2.2.2.2.2.2.1, frozen_on hb hHeld.2.2.2.2.2.2.2.2.2.2.1 hHeld.2.2.2.2.2.2.2.2.2.2.2.2.2.2.2.2.1, frozen_on hb hHeld.2.2.2.2.2.2.2.2.2.2.2.1 hHeld.2.2.2.2.2.2.2.2.2.2.2.2.2.2.2.2.2.1, cell_on hb hHeld.2.2.2.2.2.2.2.2.2.2.2.2.2.2.2.2.2.2.1, cell_on hb hHeld.2.2.2.2.2.2.2.2.2.2.2.2.2.2.2.2.2.2.2.1, cell_on hb hHeld.2.2.2.2.2.2.2.2.2.2.2.2.2.2.2.2.2.2.2.2.1, cell_on hb hHeld.2.2.2.2.2.2.2.2.2.2.2.2.2.2.2.2.2.2.2.2.2.1, cell_on hb hHeld.2.2.2.2.2.2.2.2.2.2.2.2.2.2.2.2.2.2.2.2.2.2.1, cell_on hb hHeld.2.2.2.2.2.2.2.2.2.2.2.2.2.2.2.2.2.2.2.2.2.2.2.1, frozen_on hb hHeld.2.2.2.2.2.2.2.2.2.2.2.2.2.2.2.2.2.2.1 hHeld.2.2.2.2.2.2.2.2.2.2.2.2.2.2.2.2.2.2.2.2.2.2.2.2.1, frozen_on hb hHeld.2.2.2.2.2.2.2.2.2.2.2.2.2.2.2.2.2.2.2.1 hHeld.2.2.2.2.2.2.2.2.2.2.2.2.2.2.2.2.2.2.2.2.2.2.2.2.2.1, frozen_on hb hHeld.2.2.2.2.2.2.2.2.2.2.2.2.2.2.2.2.2.2.2.2.1 hHeld.2.2.2.2.2.2.2.2.2.2.2.2.2.2.2.2.2.2.2.2.2.2.2.2.2.2.1, frozen_on hb hHeld.2.2.2.2.2.2.2.2.2.2.2.2.2.2.2.2.2.2.2.2.2.1 hHeld.2.2.2.2.2.2.2.2.2.2.2.2.2.2.2.2.2.2.2.2.2.2.2.2.2.2.2.1, frozen_on hb hHeld.2.2.2.2.2.2.2.2.2.2.2.2.2.2.2.2.2.2.2.2.2.2.1 hHeld.2.2.2.2.2.2.2.2.2.2.2.2.2.2.2.2.2.2.2.2.2.2.2.2.2.2.2.2.1, frozen_on hb hHeld.2.2.2.2.2.2.2.2.2.2.2.2.2.2.2.2.2.2.2.2.2.2.2.1 hHeld.2.2.2.2.2.2.2.2.2.2.2.2.2.2.2.2.2.2.2.2.2.2.2.2.2.2.2.2.2.1, sta_on hHeld.2.2.2.2.2.2.2.2.2.2.2.2.2.2.2.2.2.2.2.2.2.2.2.2.2.2.2.2.2.2 hb⟩ (fun hHeld => ?_)
  clear hK K
  refine norm_ (a' := ?_) ?_ ?_
  rotate_left
  · show Act.put _ (some 17) _ = _
    simp only [Act.put, List.setIfInBounds_toArray, List.set_cons_zero, List.set_cons_succ, i64_w, i32_w]
    rfl
  refine pure_ (i := 2) (N := some 18) (v := ?_) (a' := ?_) #[true, true, true, true, false, false, false, false] rfl rfl (by kernel_rfl) (fun _ _ _ h => h) (Or.inl ⟨by rfl, ?_⟩) ?_ ?_
  rotate_left
  · intro w'
    go_simp
    with_reducible rfl
  rotate_left
  · simp only [Act.put, List.setIfInBounds_toArray, List.set_cons_zero, List.set_cons_succ, i64_w, i32_w]
    rfl
  refine one_ (i := 4) (N := some 20) #[true, true, true, true, true, false, false, false] rfl rfl (by kernel_rfl) (by decide) (fun K hK => ?_)
  refine goes_ Tryd.func110 (by kernel_rfl) rfl #[.agg #[.int .u64 a, .int .u64 (b + 1), .int .u64 0, .string ⟨#[]⟩, .string ⟨#[]⟩, .string ⟨#[]⟩]] (by rfl) rfl rfl (by simp only [List.map_toArray, List.map_cons, List.map_nil]; rfl) ?_
  with_reducible refine (String_any (a) ((b + 1)) (0) ⟨#[]⟩ HA.out HBb.out HC.out _ hHeld.2.2.2.2.2.2.2.2.2.2.2.2.2.2.2.2.2.2.2.2.2.2.2.2.2.2.2.2.2.2.out.tab).mono ?_
  rintro e w3 ⟨o1, rfl, ho1, hb⟩
  refine ⟨_, rfl, ?_⟩
  have q0 := eq_false (show ¬ 9223372036854775807 < o1.size by omega)
  refine hK.out _ _ ⟨cell_on hb hHeld.1, cell_on hb hHeld.2.1, cell_on hb hHeld.2.2.1, cell_on hb hHeld.2.2.2.1, cell_on hb hHeld.2.2.2.2.1, cell_on hb hHeld.2.2.2.2.2.1, cell_on hb hHeld.2.2.2.2.2.2.1, cell_on hb hHeld.2.2.2.2.2.2.2.1, cell_on hb hHeld.2.2.2.2.2.2.2.2.1, cell_on hb hHeld.2.2.2.2.2.2.2.2.2.1, cell_on hb hHeld.2.2.2.2.2.2.2.2.2.2.1, cell_on hb hHeld.2.2.2.2.2.2.2.2.2.2.2.1, frozen_on hb hHeld.2.2.2.2.2.2.1 hHeld.2.2.2.2.2.2.2.2.2.2.2.2.1, frozen_on hb hHeld.2.2.2.2.2.2.2.1 hHeld.2.2.2.2.2.2.2.2.2.2.2.2.2.1, frozen_on hb hHeld.2.2.2.2.2.2.2.2.1 hHeld.2.2.2.2.2.2.2.2.2.2.2.2.2.2.1, frozen_on hb hHeld.2.2.2.2.2.2.2.2.2.1 hHeld.2.2.2.2.2.2.2.2.2.2.2.2.2.2.2.1, frozen_on hb hHeld.2.2.2.2.2.2.2.2.2.2.1 hHeld.2.2.2.2.2.2.2.2.2.2.2.2.2.2.2.2.1, frozen_on hb hHeld.2.2.2.2.2.2.2.2.2.2.2.1 hHeld.2.2.2.2.2.2.2.2.2.2.2.2.2.2.2.2.2.1, cell_on hb hHeld.2.2.2.2.2.2.2.2.2.2.2.2.2.2.2.2.2.2.1, cell_on hb hHeld.2.2.2.2.2.2.2.2.2.2.2.2.2.2.2.2.2.2.2.1, cell_on hb hHeld.2.2.2.2.2.2.2.2.2.2.2.2.2.2.2.2.2.2.2.2.1, cell_on hb hHeld.2.2.2.2.2.2.2.2.2.2.2.2.2.2.2.2.2.2.2.2.2.1, cell_on hb hHeld.2.2.2.2.2.2.2.2.2.2.2.2.2.2.2.2.2.2.2.2.2.2.1, cell_on hb hHeld.2.2.2.2.2.2.2.2.2.2.2.2.2.2.2.2.2.2.2.2.2.2.2.1, frozen_on hb hHeld.2.2.2.2.2.2.2.2.2.2.2.2.2.2.2.2.2.2.1 hHeld.2.2.2.2.2.2.2.2.2.2.2.2.2.2.2.2.2.2.2.2.2.2.2.2.1, frozen_on hb hHeld.2.2.2.2.2.2.2.2.2.2.2.2.2.2.2.2.2.2.2.1 hHeld.2.2.2.2.2.2.2.2.2.2.2.2.2.2.2.2.2.2.2.2.2.2.2.2.2.1, frozen_on hb hHeld.2.2.2.2.2.2.2.2.2.2.2.2.2.2.2.2.2.2.2.2.1 hHeld.2.2.2.2.2.2.2.2.2.2.2.2.2.2.2.2.2.2.2.2.2.2.2.2.2.2.1, frozen_on hb hHeld.2.2.2.2.2.2.2.2.2.2.2.2.2.2.2.2.2.2.2.2.2.1 hHeld.2.2.2.2.2.2.2.2.2.2.2.2.2.2.2.2.2.2.2.2.2.2.2.2.2.2.2.1, frozen_on hb hHeld.2.2.2.2.2.2.2.2.2.2.2.2.2.2.2.2.2.2.2.2.2.2.1 hHeld.2.2.2.2.2.2.2.2.2.2.2.2.2.2.2.2.2.2.2.2.2.2.2.2.2.2.2.2.1, frozen_on hb hHeld.2.2.2.2.2.2.2.2.2.2.2.2.2.2.2.2.2.2.2.2.2.2.2.1 hHeld.2.2.2.2.2.2.2.2.2.2.2.2.2.2.2.2.2.2.2.2.2.2.2.2.2.2.2.2.2.1, sta_on hHeld.2.2.2.2.2.2.2.2.2.2.2.2.2.2.2.2.2.2.2.2.2.2.2.2.2.2.2.2.2.2 hb⟩ (fun hHeld => ?_)
  clear hK K
  refine norm_ (a' := ?_) ?_ ?_
  rotate_left
  · show Act.put _ (some 20) _ = _
    simp only [Act.put, List.setIfInBounds_toArray, List.set_cons_zero, List.set_cons_succ, i64_w, i32_w]
    rfl
  refine pure_ (i := 5) (N := some 21) (v := ?_) (a' := ?_) #[true, true, true, true, true, true, false, false] rfl rfl (by kernel_rfl) (fun _ _ _ h => h) (Or.inl ⟨by rfl, ?_⟩) ?_ ?_
  rotate_left
  · intro w'
    go_simp
    with_reducible rfl
  rotate_left
  · simp only [Act.put, List.setIfInBounds_toArray, List.set_cons_zero, List.set_cons_succ, i64_w, i32_w]
    rfl
  refine pure_ (i := 6) (N := some 22) (v := ?_) (a' := ?_) #[true, true, true, true, true, true, true, false] rfl rfl (by kernel_rfl) (fun _ _ _ h => h) (Or.inl ⟨by rfl, ?_⟩) ?_ ?_
  rotate_left
  · intro w'
    go_simp
    with_reducible rfl
  rotate_left
  · simp only [Act.put, List.setIfInBounds_toArray, List.set_cons_zero, List.set_cons_succ, i64_w, i32_w]
    rfl
  refine last_ (i := 7) (N := none) #[true, true, true, true, true, true, true, true] rfl rfl (by kernel_rfl) (by decide) (fun K hK => ?_)
  refine skip_ (w1 := ?_) (by rfl) rfl ?_ ?_
  rotate_left
  · go_simp
    rfl
  refine hK.out _ _ ?_
  clear hK K
  refine done_ (by kernel_rfl) ?_
  obtain ⟨f0, f1, f2, f3, f4, f5, f6, f7, f8, f9, f10, f11, f12, f13, f14, f15, f16, f17, f18, f19, f20, f21, f22, f23, f24, f25, f26, f27, f28, f29, hh⟩ := hHeld
  go_wp2_with fail
  clear HB HG HA HBb HC
  refine bodyPost_ret (v := .agg #[.int .u64 a, .int .u64 (b + 1), .int .u64 0, .string ⟨#[]⟩, .string ⟨#[]⟩, .string (((⟨#[]⟩ : ByteArray) ++ ⟨#[]⟩) ++ o1)]) ?hr rfl ⟨((⟨#[]⟩ : ByteArray) ++ ⟨#[]⟩) ++ o1, rfl, ?hb⟩
  case hr =>
    clear f0 f1 f2 f3 f4 f5 f12 f13 f14 f15 f16 f17 f18 f19 f20 f21 f22 f23 f24 f25 f26 f27 f28 f29
    refine put6 _ _ _ _ _ _ _ _ ?u0 ?u1 ?u2 ?u3 ?u4 ?u5 ?h0 ?h1 ?h2 ?h3 ?h4 ?h5 _ ?hfn _ ?ht
    case hfn => exact Tryd.results127
    case u0 => exact .int .u64 0
    case u1 => exact .int .u64 0
    case u2 => exact .int .u64 0
    case u3 => exact .string ⟨#[]⟩
    case u4 => exact .string ⟨#[]⟩
    case u5 => exact .string ⟨#[]⟩
    case h0 => exact (World.cell?_setCell_far _ _ _ _ (show w.heap.size + 1 + 1 ≠ w.heap.size + 1 by omega)).trans f6
    case h1 => exact (World.cell?_setCell_far _ _ _ _ (show w.heap.size + 1 + 1 ≠ w.heap.size + 1 by omega)).trans f7
    case h2 => exact (World.cell?_setCell_far _ _ _ _ (show w.heap.size + 1 + 1 ≠ w.heap.size + 1 by omega)).trans f8
    case h3 => exact (World.cell?_setCell_far _ _ _ _ (show w.heap.size + 1 + 1 ≠ w.heap.size + 1 by omega)).trans f9
    case h4 => exact (World.cell?_setCell_far _ _ _ _ (show w.heap.size + 1 + 1 ≠ w.heap.size + 1 by omega)).trans f10
    case h5 => exact (World.cell?_setCell_far _ _ _ _ (show w.heap.size + 1 + 1 ≠ w.heap.size + 1 by omega)).trans f11
    case ht => rfl
  case hb =>
    repeat (refine Below.setCell ?_ (by first | (show w.heap.size ≤ w.heap.size + 1; omega) | (show w.heap.size ≤ w.heap.size + 1 + 1; omega)) _)
    exact hh.out.bel

set_option maxHeartbeats 4000000 in
set_option maxRecDepth 100000 in
theorem IncMajor_any (a b c : Int) (s m : ByteArray) (ha : 0 ≤ a ∧ a < 18446744073709551615) (w : World) (hG : GlobT w) :
    Calls Tryd.prog 128 #[.agg #[.int .u64 a, .int .u64 b, .int .u64 c, .string s, .string m, .string ⟨#[]⟩]] w fun e w' => ∃ o : ByteArray, e = .returned (.agg #[.int .u64 (a + 1), .int .u64 0, .int .u64 0, .string ⟨#[]⟩, .string ⟨#[]⟩, .string o]) ∧ Below w.heap.size w w' := by
  obtain ⟨ha0, ha1⟩ := ha
  have n1 : (a == 18446744073709551615) = false := by simp; omega
  have HA : Hid (U64 (a + 1)) := Lib.hid ⟨by omega, by omega⟩
  have HBb : Hid (U64 0) := Lib.hid ⟨by omega, by omega⟩
  have HC : Hid (U64 0) := Lib.hid ⟨by omega, by omega⟩
  have HB := Lib.hid (inc_start w a b c (a + 1) 0 0 s m hG)
  have HG := Lib.hid hG
  clear hG
  go_enter Tryd.func128, Tryd.ntmps128
  go_wp2_with fail
  refine start_ (n := 8) (S := fun w' => w'.cell? ⟨w.heap.size, 0, none⟩ = some (.int .u64 a) ∧ w'.cell? ⟨w.heap.size, 1, none⟩ = some (.int .u64 b) ∧ w'.cell? ⟨w.heap.size, 2, none⟩ = some (.int .u64 c) ∧ w'.cell? ⟨w.heap.size, 3, none⟩ = some (.string s) ∧ w'.cell? ⟨w.heap.size, 4, none⟩ = some (.string m) ∧ w'.cell? ⟨w.heap.size, 5, none⟩ = some (.string ⟨#[]⟩) ∧ w'.cell? ⟨w.heap.size + 1, 0, none⟩ = some (.int .u64 0) ∧ w'.cell? ⟨w.heap.size + 1, 1, none⟩ = some (.int .u64 0) ∧ w'.cell? ⟨w.heap.size + 1, 2, none⟩ = some (.int .u64 0) ∧ w'.cell? ⟨w.heap.size + 1, 3, none⟩ = some (.string ⟨#[]⟩) ∧ w'.cell? ⟨w.heap.size + 1, 4, none⟩ = some (.string ⟨#[]⟩) ∧ w'.cell? ⟨w.heap.size + 1, 5, none⟩ = some (.string ⟨#[]⟩) ∧ w'.frozen? ⟨w.heap.size + 1, 0, none⟩ = false ∧ w'.frozen? ⟨w.heap.size + 1, 1, none⟩ = false ∧ w'.frozen? ⟨w.heap.size + 1, 2, none⟩ = false ∧ w'.frozen? ⟨w.heap.size + 1, 3, none⟩ = false ∧ w'.frozen? ⟨w.heap.size + 1, 4, none⟩ = false ∧ w'.frozen? ⟨w.heap.size + 1, 5, none⟩ = false ∧ w'.cell? ⟨w.heap.size + 1 + 1, 0, none⟩ = some (.int .u64 (a + 1)) ∧ w'.cell? ⟨w.heap.size + 1 + 1, 1, none⟩ = some (.int .u64 0) ∧ w'.cell? ⟨w.heap.size + 1 + 1, 2, none⟩ = some (.int .u64 0) ∧ w'.cell? ⟨w.heap.size + 1 + 1, 3, none⟩ = some (.string ⟨#[]⟩) ∧ w'.cell? ⟨w.heap.size + 1 + 1, 4, none⟩ = some (.string ⟨#[]⟩) ∧ w'.cell? ⟨w.heap.size + 1 + 1, 5, none⟩ = some (.string ⟨#[]⟩) ∧ w'.frozen? ⟨w.heap.size + 1 + 1, 0, none⟩ = false ∧ w'.frozen? ⟨w.heap.size + 1 + 1, 1, none⟩ = false ∧ w'.frozen? ⟨w.heap.size + 1 + 1, 2, none⟩ = false ∧ w'.frozen? ⟨w.heap.size + 1 + 1, 3, none⟩ = false ∧ w'.frozen? ⟨w.heap.size + 1 + 1, 4, none⟩ = false ∧ w'.frozen? ⟨w.heap.size + 1 + 1, 5, none⟩ = false ∧ Hid (Sta w w')) (ds := [7]) #[false, false, false, false, false, false, false, false] (by kernel_rfl) rfl rfl ⟨cell_on (drew_below _) HB.out.1, cell_on (drew_below _) HB.out.2.1, cell_on (drew_below _) HB.out.2.2.1, cell_on (drew_below _) HB.out.2.2.2.1, cell_on (drew_below _) HB.out.2.2.2.2.1, cell_on (drew_below _) HB.out.2.2.2.2.2.1, cell_on (drew_below _) HB.out.2.2.2.2.2.2.1, cell_on (drew_below _) HB.out.2.2.2.2.2.2.2.1, cell_on (drew_below _) HB.out.2.2.2.2.2.2.2.2.1, cell_on (drew_below _) HB.out.2.2.2.2.2.2.2.2.2.1, cell_on (drew_below _) HB.out.2.2.2.2.2.2.2.2.2.2.1, cell_on (drew_below _) HB.out.2.2.2.2.2.2.2.2.2.2.2.1, frozen_on (drew_below _) HB.out.2.2.2.2.2.2.1 HB.out.2.2.2.2.2.2.2.2.2.2.2.2.1, frozen_on (drew_below _) HB.out.2.2.2.2.2.2.2.1 HB.out.2.2.2.2.2.2.2.2.2.2.2.2.2.1, frozen_on (drew_below _) HB.out.2.2.2.2.2.2.2.2.1 HB.out.2.2.2.2.2.2.2.2.2.2.2.2.2.2.1, frozen_on (drew_below _) HB.out.2.2.2.2.2.2.2.2.2.1 HB.out.2.2.2.2.2.2.2.2.2.2.2.2.2.2.2.1, frozen_on (drew_below _) HB.out.2.2.2.2.2.2.2.2.2.2.1 HB.out.2.2.2.2.2.2.2.2.2.2.2.2.2.2.2.2.1, frozen_on (drew_below _) HB.out.2.2.2.2.2.2.2.2.2.2.2.1 HB.out.2.2.2.2.2.2.2.2.2.2.2.2.2.2.2.2.2.1, cell_on (drew_below _) HB.out.2.2.2.2.2.2.2.2.2.2.2.2.2.2.2.2.2.2.1, cell_on (drew_below _) HB.out.2.2.2.2.2.2.2.2.2.2.2.2.2.2.2.2.2.2.2.1, cell_on (drew_below _) HB.out.2.2.2.2.2.2.2.2.2.2.2.2.2.2.2.2.2.2.2.2.1, cell_on (drew_below _) HB.out.2.2.2.2.2.2.2.2.2.2.2.2.2.2.2.2.2.2.2.2.2.1, cell_on (drew_below _) HB.out.2.2.2.2.2.2.2.2.2.2.2.2.2.2.2.2.2.2.2.2.2.2.1, cell_on (drew_below _) HB.out.2.2.2.2.2.2.2.2.2.2.2.2.2.2.2.2.2.2.2.2.2.2.2.1, frozen_on (drew_below _) HB.out.2.2.2.2.2.2.2.2.2.2.2.2.2.2.2.2.2.2.1 HB.out.2.2.2.2.2.2.2.2.2.2.2.2.2.2.2.2.2.2.2.2.2.2.2.2.1, frozen_on (drew_below _) HB.out.2.2.2.2.2.2.2.2.2.2.2.2.2.2.2.2.2.2.2.1 HB.out.2.2.2.2.2.2.2.2.2.2.2.2.2.2.2.2.2.2.2.2.2.2.2.2.2.1, frozen_on (drew_below _) HB.out.2.2.2.2.2.2.2.2.2.2.2.2.2.2.2.2.2.2.2.2.1 HB.out.2.2.2.2.2.2.2.2.2.2.2.2.2.2.2.2.2.2.2.2.2.2.2.2.2.2.1, frozen_on (drew_below _) HB.out.2.2.2.2.2.2.2.2.2.2.2.2.2.2.2.2.2.2.2.2.2.1 HB.out.2.2.2.2.2.2.2.2.2.2.2.2.2.2.2.2.2.2.2.2.2.2.2.2.2.2.2.1, frozen_on (drew_below _) HB.out.2.2.2.2.2.2.2.2.2.2.2.2.2.2.2.2.2.2.2.2.2.2.1 HB.out.2.2.2.2.2.2.2.2.2.2.2.2.2.2.2.2.2.2.2.2.2.2.2.2.2.2.2.2.1, frozen_on (drew_below _) HB.out.2.2.2.2.2.2.2.2.2.2.2.2.2.2.2.2.2.2.2.2.2.2.2.1 HB.out.2.2.2.2.2.2.2.2.2.2.2.2.2.2.2.2.2.2.2.2.2.2.2.2.2.2.2.2.2.1, sta_on HB.out.2.2.2.2.2.2.2.2.2.2.2.2.2.2.2.2.2.2.2.2.2.2.2.2.2.2.2.2.2.2 (drew_below _)⟩ (fun hHeld => ?_)
  refine take_ (i := 0) (N := some 17) (v := ?_) (a' := ?_) #[true, false, false, false, false, false, false, false] rfl rfl (by kernel_rfl) (fun _ _ _ h => h) (Or.inl ⟨by rfl, ?_⟩) hHeld ?_ ?_
  rotate_left
  · rintro w' ⟨s0, s1, s2, s3, s4, s5, s6, s7, s8, s9, s10, s11, s12, s13, s14, s15, s16, s17, s18, s19, s20, s21, s22, s23, s24, s25, s26, s27, s28, s29, s30⟩
    go_simp
    with_reducible rfl
  rotate_left
  · simp only [Act.put, List.setIfInBounds_toArray, List.set_cons_zero, List.set_cons_succ, i64_w, i32_w]
    rfl
  refine take_ (i := 3) (N := some 20) (v := ?_) (a' := ?_) #[true, false, false, true, false, false, false, false] rfl rfl (by kernel_rfl) (fun _ _ _ h => h) (Or.inl ⟨by rfl, ?_⟩) hHeld ?_ ?_
  rotate_left
  · rintro w' ⟨s0, s1, s2, s3, s4, s5, s6, s7, s8, s9, s10, s11, s12, s13, s14, s15, s16, s17, s18, s19, s20, s21, s22, s23, s24, s25, s26, s27, s28, s29, s30⟩
    go_simp
    with_reducible rfl
  rotate_left
  · simp only [Act.put, List.setIfInBounds_toArray, List.set_cons_zero, List.set_cons_succ, i64_w, i32_w]
    rfl
  refine one_ (i := 1) (N := some 18) #[true, true, false, true, false, false, false, false] rfl rfl (by kernel_rfl) (by decide) (fun K hK => ?_)
  refine goes_ Tryd.func109 (by kernel_rfl) rfl #[.agg #[.int .u64 a, .int .u64 b, .int .u64 c, .string s, .string m, .string ⟨#[]⟩]] (by rfl) rfl rfl (by simp only [List.map_toArray, List.map_cons, List.map_nil]; rfl) ?_
  with_reducible refine (vprefix_any a b c s m _).mono ?_
  rintro e w3 ⟨rfl, hb⟩
  refine ⟨_, rfl, ?_⟩
  refine hK.out _ _ ⟨cell_on hb hHeld.1, cell_on hb hHeld.2.1, cell_on hb hHeld.2.2.1, cell_on hb hHeld.2.2.2.1, cell_on hb hHeld.2.2.2.2.1, cell_on hb hHeld.2.2.2.2.2.1, cell_on hb hHeld.2.2.2.2.2.2.1, cell_on hb hHeld.2.2.2.2.2.2.2.1, cell_on hb hHeld.2.2.2.2.2.2.2.2.1, cell_on hb hHeld.2.2.2.2.2.2.2.2.2.1, cell_on hb hHeld.2.2.2.2.2.2.2.2.2.2.1, cell_on hb hHeld.2.2.2.2.2.2.2.2.2.2.2.1, frozen_on hb hHeld.2.2.2.2.2.2.1 hHeld.2.2.2.2.2.2.2.2.2.2.2.2.1, frozen_on hb hHeld.2.2.2.2.2.2.2.1 hHeld.2.2.2.2.2.2.2.2.2.2.2.2.2.1, frozen_on hb hHeld.2.2.2.2.2.2.2.2.1 hHeld.2.2.2.2.2.2.2.2.2.2.2.2.2.2.1, frozen_on hb hHeld.2.2.2.2.2.2.2.2.2.1 hHeld.2.2.2.2.2.2.2.2.2.2.2.2.2.2.2.1, frozen_on hb hHeld.2.2.2.2.2.2.2.2.2.2.1 hHeld.2.2.2.2.2.2.2.2.2.2.2.2.2.2.2.2.1, frozen_on hb hHeld.2.2.2.2.2.2.2.2.2.2.2.1 hHeld.2.2.2.2.2.2.2.2.2.2.2.2.2.2.2.2.2.1, cell_on hb hHeld.2.2.2.2.2.2.2.2.2.2.2.2.2.2.2.2.2.2.1, cell_on hb hHeld.2.2.2.2.2.2.2.2.2.2.2.2.2.2.2.2.2.2.2.1, cell_on hb hHeld.2.2.2.2.2.2.2.2.2.2.2.2.2.2.2.2.2.2.2.2.1, cell_on hb hHeld.2.2.2.2.2.2.2.2.2.2.2.2.2.2.2.2.2.2.2.2.2.1, cell_on hb hHeld.2.2.2.2.2.2.2.2.2.2.2.2.2.2.2.2.2.2.2.2.2.2.1, cell_on hb hHeld.2.2.2.2.2.2.2.2.2.2.2.2.2.2.2.2.2.2.2.2.2.2.2.1, frozen_on hb hHeld.2.2.2.2.2.2.2.2.2.2.2.2.2.2.2.2.2.2.1 hHeld.2.2.2.2.2.2.2.2.2.2.2.2.2.2.2.2.2.2.2.2.2.2.2.2.1, frozen_on hb hHeld.2.2.2.2.2.2.2.2.2.2.2.2.2.2.2.2.2.2.2.1 hHeld.2.2.2.2.2.2.2.2.2.2.2.2.2.2.2.2.2.2.2.2.2.2.2.2.2.1, frozen_on hb hHeld.2.2.2.2.2.2.2.2.2.2.2.2.2.2.2.2.2.2.2.2.1 hHeld.2.2.2.2.2.2.2.2.2.2.2.2.2.2.2.2.2.2.2.2.2.2.2.2.2.2.1, frozen_on hb hHeld.2.2.2.2.2.2.2.2.2.2.2.2.2.2.2.2.2.2.2.2.2.1 hHeld.2.2.2.2.2.2.2.2.2.2.2.2.2.2.2.2.2.2.2.2.2.2.2.2.2.2.2.1, frozen_on hb hHeld.2.2.2.2.2.2.2.2.2.2.2.2.2.2.2.2.2.2.2.2.2.2.1 hHeld.2.2.2.2.2.2.2.2.2.2.2.2.2.2.2.2.2.2.2.2.2.2.2.2.2.2.2.2.1, frozen_on hb hHeld.2.2.2.2.2.2.2.2.2.2.2.2.2.2.2.2.2.2.2.2.2.2.2.1 hHeld.2.2.2.2.2.2.2.2.2.2.2.2.2.2.2.2.2.2.2.2.2.2.2.2.2.2.2.2.2.1, sta_on hHeld.2.2.2.2.2.2.2.2.2.2.2.2.2.2.2.2.2.2.2.2.2.2.2.2.2.2.2.2.2.2 hb⟩ (fun hHeld => ?_)
  clear hK K
  refine norm_ (a' := ?_) ?_ ?_
  rotate_left
  · show Act.put _ (some 18) _ = _
    simp only [Act.put, List.setIfInBounds_toArray, List.set_cons_zero, List.set_cons_succ, i64_w, i32_w]
    rfl
  refine pure_ (i := 2) (N := some 19) (v := ?_) (a' := ?_) #[true, true, true, true, false, false, false, false] rfl rfl (by kernel_rfl) (fun _ _ _ h => h) (Or.inl ⟨by rfl, ?_⟩) ?_ ?_
  rotate_left
  · intro w'
    go_simp
    with_reducible rfl
  rotate_left
  · simp only [Act.put, List.setIfInBounds_toArray, List.set_cons_zero, List.set_cons_succ, i64_w, i32_w]
    rfl
  refine one_ (i := 4) (N := some 21) #[true, true, true, true, true, false, false, false] rfl rfl (by kernel_rfl) (by decide) (fun K hK => ?_)
  refine goes_ Tryd.func110 (by kernel_rfl) rfl #[.agg #[.int .u64 (a + 1), .int .u64 0, .int .u64 0, .string ⟨#[]⟩, .string ⟨#[]⟩, .string ⟨#[]⟩]] (by rfl) rfl rfl (by simp only [List.map_toArray, List.map_cons, List.map_nil]; rfl) ?_
  with_reducible refine (String_any ((a + 1)) (0) (0) ⟨#[]⟩ HA.out HBb.out HC.out _ hHeld.2.2.2.2.2.2.2.2.2.2.2.2.2.2.2.2.2.2.2.2.2.2.2.2.2.2.2.2.2.2.out.tab).mono ?_
  rintro e w3 ⟨o1, rfl, ho1, hb⟩
  refine ⟨_, rfl, ?_⟩
  have q0 := eq_false (show ¬ 9223372036854775807 < o1.size by omega)
  refine hK.out _ _ ⟨cell_on hb hHeld.1, cell_on hb hHeld.2.1, cell_on hb hHeld.2.2.1, cell_on hb hHeld.2.2.2.1, cell_on hb hHeld.2.2.2.2.1, cell_on hb hHeld.2.2.2.2.2.1, cell_on hb hHeld.2.2.2.2.2.2.1, cell_on hb hHeld.2.2.2.2.2.2.2.1, cell_on hb hHeld.2.2.2.2.2.2.2.2.1, cell_on hb hHeld.2.2.2.2.2.2.2.2.2.1, cell_on hb hHeld.2.2.2.2.2.2.2.2.2.2.1, cell_on hb hHeld.2.2.2.2.2.2.2.2.2.2.2.1, frozen_on hb hHeld.2.2.2.2.2.2.1 hHeld.2.2.2.2.2.2.2.2.2.2.2.2.1, frozen_on hb hHeld.2.2.2.2.2.2.2.1 hHeld.2.2.2.2.2.2.2.2.2.2.2.2.2.1, frozen_on hb hHeld.2.2.2.2.2.2.2.2.1 hHeld.2.2.2.2.2.2.2.2.2.2.2.2.2.2.1, frozen_on hb hHeld.2.2.2.2.2.2.2.2.2.1 hHeld.2.2.2.2.2.2.2.2.2.2.2.2.2.2.2.1, frozen_on hb hHeld.2.2.2.2.2.2.2.2.2.2.1 hHeld.2.2.2.2.2.2.2.2.2.2.2.2.2.2.2.2.1, frozen_on hb hHeld.2.2.2.2.2.2.2.2.2.2.2.1 hHeld.2.2.2.2.2.2.2.2.2.2.2.2.2.2.2.2.2.1, cell_on hb hHeld.2.2.2.2.2.2.2.2.2.2.2.2.2.2.2.2.2.2.1, cell_on hb hHeld.2.2.2.2.2.2.2.2.2.2.2.2.2.2.2.2.2.2.2.1, cell_on hb hHeld.2.2.2.2.2.2.2.2.2.2.2.2.2.2.2.2.2.2.2.2.1, cell_on hb hHeld.2.2.2.2.2.2.2.2.2.2.2.2.2.2.2.2.2.2.2.2.2.1, cell_on hb hHeld.2.2.2.2.2.2.2.2.2.2.2.2.2.2.2.2.2.2.2.2.2.2.1, cell_on hb hHeld.2.2.2.2.2.2.2.2.2.2.2.2.2.2.2.2.2.2.2.2.2.2.2.1, frozen_on hb hHeld.2.2.2.2.2.2.2.2.2.2.2.2.2.2.2.2.2.2.1 hHeld.2.2.2.2.2.2.2.2.2.2.2.2.2.2.2.2.2.2.2.2.2.2.2.2.1, frozen_on hb hHeld.2.2.2.2.2.2.2.2.2.2.2.2.2.2.2.2.2.2.2.1 hHeld.2.2.2.2.2.2.2.2.2.2.2.2.2.2.2.2.2.2.2.2.2.2.2.2.2.1, frozen_on hb hHeld.2.2.2.2.2.2.2.2.2.2.2.2.2.2.2.2.2.2.2.2.1 hHeld.2.2.2.2.2.2.2.2.2.2.2.2.2.2.2.2.2.2.2.2.2.2.2.2.2.2.1, frozen_on hb hHeld.2.2.2.2.2.2.2.2.2.2.2.2.2.2.2.2.2.2.2.2.2.1 hHeld.2.2.2.2.2.2.2.2.2.2.2.2.2.2.2.2.2.2.2.2.2.2.2.2.2.2.2.1, frozen_on hb hHeld.2.2.2.2.2.2.2.2.2.2.2.2.2.2.2.2.2.2.2.2.2.2.1 hHeld.2.2.2.2.2.2.2.2.2.2.2.2.2.2.2.2.2.2.2.2.2.2.2.2.2.2.2.2.1, frozen_on hb hHeld.2.2.2.2.2.2.2.2.2.2.2.2.2.2.2.2.2.2.2.2.2.2.2.1 hHeld.2.2.2.2.2.2.2.2.2.2.2.2.2.2.2.2.2.2.2.2.2.2.2.2.2.2.2.2.2.1, sta_on hHeld.2.2.2.2.2.2.2.2.2.2.2.2.2.2.2.2.2.2.2.2.2.2.2.2.2.2.2.2.2.2 hb⟩ (fun hHeld => ?_)
  clear hK K
  refine norm_ (a' := ?_) ?_ ?_
  rotate_left
  · show Act.put _ (some 21) _ = _
    simp only [Act.put, List.setIfInBounds_toArray, List.set_cons_zero, List.set_cons_succ, i64_w, i32_w]
    rfl
  refine pure_ (i := 5) (N := some 22) (v := ?_) (a' := ?_) #[true, true, true, true, true, true, false, false] rfl rfl (by kernel_rfl) (fun _ _ _ h => h) (Or.inl ⟨by rfl, ?_⟩) ?_ ?_
  rotate_left
  · intro w'
    go_simp
    with_reducible rfl
  rotate_left
  · simp only [Act.put, List.setIfInBounds_toArray, List.set_cons_zero, List.set_cons_succ, i64_w, i32_w]
    rfl
  refine pure_ (i := 6) (N := some 23) (v := ?_) (a' := ?_) #[true, true, true, true, true, true, true, false] rfl rfl (by kernel_rfl) (fun _ _ _ h => h) (Or.inl ⟨by rfl, ?_⟩) ?_ ?_
  rotate_left
  · intro w'
    go_simp
    with_reducible rfl
  rotate_left
  · simp only [Act.put, List.setIfInBounds_toArray, List.set_cons_zero, List.set_cons_succ, i64_w, i32_w]
    rfl
  refine last_ (i := 7) (N := none) #[true, true, true, true, true, true, true, true] rfl rfl (by kernel_rfl) (by decide) (fun K hK => ?_)
  refine skip_ (w1 := ?_) (by rfl) rfl ?_ ?_
  rotate_left
  · go_simp
    rfl
  refine hK.out _ _ ?_
  clear hK K
  refine done_ (by kernel_rfl) ?_
  obtain ⟨f0, f1, f2, f3, f4, f5, f6, f7, f8, f9, f10, f11, f12, f13, f14, f15, f16, f17, f18, f19, f20, f21, f22, f23, f24, f25, f26, f27, f28, f29, hh⟩ := hHeld
  go_wp2_with fail
  clear HB HG HA HBb HC
  refine bodyPost_ret (v := .agg #[.int .u64 (a + 1), .int .u64 0, .int .u64 0, .string ⟨#[]⟩, .string ⟨#[]⟩, .string (((⟨#[]⟩ : ByteArray) ++ ⟨#[]⟩) ++ o1)]) ?hr rfl ⟨((⟨#[]⟩ : ByteArray) ++ ⟨#[]⟩) ++ o1, rfl, ?hb⟩
  case hr =>
    clear f0 f1 f2 f3 f4 f5 f12 f13 f14 f15 f16 f17 f18 f19 f20 f21 f22 f23 f24 f25 f26 f27 f28 f29
    refine put6 _ _ _ _ _ _ _ _ ?u0 ?u1 ?u2 ?u3 ?u4 ?u5 ?h0 ?h1 ?h2 ?h3 ?h4 ?h5 _ ?hfn _ ?ht
    case hfn => exact Tryd.results128
    case u0 => exact .int .u64 0
    case u1 => exact .int .u64 0
    case u2 => exact .int .u64 0
    case u3 => exact .string ⟨#[]⟩
    case u4 => exact .string ⟨#[]⟩
    case u5 => exact .string ⟨#[]⟩
    case h0 => exact (World.cell?_setCell_far _ _ _ _ (show w.heap.size + 1 + 1 ≠ w.heap.size + 1 by omega)).trans f6
    case h1 => exact (World.cell?_setCell_far _ _ _ _ (show w.heap.size + 1 + 1 ≠ w.heap.size + 1 by omega)).trans f7
    case h2 => exact (World.cell?_setCell_far _ _ _ _ (show w.heap.size + 1 + 1 ≠ w.heap.size + 1 by omega)).trans f8
    case h3 => exact (World.cell?_setCell_far _ _ _ _ (show w.heap.size + 1 + 1 ≠ w.heap.size + 1 by omega)).trans f9
    case h4 => exact (World.cell?_setCell_far _ _ _ _ (show w.heap.size + 1 + 1 ≠ w.heap.size + 1 by omega)).trans f10
    case h5 => exact (World.cell?_setCell_far _ _ _ _ (show w.heap.size + 1 + 1 ≠ w.heap.size + 1 by omega)).trans f11
    case ht => rfl
  case hb =>
    repeat (refine Below.setCell ?_ (by first | (show w.heap.size ≤ w.heap.size + 1; omega) | (show w.heap.size ≤ w.heap.size + 1 + 1; omega)) _)
    exact hh.out.bel


theorem Meta_any (a b c : Int) (s m o : ByteArray) (w : World) : Calls Tryd.prog 115 #[.agg #[.int .u64 a, .int .u64 b, .int .u64 c, .string s, .string m, .string o]] w fun e w' => e = .returned (.string m) ∧ Below w.heap.size w w' := by
  go_enter Tryd.func115, Tryd.ntmps115
  go_wp2
  go_ret
  exact ⟨rfl, (Below.refl _ _).alloc (Nat.le_refl _) _⟩

/-- all that was is as it was -/
structure Bel (w W : World) : Prop where
  bel : Below w.heap.size w W
theorem bel_on {w W W' : World} (h : Hid (Bel w W)) (hb : Below W.heap.size W W') : Hid (Bel w W') := Lib.hid ⟨bl_on h.out.bel hb⟩
abbrev PlainS (w : World) (q : Nat) (a b c : Int) (s m o : ByteArray) (W : World) : Prop := W.cell? ⟨q, 0, none⟩ = some (.int .u64 a) ∧ W.cell? ⟨q, 1, none⟩ = some (.int .u64 b) ∧ W.cell? ⟨q, 2, none⟩ = some (.int .u64 c) ∧ W.cell? ⟨q, 3, none⟩ = some (.string s) ∧ W.cell? ⟨q, 4, none⟩ = some (.string m) ∧ W.cell? ⟨q, 5, none⟩ = some (.string o) ∧ W.cell? ⟨w.heap.size, 0, none⟩ = some (.int .u64 0) ∧ W.cell? ⟨w.heap.size, 1, none⟩ = some (.int .u64 0) ∧ W.cell? ⟨w.heap.size, 2, none⟩ = some (.int .u64 0) ∧ W.cell? ⟨w.heap.size, 3, none⟩ = some (.string ⟨#[]⟩) ∧ W.cell? ⟨w.heap.size, 4, none⟩ = some (.string ⟨#[]⟩) ∧ W.frozen? ⟨w.heap.size, 0, none⟩ = false ∧ W.frozen? ⟨w.heap.size, 1, none⟩ = false ∧ W.frozen? ⟨w.heap.size, 2, none⟩ = false ∧ W.frozen? ⟨w.heap.size, 3, none⟩ = false ∧ W.frozen? ⟨w.heap.size, 4, none⟩ = false ∧ Hid (Bel w W)
theorem plain_start (w : World) (q : Nat) (a b c : Int) (s m o : ByteArray) (hv : IsVer w q a b c s m o) : PlainS w q a b c s m o (w.alloc (.cells #[.int .u64 0, .int .u64 0, .int .u64 0, .string ⟨#[]⟩, .string ⟨#[]⟩] 24)) := by
  have hb : Below w.heap.size w (w.alloc (.cells #[.int .u64 0, .int .u64 0, .int .u64 0, .string ⟨#[]⟩, .string ⟨#[]⟩] 24)) := bl_alloc (Below.refl _ _) _
  obtain ⟨h0, h1, h2, h3, h4, h5⟩ := hv
  refine ⟨cell_on hb h0, cell_on hb h1, cell_on hb h2, cell_on hb h3, cell_on hb h4, cell_on hb h5, ?_, ?_, ?_, ?_, ?_, ?_, ?_, ?_, ?_, ?_, Lib.hid ⟨hb⟩⟩
  all_goals go_simp

set_option maxHeartbeats 4000000 in
set_option maxRecDepth 100000 in
theorem plain_any (q : Nat) (a b c : Int) (s m o : ByteArray) (w : World) (hv : IsVer w q a b c s m o) :
    Calls Tryd.prog 68 #[.pointer (some ⟨q, 0, none⟩)] w fun e w' => e = .returned (.agg #[.int .u64 a, .int .u64 b, .int .u64 c, .string s, .string m]) ∧ Below w.heap.size w w' := by
  have HB := Lib.hid (plain_start w q a b c s m o hv)
  clear hv
  go_enter Tryd.func68, Tryd.ntmps68
  go_wp2_with fail
  refine start_ (n := 22) (S := fun w' => w'.cell? ⟨q, 0, none⟩ = some (.int .u64 a) ∧ w'.cell? ⟨q, 1, none⟩ = some (.int .u64 b) ∧ w'.cell? ⟨q, 2, none⟩ = some (.int .u64 c) ∧ w'.cell? ⟨q, 3, none⟩ = some (.string s) ∧ w'.cell? ⟨q, 4, none⟩ = some (.string m) ∧ w'.cell? ⟨q, 5, none⟩ = some (.string o) ∧ w'.cell? ⟨w.heap.size, 0, none⟩ = some (.int .u64 0) ∧ w'.cell? ⟨w.heap.size, 1, none⟩ = some (.int .u64 0) ∧ w'.cell? ⟨w.heap.size, 2, none⟩ = some (.int .u64 0) ∧ w'.cell? ⟨w.heap.size, 3, none⟩ = some (.string ⟨#[]⟩) ∧ w'.cell? ⟨w.heap.size, 4, none⟩ = some (.string ⟨#[]⟩) ∧ w'.frozen? ⟨w.heap.size, 0, none⟩ = false ∧ w'.frozen? ⟨w.heap.size, 1, none⟩ = false ∧ w'.frozen? ⟨w.heap.size, 2, none⟩ = false ∧ w'.frozen? ⟨w.heap.size, 3, none⟩ = false ∧ w'.frozen? ⟨w.heap.size, 4, none⟩ = false ∧ Hid (Bel w w')) (ds := [21]) #[false, false, false, false, false, false, false, false, false, false, false, false, false, false, false, false, false, false, false, false, false, false] (by kernel_rfl) rfl rfl ⟨cell_on (drew_below _) HB.out.1, cell_on (drew_below _) HB.out.2.1, cell_on (drew_below _) HB.out.2.2.1, cell_on (drew_below _) HB.out.2.2.2.1, cell_on (drew_below _) HB.out.2.2.2.2.1, cell_on (drew_below _) HB.out.2.2.2.2.2.1, cell_on (drew_below _) HB.out.2.2.2.2.2.2.1, cell_on (drew_below _) HB.out.2.2.2.2.2.2.2.1, cell_on (drew_below _) HB.out.2.2.2.2.2.2.2.2.1, cell_on (drew_below _) HB.out.2.2.2.2.2.2.2.2.2.1, cell_on (drew_below _) HB.out.2.2.2.2.2.2.2.2.2.2.1, frozen_on (drew_below _) HB.out.2.2.2.2.2.2.1 HB.out.2.2.2.2.2.2.2.2.2.2.2.1, frozen_on (drew_below _) HB.out.2.2.2.2.2.2.2.1 HB.out.2.2.2.2.2.2.2.2.2.2.2.2.1, frozen_on (drew_below _) HB.out.2.2.2.2.2.2.2.2.1 HB.out.2.2.2.2.2.2.2.2.2.2.2.2.2.1, frozen_on (drew_below _) HB.out.2.2.2.2.2.2.2.2.2.1 HB.out.2.2.2.2.2.2.2.2.2.2.2.2.2.2.1, frozen_on (drew_below _) HB.out.2.2.2.2.2.2.2.2.2.2.1 HB.out.2.2.2.2.2.2.2.2.2.2.2.2.2.2.2.1, bel_on HB.out.2.2.2.2.2.2.2.2.2.2.2.2.2.2.2.2 (drew_below _)⟩ (fun hHeld => ?_)
  refine pure_ (i := 0) (N := some 3) (v := ?_) (a' := ?_) #[true, false, false, false, false, false, false, false, false, false, false, false, false, false, false, false, false, false, false, false, false, false] rfl rfl (by kernel_rfl) (fun _ _ _ h => h) (Or.inl ⟨by rfl, ?_⟩) ?_ ?_
  rotate_left
  · intro w'
    go_simp
    with_reducible rfl
  rotate_left
  · simp only [Act.put, List.setIfInBounds_toArray, List.set_cons_zero, List.set_cons_succ, i64_w, i32_w]
    rfl
  refine pure_ (i := 1) (N := some 4) (v := ?_) (a' := ?_) #[true, true, false, false, false, false, false, false, false, false, false, false, false, false, false, false, false, false, false, false, false, false] rfl rfl (by kernel_rfl) (fun _ _ _ h => h) (Or.inl ⟨by rfl, ?_⟩) ?_ ?_
  rotate_left
  · intro w'
    go_simp
    with_reducible rfl
  rotate_left
  · simp only [Act.put, List.setIfInBounds_toArray, List.set_cons_zero, List.set_cons_succ, i64_w, i32_w]
    rfl
  refine pure_ (i := 4) (N := some 7) (v := ?_) (a' := ?_) #[true, true, false, false, true, false, false, false, false, false, false, false, false, false, false, false, false, false, false, false, false, false] rfl rfl (by kernel_rfl) (fun _ _ _ h => h) (Or.inl ⟨by rfl, ?_⟩) ?_ ?_
  rotate_left
  · intro w'
    go_simp
    with_reducible rfl
  rotate_left
  · simp only [Act.put, List.setIfInBounds_toArray, List.set_cons_zero, List.set_cons_succ, i64_w, i32_w]
    rfl
  refine pure_ (i := 5) (N := some 8) (v := ?_) (a' := ?_) #[true, true, false, false, true, true, false, false, false, false, false, false, false, false, false, false, false, false, false, false, false, false] rfl rfl (by kernel_rfl) (fun _ _ _ h => h) (Or.inl ⟨by rfl, ?_⟩) ?_ ?_
  rotate_left
  · intro w'
    go_simp
    with_reducible rfl
  rotate_left
  · simp only [Act.put, List.setIfInBounds_toArray, List.set_cons_zero, List.set_cons_succ, i64_w, i32_w]
    rfl
  refine pure_ (i := 8) (N := some 11) (v := ?_) (a' := ?_) #[true, true, false, false, true, true, false, false, true, false, false, false, false, false, false, false, false, false, false, false, false, false] rfl rfl (by kernel_rfl) (fun _ _ _ h => h) (Or.inl ⟨by rfl, ?_⟩) ?_ ?_
  rotate_left
  · intro w'
    go_simp
    with_reducible rfl
  rotate_left
  · simp only [Act.put, List.setIfInBounds_toArray, List.set_cons_zero, List.set_cons_succ, i64_w, i32_w]
    rfl
  refine pure_ (i := 9) (N := some 12) (v := ?_) (a' := ?_) #[true, true, false, false, true, true, false, false, true, true, false, false, false, false, false, false, false, false, false, false, false, false] rfl rfl (by kernel_rfl) (fun _ _ _ h => h) (Or.inl ⟨by rfl, ?_⟩) ?_ ?_
  rotate_left
  · intro w'
    go_simp
    with_reducible rfl
  rotate_left
  · simp only [Act.put, List.setIfInBounds_toArray, List.set_cons_zero, List.set_cons_succ, i64_w, i32_w]
    rfl
  refine pure_ (i := 12) (N := some 15) (v := ?_) (a' := ?_) #[true, true, false, false, true, true, false, false, true, true, false, false, true, false, false, false, false, false, false, false, false, false] rfl rfl (by kernel_rfl) (fun _ _ _ h => h) (Or.inl ⟨by rfl, ?_⟩) ?_ ?_
  rotate_left
  · intro w'
    go_simp
    with_reducible rfl
  rotate_left
  · simp only [Act.put, List.setIfInBounds_toArray, List.set_cons_zero, List.set_cons_succ, i64_w, i32_w]
    rfl
  refine pure_ (i := 13) (N := some 16) (v := ?_) (a' := ?_) #[true, true, false, false, true, true, false, false, true, true, false, false, true, true, false, false, false, false, false, false, false, false] rfl rfl (by kernel_rfl) (fun _ _ _ h => h) (Or.inl ⟨by rfl, ?_⟩) ?_ ?_
  rotate_left
  · intro w'
    go_simp
    with_reducible rfl
  rotate_left
  · simp only [Act.put, List.setIfInBounds_toArray, List.set_cons_zero, List.set_cons_succ, i64_w, i32_w]
    rfl
  refine pure_ (i := 16) (N := some 19) (v := ?_) (a' := ?_) #[true, true, false, false, true, true, false, false, true, true, false, false, true, true, false, false, true, false, false, false, false, false] rfl rfl (by kernel_rfl) (fun _ _ _ h => h) (Or.inl ⟨by rfl, ?_⟩) ?_ ?_
  rotate_left
  · intro w'
    go_simp
    with_reducible rfl
  rotate_left
  · simp only [Act.put, List.setIfInBounds_toArray, List.set_cons_zero, List.set_cons_succ, i64_w, i32_w]
    rfl
  refine pure_ (i := 17) (N := some 20) (v := ?_) (a' := ?_) #[true, true, false, false, true, true, false, false, true, true, false, false, true, true, false, false, true, true, false, false, false, false] rfl rfl (by kernel_rfl) (fun _ _ _ h => h) (Or.inl ⟨by rfl, ?_⟩) ?_ ?_
  rotate_left
  · intro w'
    go_simp
    with_reducible rfl
  rotate_left
  · simp only [Act.put, List.setIfInBounds_toArray, List.set_cons_zero, List.set_cons_succ, i64_w, i32_w]
    rfl
  refine take_ (i := 2) (N := some 5) (v := ?_) (a' := ?_) #[true, true, true, false, true, true, false, false, true, true, false, false, true, true, false, false, true, true, false, false, false, false] rfl rfl (by kernel_rfl) (fun _ _ _ h => h) (Or.inl ⟨by rfl, ?_⟩) hHeld ?_ ?_
  rotate_left
  · rintro w' ⟨s0, s1, s2, s3, s4, s5, s6, s7, s8, s9, s10, s11, s12, s13, s14, s15, s16⟩
    go_simp
    with_reducible rfl
  rotate_left
  · simp only [Act.put, List.setIfInBounds_toArray, List.set_cons_zero, List.set_cons_succ, i64_w, i32_w]
    rfl
  refine take_ (i := 6) (N := some 9) (v := ?_) (a' := ?_) #[true, true, true, false, true, true, true, false, true, true, false, false, true, true, false, false, true, true, false, false, false, false] rfl rfl (by kernel_rfl) (fun _ _ _ h => h) (Or.inl ⟨by rfl, ?_⟩) hHeld ?_ ?_
  rotate_left
  · rintro w' ⟨s0, s1, s2, s3, s4, s5, s6, s7, s8, s9, s10, s11, s12, s13, s14, s15, s16⟩
    go_simp
    with_reducible rfl
  rotate_left
  · simp only [Act.put, List.setIfInBounds_toArray, List.set_cons_zero, List.set_cons_succ, i64_w, i32_w]
    rfl
  refine take_ (i := 10) (N := some 13) (v := ?_) (a' := ?_) #[true, true, true, false, true, true, true, false, true, true, true, false, true, true, false, false, true, true, false, false, false, false] rfl rfl (by kernel_rfl) (fun _ _ _ h => h) (Or.inl ⟨by rfl, ?_⟩) hHeld ?_ ?_
  rotate_left
  · rintro w' ⟨s0, s1, s2, s3, s4, s5, s6, s7, s8, s9, s10, s11, s12, s13, s14, s15, s16⟩
    go_simp
    with_reducible rfl
  rotate_left
  · simp only [Act.put, List.setIfInBounds_toArray, List.set_cons_zero, List.set_cons_succ, i64_w, i32_w]
    rfl
  refine take_ (i := 14) (N := some 17) (v := ?_) (a' := ?_) #[true, true, true, false, true, true, true, false, true, true, true, false, true, true, true, false, true, true, false, false, false, false] rfl rfl (by kernel_rfl) (fun _ _ _ h => h) (Or.inl ⟨by rfl, ?_⟩) hHeld ?_ ?_
  rotate_left
  · rintro w' ⟨s0, s1, s2, s3, s4, s5, s6, s7, s8, s9, s10, s11, s12, s13, s14, s15, s16⟩
    go_simp
    with_reducible rfl
  rotate_left
  · simp only [Act.put, List.setIfInBounds_toArray, List.set_cons_zero, List.set_cons_succ, i64_w, i32_w]
    rfl
  refine take_ (i := 18) (N := some 21) (v := ?_) (a' := ?_) #[true, true, true, false, true, true, true, false, true, true, true, false, true, true, true, false, true, true, true, false, false, false] rfl rfl (by kernel_rfl) (fun _ _ _ h => h) (Or.inl ⟨by rfl, ?_⟩) hHeld ?_ ?_
  rotate_left
  · rintro w' ⟨s0, s1, s2, s3, s4, s5, s6, s7, s8, s9, s10, s11, s12, s13, s14, s15, s16⟩
    go_simp
    with_reducible rfl
  rotate_left
  · simp only [Act.put, List.setIfInBounds_toArray, List.set_cons_zero, List.set_cons_succ, i64_w, i32_w]
    rfl
  refine one_ (i := 3) (N := some 6) #[true, true, true, true, true, true, true, false, true, true, true, false, true, true, true, false, true, true, true, false, false, false] rfl rfl (by kernel_rfl) (by decide) (fun K hK => ?_)
  refine goes_ Tryd.func111 (by kernel_rfl) rfl #[.agg #[.int .u64 a, .int .u64 b, .int .u64 c, .string s, .string m, .string o]] (by rfl) rfl rfl (by simp only [List.map_toArray, List.map_cons, List.map_nil]; rfl) ?_
  with_reducible refine (Major_any a b c s m o _).mono ?_
  rintro e w3 ⟨rfl, hb⟩
  refine ⟨_, rfl, ?_⟩
  refine hK.out _ _ ⟨cell_on hb hHeld.1, cell_on hb hHeld.2.1, cell_on hb hHeld.2.2.1, cell_on hb hHeld.2.2.2.1, cell_on hb hHeld.2.2.2.2.1, cell_on hb hHeld.2.2.2.2.2.1, cell_on hb hHeld.2.2.2.2.2.2.1, cell_on hb hHeld.2.2.2.2.2.2.2.1, cell_on hb hHeld.2.2.2.2.2.2.2.2.1, cell_on hb hHeld.2.2.2.2.2.2.2.2.2.1, cell_on hb hHeld.2.2.2.2.2.2.2.2.2.2.1, frozen_on hb hHeld.2.2.2.2.2.2.1 hHeld.2.2.2.2.2.2.2.2.2.2.2.1, frozen_on hb hHeld.2.2.2.2.2.2.2.1 hHeld.2.2.2.2.2.2.2.2.2.2.2.2.1, frozen_on hb hHeld.2.2.2.2.2.2.2.2.1 hHeld.2.2.2.2.2.2.2.2.2.2.2.2.2.1, frozen_on hb hHeld.2.2.2.2.2.2.2.2.2.1 hHeld.2.2.2.2.2.2.2.2.2.2.2.2.2.2.1, frozen_on hb hHeld.2.2.2.2.2.2.2.2.2.2.1 hHeld.2.2.2.2.2.2.2.2.2.2.2.2.2.2.2.1, bel_on hHeld.2.2.2.2.2.2.2.2.2.2.2.2.2.2.2.2 hb⟩ (fun hHeld => ?_)
  clear hK K
  refine norm_ (a' := ?_) ?_ ?_
  rotate_left
  · show Act.put _ (some 6) _ = _
    simp only [Act.put, List.setIfInBounds_toArray, List.set_cons_zero, List.set_cons_succ, i64_w, i32_w]
    rfl
  refine one_ (i := 7) (N := some 10) #[true, true, true, true, true, true, true, true, true, true, true, false, true, true, true, false, true, true, true, false, false, false] rfl rfl (by kernel_rfl) (by decide) (fun K hK => ?_)
  refine goes_ Tryd.func112 (by kernel_rfl) rfl #[.agg #[.int .u64 a, .int .u64 b, .int .u64 c, .string s, .string m, .string o]] (by rfl) rfl rfl (by simp only [List.map_toArray, List.map_cons, List.map_nil]; rfl) ?_
  with_reducible refine (Minor_any a b c s m o _).mono ?_
  rintro e w3 ⟨rfl, hb⟩
  refine ⟨_, rfl, ?_⟩
  refine hK.out _ _ ⟨cell_on hb hHeld.1, cell_on hb hHeld.2.1, cell_on hb hHeld.2.2.1, cell_on hb hHeld.2.2.2.1, cell_on hb hHeld.2.2.2.2.1, cell_on hb hHeld.2.2.2.2.2.1, cell_on hb hHeld.2.2.2.2.2.2.1, cell_on hb hHeld.2.2.2.2.2.2.2.1, cell_on hb hHeld.2.2.2.2.2.2.2.2.1, cell_on hb hHeld.2.2.2.2.2.2.2.2.2.1, cell_on hb hHeld.2.2.2.2.2.2.2.2.2.2.1, frozen_on hb hHeld.2.2.2.2.2.2.1 hHeld.2.2.2.2.2.2.2.2.2.2.2.1, frozen_on hb hHeld.2.2.2.2.2.2.2.1 hHeld.2.2.2.2.2.2.2.2.2.2.2.2.1, frozen_on hb hHeld.2.2.2.2.2.2.2.2.1 hHeld.2.2.2.2.2.2.2.2.2.2.2.2.2.1, frozen_on hb hHeld.2.2.2.2.2.2.2.2.2.1 hHeld.2.2.2.2.2.2.2.2.2.2.2.2.2.2.1, frozen_on hb hHeld.2.2.2.2.2.2.2.2.2.2.1 hHeld.2.2.2.2.2.2.2.2.2.2.2.2.2.2.2.1, bel_on hHeld.2.2.2.2.2.2.2.2.2.2.2.2.2.2.2.2 hb⟩ (fun hHeld => ?_)
  clear hK K
  refine norm_ (a' := ?_) ?_ ?_
  rotate_left
  · show Act.put _ (some 10) _ = _
    simp only [Act.put, List.setIfInBounds_toArray, List.set_cons_zero, List.set_cons_succ, i64_w, i32_w]
    rfl
  refine one_ (i := 11) (N := some 14) #[true, true, true, true, true, true, true, true, true, true, true, true, true, true, true, false, true, true, true, false, false, false] rfl rfl (by kernel_rfl) (by decide) (fun K hK => ?_)
  refine goes_ Tryd.func113 (by kernel_rfl) rfl #[.agg #[.int .u64 a, .int .u64 b, .int .u64 c, .string s, .string m, .string o]] (by rfl) rfl rfl (by simp only [List.map_toArray, List.map_cons, List.map_nil]; rfl) ?_
  with_reducible refine (Patch_any a b c s m o _).mono ?_
  rintro e w3 ⟨rfl, hb⟩
  refine ⟨_, rfl, ?_⟩
  refine hK.out _ _ ⟨cell_on hb hHeld.1, cell_on hb hHeld.2.1, cell_on hb hHeld.2.2.1, cell_on hb hHeld.2.2.2.1, cell_on hb hHeld.2.2.2.2.1, cell_on hb hHeld.2.2.2.2.2.1, cell_on hb hHeld.2.2.2.2.2.2.1, cell_on hb hHeld.2.2.2.2.2.2.2.1, cell_on hb hHeld.2.2.2.2.2.2.2.2.1, cell_on hb hHeld.2.2.2.2.2.2.2.2.2.1, cell_on hb hHeld.2.2.2.2.2.2.2.2.2.2.1, frozen_on hb hHeld.2.2.2.2.2.2.1 hHeld.2.2.2.2.2.2.2.2.2.2.2.1, frozen_on hb hHeld.2.2.2.2.2.2.2.1 hHeld.2.2.2.2.2.2.2.2.2.2.2.2.1, frozen_on hb hHeld.2.2.2.2.2.2.2.2.1 hHeld.2.2.2.2.2.2.2.2.2.2.2.2.2.1, frozen_on hb hHeld.2.2.2.2.2.2.2.2.2.1 hHeld.2.2.2.2.2.2.2.2.2.2.2.2.2.2.1, frozen_on hb hHeld.2.2.2.2.2.2.2.2.2.2.1 hHeld.2.2.2.2.2.2.2.2.2.2.2.2.2.2.2.1, bel_on hHeld.2.2.2.2.2.2.2.2.2.2.2.2.2.2.2.2 hb⟩ (fun hHeld => ?_)
  clear hK K
  refine norm_ (a' := ?_) ?_ ?_
  rotate_left
  · show Act.put _ (some 14) _ = _
    simp only [Act.put, List.setIfInBounds_toArray, List.set_cons_zero, List.set_cons_succ, i64_w, i32_w]
    rfl
  refine one_ (i := 15) (N := some 18) #[true, true, true, true, true, true, true, true, true, true, true, true, true, true, true, true, true, true, true, false, false, false] rfl rfl (by kernel_rfl) (by decide) (fun K hK => ?_)
  refine goes_ Tryd.func114 (by kernel_rfl) rfl #[.agg #[.int .u64 a, .int .u64 b, .int .u64 c, .string s, .string m, .string o]] (by rfl) rfl rfl (by simp only [List.map_toArray, List.map_cons, List.map_nil]; rfl) ?_
  with_reducible refine (Pre_any a b c s m o _).mono ?_
  rintro e w3 ⟨rfl, hb⟩
  refine ⟨_, rfl, ?_⟩
  refine hK.out _ _ ⟨cell_on hb hHeld.1, cell_on hb hHeld.2.1, cell_on hb hHeld.2.2.1, cell_on hb hHeld.2.2.2.1, cell_on hb hHeld.2.2.2.2.1, cell_on hb hHeld.2.2.2.2.2.1, cell_on hb hHeld.2.2.2.2.2.2.1, cell_on hb hHeld.2.2.2.2.2.2.2.1, cell_on hb hHeld.2.2.2.2.2.2.2.2.1, cell_on hb hHeld.2.2.2.2.2.2.2.2.2.1, cell_on hb hHeld.2.2.2.2.2.2.2.2.2.2.1, frozen_on hb hHeld.2.2.2.2.2.2.1 hHeld.2.2.2.2.2.2.2.2.2.2.2.1, frozen_on hb hHeld.2.2.2.2.2.2.2.1 hHeld.2.2.2.2.2.2.2.2.2.2.2.2.1, frozen_on hb hHeld.2.2.2.2.2.2.2.2.1 hHeld.2.2.2.2.2.2.2.2.2.2.2.2.2.1, frozen_on hb hHeld.2.2.2.2.2.2.2.2.2.1 hHeld.2.2.2.2.2.2.2.2.2.2.2.2.2.2.1, frozen_on hb hHeld.2.2.2.2.2.2.2.2.2.2.1 hHeld.2.2.2.2.2.2.2.2.2.2.2.2.2.2.2.1, bel_on hHeld.2.2.2.2.2.2.2.2.2.2.2.2.2.2.2.2 hb⟩ (fun hHeld => ?_)
  clear hK K
  refine norm_ (a' := ?_) ?_ ?_
  rotate_left
  · show Act.put _ (some 18) _ = _
    simp only [Act.put, List.setIfInBounds_toArray, List.set_cons_zero, List.set_cons_succ, i64_w, i32_w]
    rfl
  refine one_ (i := 19) (N := some 22) #[true, true, true, true, true, true, true, true, true, true, true, true, true, true, true, true, true, true, true, true, false, false] rfl rfl (by kernel_rfl) (by decide) (fun K hK => ?_)
  refine goes_ Tryd.func115 (by kernel_rfl) rfl #[.agg #[.int .u64 a, .int .u64 b, .int .u64 c, .string s, .string m, .string o]] (by rfl) rfl rfl (by simp only [List.map_toArray, List.map_cons, List.map_nil]; rfl) ?_
  with_reducible refine (Meta_any a b c s m o _).mono ?_
  rintro e w3 ⟨rfl, hb⟩
  refine ⟨_, rfl, ?_⟩
  refine hK.out _ _ ⟨cell_on hb hHeld.1, cell_on hb hHeld.2.1, cell_on hb hHeld.2.2.1, cell_on hb hHeld.2.2.2.1, cell_on hb hHeld.2.2.2.2.1, cell_on hb hHeld.2.2.2.2.2.1, cell_on hb hHeld.2.2.2.2.2.2.1, cell_on hb hHeld.2.2.2.2.2.2.2.1, cell_on hb hHeld.2.2.2.2.2.2.2.2.1, cell_on hb hHeld.2.2.2.2.2.2.2.2.2.1, cell_on hb hHeld.2.2.2.2.2.2.2.2.2.2.1, frozen_on hb hHeld.2.2.2.2.2.2.1 hHeld.2.2.2.2.2.2.2.2.2.2.2.1, frozen_on hb hHeld.2.2.2.2.2.2.2.1 hHeld.2.2.2.2.2.2.2.2.2.2.2.2.1, frozen_on hb hHeld.2.2.2.2.2.2.2.2.1 hHeld.2.2.2.2.2.2.2.2.2.2.2.2.2.1, frozen_on hb hHeld.2.2.2.2.2.2.2.2.2.1 hHeld.2.2.2.2.2.2.2.2.2.2.2.2.2.2.1, frozen_on hb hHeld.2.2.2.2.2.2.2.2.2.2.1 hHeld.2.2.2.2.2.2.2.2.2.2.2.2.2.2.2.1, bel_on hHeld.2.2.2.2.2.2.2.2.2.2.2.2.2.2.2.2 hb⟩ (fun hHeld => ?_)
  clear hK K
  refine norm_ (a' := ?_) ?_ ?_
  rotate_left
  · show Act.put _ (some 22) _ = _
    simp only [Act.put, List.setIfInBounds_toArray, List.set_cons_zero, List.set_cons_succ, i64_w, i32_w]
    rfl
  refine pure_ (i := 20) (N := some 23) (v := ?_) (a' := ?_) #[true, true, true, true, true, true, true, true, true, true, true, true, true, true, true, true, true, true, true, true, true, false] rfl rfl (by kernel_rfl) (fun _ _ _ h => h) (Or.inl ⟨by rfl, ?_⟩) ?_ ?_
  rotate_left
  · intro w'
    go_simp
    with_reducible rfl
  rotate_left
  · simp only [Act.put, List.setIfInBounds_toArray, List.set_cons_zero, List.set_cons_succ, i64_w, i32_w]
    rfl
  refine last_ (i := 21) (N := none) #[true, true, true, true, true, true, true, true, true, true, true, true, true, true, true, true, true, true, true, true, true, true] rfl rfl (by kernel_rfl) (by decide) (fun K hK => ?_)
  refine skip_ (w1 := ?_) (by rfl) rfl ?_ ?_
  rotate_left
  · go_simp
    rfl
  refine hK.out _ _ ?_
  clear hK K
  refine done_ (by kernel_rfl) ?_
  obtain ⟨f0, f1, f2, f3, f4, f5, f6, f7, f8, f9, f10, f11, f12, f13, f14, f15, hh⟩ := hHeld
  go_wp2_with fail
  clear HB
  refine bodyPost_ret (v := .agg #[.int .u64 a, .int .u64 b, .int .u64 c, .string s, .string m]) ?hr rfl ⟨rfl, ?hb⟩
  case hr =>
    clear f0 f1 f2 f3 f4 f5 f11 f12 f13 f14 f15
    refine put5 _ _ _ _ _ _ _ ?u0 ?u1 ?u2 ?u3 ?u4 ?h0 ?h1 ?h2 ?h3 ?h4 _ ?hfn _ ?ht
    case hfn => exact Tryd.results68
    case u0 => exact .int .u64 0
    case u1 => exact .int .u64 0
    case u2 => exact .int .u64 0
    case u3 => exact .string ⟨#[]⟩
    case u4 => exact .string ⟨#[]⟩
    case h0 => exact f6
    case h1 => exact f7
    case h2 => exact f8
    case h3 => exact f9
    case h4 => exact f10
    case ht => rfl
  case hb =>
    repeat (refine Below.setCell ?_ (show w.heap.size ≤ w.heap.size by omega) _)
    exact hh.out.bel

abbrev Tgt (w : World) (W : World) : Prop := W.cell? ⟨w.heap.size + 1, 0, none⟩ = some (.int .u64 0) ∧ W.cell? ⟨w.heap.size + 1, 1, none⟩ = some (.int .u64 0) ∧ W.cell? ⟨w.heap.size + 1, 2, none⟩ = some (.int .u64 0) ∧ W.cell? ⟨w.heap.size + 1, 3, none⟩ = some (.string ⟨#[]⟩) ∧ W.cell? ⟨w.heap.size + 1, 4, none⟩ = some (.string ⟨#[]⟩) ∧ W.frozen? ⟨w.heap.size + 1, 0, none⟩ = false ∧ W.frozen? ⟨w.heap.size + 1, 1, none⟩ = false ∧ W.frozen? ⟨w.heap.size + 1, 2, none⟩ = false ∧ W.frozen? ⟨w.heap.size + 1, 3, none⟩ = false ∧ W.frozen? ⟨w.heap.size + 1, 4, none⟩ = false ∧ Hid (Bel w W)
theorem tgt_on {w W W' : World} (hb : Below W.heap.size W W') (h : Tgt w W) : Tgt w W' := by
  obtain ⟨t0, t1, t2, t3, t4, t5, t6, t7, t8, t9, hh⟩ := h
  exact ⟨cell_on hb t0, cell_on hb t1, cell_on hb t2, cell_on hb t3, cell_on hb t4, frozen_on hb t0 t5, frozen_on hb t1 t6, frozen_on hb t2 t7, frozen_on hb t3 t8, frozen_on hb t4 t9, bel_on hh hb⟩
theorem tgt_start (w : World) (cs cs1 cs2 : Array Value) (t : TypeId) : Tgt w ((((w.alloc (.cells cs t)).alloc (.cells #[.int .u64 0, .int .u64 0, .int .u64 0, .string ⟨#[]⟩, .string ⟨#[]⟩] 24)).alloc (.cells cs1 24)).alloc (.cells cs2 70)) := by
  refine ⟨?_, ?_, ?_, ?_, ?_, ?_, ?_, ?_, ?_, ?_, Lib.hid ⟨by repeat (first | exact Below.refl _ _ | apply bl_alloc)⟩⟩
  all_goals go_simp
theorem tgt_more {w W : World} (h : Tgt w W) (o : Obj) : Tgt w (W.alloc o) := tgt_on (bl_alloc (Below.refl _ _) _) h

set_option maxHeartbeats 4000000 in
set_option maxRecDepth 100000 in
theorem VPatch_rel (a b c : Int) (s m : ByteArray) (ha : U64 a) (hb : U64 b) (hc : 0 ≤ c ∧ c < 18446744073709551615) (g : s.toList = []) (w : World) (hG : GlobT w) :
    Calls Tryd.prog 20 #[.agg #[.int .u64 a, .int .u64 b, .int .u64 c, .string s, .string m]] w fun e w' => e = .returned (.agg #[.int .u64 a, .int .u64 b, .int .u64 (c + 1), .string ⟨#[]⟩, .string ⟨#[]⟩]) ∧ Below w.heap.size w w' := by
  have HG := Lib.hid hG
  have HH := Lib.hid (And.intro ha (And.intro hb (And.intro hc g)))
  clear ha hb hc g hG
  go_enter Tryd.func20, Tryd.ntmps20
  go_wp2_with (first
    | (go_at_call 66; refine (version_any _ _ _ _ _ _).mono ?_; rintro e w' ⟨rfl, rfl⟩)
    | (go_at_call 67; refine (IncPatch_rel a b c s m HH.out.1 HH.out.2.1 HH.out.2.2.1 HH.out.2.2.2 _ (globT_below HG.out (by repeat (first | exact Below.refl _ _ | apply bl_alloc)))).mono ?_; rintro e w3 ⟨o, rfl, hb⟩; obtain ⟨t0, t1, t2, t3, t4, t5, t6, t7, t8, t9, hh⟩ := tgt_on hb (tgt_start w _ _ _ _); clear hb)
    | (go_at_call 68; refine (plain_any w3.heap.size a b (c + 1) ⟨#[]⟩ ⟨#[]⟩ o _ (by unfold IsVer; go_simp)).mono ?_; rintro e w4 ⟨rfl, hb⟩; have HT := Lib.hid (tgt_on hb (tgt_more ⟨t0, t1, t2, t3, t4, t5, t6, t7, t8, t9, hh⟩ _)); clear hb t0 t1 t2 t3 t4 t5 t6 t7 t8 t9 hh; obtain ⟨t0, t1, t2, t3, t4, t5, t6, t7, t8, t9, hh⟩ := HT.out))
  refine bodyPost_ret (v := .agg #[.int .u64 a, .int .u64 b, .int .u64 (c + 1), .string ⟨#[]⟩, .string ⟨#[]⟩]) ?hr rfl ⟨rfl, ?hb⟩
  case hr =>
    clear t5 t6 t7 t8 t9
    refine put5 _ _ _ _ _ _ _ ?u0 ?u1 ?u2 ?u3 ?u4 ?h0 ?h1 ?h2 ?h3 ?h4 _ ?hfn _ ?ht
    case hfn => exact Tryd.results20
    case u0 => exact .int .u64 0
    case u1 => exact .int .u64 0
    case u2 => exact .int .u64 0
    case u3 => exact .string ⟨#[]⟩
    case u4 => exact .string ⟨#[]⟩
    case h0 => exact t0
    case h1 => exact t1
    case h2 => exact t2
    case h3 => exact t3
    case h4 => exact t4
    case ht => rfl
  case hb =>
    repeat (refine Below.setCell ?_ (show w.heap.size ≤ w.heap.size + 1 by omega) _)
    exact hh.out.bel

set_option maxHeartbeats 4000000 in
set_option maxRecDepth 100000 in
theorem VPatch_pre (a b c : Int) (s m : ByteArray) (ha : U64 a) (hb : U64 b) (hc : U64 c) (g : ¬ s.toList = []) (w : World) (hG : GlobT w) :
    Calls Tryd.prog 20 #[.agg #[.int .u64 a, .int .u64 b, .int .u64 c, .string s, .string m]] w fun e w' => e = .returned (.agg #[.int .u64 a, .int .u64 b, .int .u64 c, .string ⟨#[]⟩, .string ⟨#[]⟩]) ∧ Below w.heap.size w w' := by
  have HG := Lib.hid hG
  have HH := Lib.hid (And.intro ha (And.intro hb (And.intro hc g)))
  clear ha hb hc g hG
  go_enter Tryd.func20, Tryd.ntmps20
  go_wp2_with (first
    | (go_at_call 66; refine (version_any _ _ _ _ _ _).mono ?_; rintro e w' ⟨rfl, rfl⟩)
    | (go_at_call 67; refine (IncPatch_pre a b c s m HH.out.1 HH.out.2.1 HH.out.2.2.1 HH.out.2.2.2 _ (globT_below HG.out (by repeat (first | exact Below.refl _ _ | apply bl_alloc)))).mono ?_; rintro e w3 ⟨o, rfl, hb⟩; obtain ⟨t0, t1, t2, t3, t4, t5, t6, t7, t8, t9, hh⟩ := tgt_on hb (tgt_start w _ _ _ _); clear hb)
    | (go_at_call 68; refine (plain_any w3.heap.size a b c ⟨#[]⟩ ⟨#[]⟩ o _ (by unfold IsVer; go_simp)).mono ?_; rintro e w4 ⟨rfl, hb⟩; have HT := Lib.hid (tgt_on hb (tgt_more ⟨t0, t1, t2, t3, t4, t5, t6, t7, t8, t9, hh⟩ _)); clear hb t0 t1 t2 t3 t4 t5 t6 t7 t8 t9 hh; obtain ⟨t0, t1, t2, t3, t4, t5, t6, t7, t8, t9, hh⟩ := HT.out))
  refine bodyPost_ret (v := .agg #[.int .u64 a, .int .u64 b, .int .u64 c, .string ⟨#[]⟩, .string ⟨#[]⟩]) ?hr rfl ⟨rfl, ?hb⟩
  case hr =>
    clear t5 t6 t7 t8 t9
    refine put5 _ _ _ _ _ _ _ ?u0 ?u1 ?u2 ?u3 ?u4 ?h0 ?h1 ?h2 ?h3 ?h4 _ ?hfn _ ?ht
    case hfn => exact Tryd.results20
    case u0 => exact .int .u64 0
    case u1 => exact .int .u64 0
    case u2 => exact .int .u64 0
    case u3 => exact .string ⟨#[]⟩
    case u4 => exact .string ⟨#[]⟩
    case h0 => exact t0
    case h1 => exact t1
    case h2 => exact t2
    case h3 => exact t3
    case h4 => exact t4
    case ht => rfl
  case hb =>
    repeat (refine Below.setCell ?_ (show w.heap.size ≤ w.heap.size + 1 by omega) _)
    exact hh.out.bel

set_option maxHeartbeats 4000000 in
set_option maxRecDepth 100000 in
theorem VMinor_any (a b c : Int) (s m : ByteArray) (ha : U64 a) (hb : 0 ≤ b ∧ b < 18446744073709551615) (w : World) (hG : GlobT w) :
    Calls Tryd.prog 87 #[.agg #[.int .u64 a, .int .u64 b, .int .u64 c, .string s, .string m]] w fun e w' => e = .returned (.agg #[.int .u64 a, .int .u64 (b + 1), .int .u64 0, .string ⟨#[]⟩, .string ⟨#[]⟩]) ∧ Below w.heap.size w w' := by
  have HG := Lib.hid hG
  have HH := Lib.hid (And.intro ha hb)
  clear ha hb hG
  go_enter Tryd.func87, Tryd.ntmps87
  go_wp2_with (first
    | (go_at_call 66; refine (version_any _ _ _ _ _ _).mono ?_; rintro e w' ⟨rfl, rfl⟩)
    | (go_at_call 127; refine (IncMinor_any a b c s m HH.out.1 HH.out.2 _ (globT_below HG.out (by repeat (first | exact Below.refl _ _ | apply bl_alloc)))).mono ?_; rintro e w3 ⟨o, rfl, hb⟩; obtain ⟨t0, t1, t2, t3, t4, t5, t6, t7, t8, t9, hh⟩ := tgt_on hb (tgt_start w _ _ _ _); clear hb)
    | (go_at_call 68; refine (plain_any w3.heap.size a (b + 1) 0 ⟨#[]⟩ ⟨#[]⟩ o _ (by unfold IsVer; go_simp)).mono ?_; rintro e w4 ⟨rfl, hb⟩; have HT := Lib.hid (tgt_on hb (tgt_more ⟨t0, t1, t2, t3, t4, t5, t6, t7, t8, t9, hh⟩ _)); clear hb t0 t1 t2 t3 t4 t5 t6 t7 t8 t9 hh; obtain ⟨t0, t1, t2, t3, t4, t5, t6, t7, t8, t9, hh⟩ := HT.out))
  refine bodyPost_ret (v := .agg #[.int .u64 a, .int .u64 (b + 1), .int .u64 0, .string ⟨#[]⟩, .string ⟨#[]⟩]) ?hr rfl ⟨rfl, ?hb⟩
  case hr =>
    clear t5 t6 t7 t8 t9
    refine put5 _ _ _ _ _ _ _ ?u0 ?u1 ?u2 ?u3 ?u4 ?h0 ?h1 ?h2 ?h3 ?h4 _ ?hfn _ ?ht
    case hfn => exact Tryd.results87
    case u0 => exact .int .u64 0
    case u1 => exact .int .u64 0
    case u2 => exact .int .u64 0
    case u3 => exact .string ⟨#[]⟩
    case u4 => exact .string ⟨#[]⟩
    case h0 => exact t0
    case h1 => exact t1
    case h2 => exact t2
    case h3 => exact t3
    case h4 => exact t4
    case ht => rfl
  case hb =>
    repeat (refine Below.setCell ?_ (show w.heap.size ≤ w.heap.size + 1 by omega) _)
    exact hh.out.bel

set_option maxHeartbeats 4000000 in
set_option maxRecDepth 100000 in
theorem VMajor_any (a b c : Int) (s m : ByteArray) (ha : 0 ≤ a ∧ a < 18446744073709551615) (w : World) (hG : GlobT w) :
    Calls Tryd.prog 88 #[.agg #[.int .u64 a, .int .u64 b, .int .u64 c, .string s, .string m]] w fun e w' => e = .returned (.agg #[.int .u64 (a + 1), .int .u64 0, .int .u64 0, .string ⟨#[]⟩, .string ⟨#[]⟩]) ∧ Below w.heap.size w w' := by
  have HG := Lib.hid hG
  have HH := Lib.hid ha
  clear ha hG
  go_enter Tryd.func88, Tryd.ntmps88
  go_wp2_with (first
    | (go_at_call 66; refine (version_any _ _ _ _ _ _).mono ?_; rintro e w' ⟨rfl, rfl⟩)
    | (go_at_call 128; refine (IncMajor_any a b c s m HH.out _ (globT_below HG.out (by repeat (first | exact Below.refl _ _ | apply bl_alloc)))).mono ?_; rintro e w3 ⟨o, rfl, hb⟩; obtain ⟨t0, t1, t2, t3, t4, t5, t6, t7, t8, t9, hh⟩ := tgt_on hb (tgt_start w _ _ _ _); clear hb)
    | (go_at_call 68; refine (plain_any w3.heap.size (a + 1) 0 0 ⟨#[]⟩ ⟨#[]⟩ o _ (by unfold IsVer; go_simp)).mono ?_; rintro e w4 ⟨rfl, hb⟩; have HT := Lib.hid (tgt_on hb (tgt_more ⟨t0, t1, t2, t3, t4, t5, t6, t7, t8, t9, hh⟩ _)); clear hb t0 t1 t2 t3 t4 t5 t6 t7 t8 t9 hh; obtain ⟨t0, t1, t2, t3, t4, t5, t6, t7, t8, t9, hh⟩ := HT.out))
  refine bodyPost_ret (v := .agg #[.int .u64 (a + 1), .int .u64 0, .int .u64 0, .string ⟨#[]⟩, .string ⟨#[]⟩]) ?hr rfl ⟨rfl, ?hb⟩
  case hr =>
    clear t5 t6 t7 t8 t9
    refine put5 _ _ _ _ _ _ _ ?u0 ?u1 ?u2 ?u3 ?u4 ?h0 ?h1 ?h2 ?h3 ?h4 _ ?hfn _ ?ht
    case hfn => exact Tryd.results88
    case u0 => exact .int .u64 0
    case u1 => exact .int .u64 0
    case u2 => exact .int .u64 0
    case u3 => exact .string ⟨#[]⟩
    case u4 => exact .string ⟨#[]⟩
    case h0 => exact t0
    case h1 => exact t1
    case h2 => exact t2
    case h3 => exact t3
    case h4 => exact t4
    case ht => rfl
  case hb =>
    repeat (refine Below.setCell ?_ (show w.heap.size ≤ w.heap.size + 1 by omega) _)
    exact hh.out.bel

def impl_VersionIncPatch.f (a b c : Int) (s m : ByteArray) : Option (Int × Int × Int × ByteArray × ByteArray) := if (0 ≤ a ∧ a < 18446744073709551615) ∧ (0 ≤ b ∧ b < 18446744073709551615) ∧ (0 ≤ c ∧ c < 18446744073709551615) then some (a, b, if s.toList = [] then c + 1 else c, ⟨#[]⟩, ⟨#[]⟩) else none
theorem impl_VersionIncPatch.calls (a b c : Int) (s m : ByteArray) (r1 r2 r3 : Int) (r4 r5 : ByteArray) (w : World) (hGT : GlobT w) (h : impl_VersionIncPatch.f a b c s m = some (r1, r2, r3, r4, r5)) :
    Calls Tryd.prog 20 #[.agg #[.int .u64 a, .int .u64 b, .int .u64 c, .string s, .string m]] w fun e w' => e = .returned (.agg #[.int .u64 r1, .int .u64 r2, .int .u64 r3, .string r4, .string r5]) ∧ Below w.heap.size w w' := by
  unfold impl_VersionIncPatch.f at h
  by_cases hc : (0 ≤ a ∧ a < 18446744073709551615) ∧ (0 ≤ b ∧ b < 18446744073709551615) ∧ (0 ≤ c ∧ c < 18446744073709551615)
  · rw [if_pos hc] at h
    simp only [Option.some.injEq, Prod.mk.injEq] at h
    obtain ⟨rfl, rfl, rfl, rfl, rfl⟩ := h
    obtain ⟨⟨a0, a1⟩, ⟨b0, b1⟩, ⟨c0, c1⟩⟩ := hc
    by_cases g : s.toList = []
    · rw [if_pos g]; exact VPatch_rel a b c s m ⟨a0, by omega⟩ ⟨b0, by omega⟩ ⟨c0, c1⟩ g w hGT
    · rw [if_neg g]; exact VPatch_pre a b c s m ⟨a0, by omega⟩ ⟨b0, by omega⟩ ⟨c0, by omega⟩ g w hGT
  · rw [if_neg hc] at h; cases h

def impl_VersionIncMinor.f (a b c : Int) (s m : ByteArray) : Option (Int × Int × Int × ByteArray × ByteArray) := if (0 ≤ a ∧ a < 18446744073709551615) ∧ (0 ≤ b ∧ b < 18446744073709551615) then some (a, b + 1, 0, ⟨#[]⟩, ⟨#[]⟩) else none
theorem impl_VersionIncMinor.calls (a b c : Int) (s m : ByteArray) (r1 r2 r3 : Int) (r4 r5 : ByteArray) (w : World) (hGT : GlobT w) (h : impl_VersionIncMinor.f a b c s m = some (r1, r2, r3, r4, r5)) :
    Calls Tryd.prog 87 #[.agg #[.int .u64 a, .int .u64 b, .int .u64 c, .string s, .string m]] w fun e w' => e = .returned (.agg #[.int .u64 r1, .int .u64 r2, .int .u64 r3, .string r4, .string r5]) ∧ Below w.heap.size w w' := by
  unfold impl_VersionIncMinor.f at h
  by_cases hc : (0 ≤ a ∧ a < 18446744073709551615) ∧ (0 ≤ b ∧ b < 18446744073709551615)
  · rw [if_pos hc] at h
    simp only [Option.some.injEq, Prod.mk.injEq] at h
    obtain ⟨rfl, rfl, rfl, rfl, rfl⟩ := h
    exact VMinor_any a b c s m ⟨hc.1.1, by have := hc.1.2; omega⟩ hc.2 w hGT
  · rw [if_neg hc] at h; cases h

def impl_VersionIncMajor.f (a b c : Int) (s m : ByteArray) : Option (Int × Int × Int × ByteArray × ByteArray) := if 0 ≤ a ∧ a < 18446744073709551615 then some (a + 1, 0, 0, ⟨#[]⟩, ⟨#[]⟩) else none
theorem impl_VersionIncMajor.calls (a b c : Int) (s m : ByteArray) (r1 r2 r3 : Int) (r4 r5 : ByteArray) (w : World) (hGT : GlobT w) (h : impl_VersionIncMajor.f a b c s m = some (r1, r2, r3, r4, r5)) :
    Calls Tryd.prog 88 #[.agg #[.int .u64 a, .int .u64 b, .int .u64 c, .string s, .string m]] w fun e w' => e = .returned (.agg #[.int .u64 r1, .int .u64 r2, .int .u64 r3, .string r4, .string r5]) ∧ Below w.heap.size w w' := by
  unfold impl_VersionIncMajor.f at h
  by_cases hc : 0 ≤ a ∧ a < 18446744073709551615
  · rw [if_pos hc] at h
    simp only [Option.some.injEq, Prod.mk.injEq] at h
    obtain ⟨rfl, rfl, rfl, rfl, rfl⟩ := h
    exact VMajor_any a b c s m hc w hGT
  · rw [if_neg hc] at h; cases h
end Go.Proofs.YtlooelfkkbgmhaaDoor
