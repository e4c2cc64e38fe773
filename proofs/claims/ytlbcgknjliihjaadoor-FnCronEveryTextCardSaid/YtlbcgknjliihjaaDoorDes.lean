/-
  "@every " and a duration: what parseDescriptor, plainSchedule and CronDescriptor give.
-/
import Derived.Test.YtlbcgknjliihjaaDoorWri
set_option linter.unusedVariables false
set_option linter.unusedSimpArgs false
namespace Go.Proofs.YtlbcgknjliihjaaDoor
open Go Go.RowKit Go.Proofs.YtlbcgknjliihjaaDoorW.PrintWords Go.Proofs.YtlbcgknjliihjaaDoorW.PrintLast Go.Proofs.YtlbcgknjliihjaaDoor.QK
abbrev everyL : List UInt8 := [64, 101, 118, 101, 114, 121, 32]
/-- the delay of a schedule of a constant delay -/
def delayV (d : Int) : Int := if d < 1000000000 then 1000000000 else d - Int.tmod d 1000000000
theorem not_every (s s1 : ByteArray) (hL : L s = everyL ++ L s1) (l : List UInt8) (hl : l.take 2 ≠ [64, 101]) : (s.toList == l) = false := by
  rw [toList_L]
  refine beq_eq_false_iff_ne.2 (fun h => hl ?_)
  rw [← h, hL]
  rfl
theorem every29 (d : Int) (h0 : -9223372036854775808 ≤ d) (h1 : d ≤ 9223372036854775807) : cron_Every.f d = some (delayV d) := by
  unfold cron_Every.f delayV gotime_Duration_Nanoseconds.f
  by_cases h : d < 1000000000
  · rw [if_pos h, if_pos h]
    show some (wrap64 _) = _
    congr 1
    decide +kernel
  · rw [if_neg h, if_neg h]
    show some (wrap64 _) = _
    have h2 := Int.tmod_nonneg 1000000000 (show 0 ≤ d by omega)
    have h3 := Int.tmod_lt_of_pos d (show (0 : Int) < 1000000000 by omega)
    congr 1
    unfold wrap64
    omega
theorem pre26 (s s1 : ByteArray) (hL : L s = everyL ++ L s1) : strings_HasPrefix.f s ⟨#[64, 101, 118, 101, 114, 121, 32]⟩ = some true := by
  have hz : s.size = 7 + s1.size := by
    have h := congrArg List.length hL
    rw [L_len, List.length_append, L_len] at h
    exact h
  unfold strings_HasPrefix.f stringslite_HasPrefix.f
  rw [show ((⟨#[64, 101, 118, 101, 114, 121, 32]⟩ : ByteArray).size : Int) = 7 from rfl, if_pos (by omega), if_pos (by omega), if_pos (by omega), show ((7 : Int)).toNat = 7 from rfl]
  rw [ext_mk, hL, toList_L, L_mk, toList_L]
  rfl
set_option maxHeartbeats 8000000 in
set_option maxRecDepth 100000 in
theorem desc15 (s s1 : ByteArray) (D : Int) (hL : L s = everyL ++ L s1) (h0 : -9223372036854775808 ≤ D) (h1 : D ≤ 9223372036854775807) (hp : ∀ w, Calls Tryd.prog 27 #[.string s1] w fun e w' => e = .returned (.tuple #[.int .i64 D, .nilIface]) ∧ Below w.heap.size w w') (w : World) :
    Calls Tryd.prog 15 #[.string s, .pointer none] w fun e w' => e = .returned (.tuple #[.iface 50 (.agg #[.int .i64 (delayV D)]), .nilIface]) ∧ Below w.heap.size w w' := by
  have q0 : (s.toList == [64, 121, 101, 97, 114, 108, 121]) = false := not_every s s1 hL _ (by decide)
  have q1 : (s.toList == [64, 97, 110, 110, 117, 97, 108, 108, 121]) = false := not_every s s1 hL _ (by decide)
  have q2 : (s.toList == [64, 109, 111, 110, 116, 104, 108, 121]) = false := not_every s s1 hL _ (by decide)
  have q3 : (s.toList == [64, 119, 101, 101, 107, 108, 121]) = false := not_every s s1 hL _ (by decide)
  have q4 : (s.toList == [64, 100, 97, 105, 108, 121]) = false := not_every s s1 hL _ (by decide)
  have q5 : (s.toList == [64, 109, 105, 100, 110, 105, 103, 104, 116]) = false := not_every s s1 hL _ (by decide)
  have q6 : (s.toList == [64, 104, 111, 117, 114, 108, 121]) = false := not_every s s1 hL _ (by decide)
  have HP := Aside0.mk hp
  have HE := Aside0.mk (every29 D h0 h1)
  have HPR := Aside0.mk (pre26 s s1 hL)
  have hsl : s.extract 7 s.size = s1 := L_ext (by rw [ext_mk, L_mk, hL]; show List.take _ (L s1) = _; rw [List.take_of_length_le (by have h := congrArg List.length hL; rw [L_len, List.length_append, L_len] at h; have h7 : everyL.length = 7 := rfl; rw [L_len]; omega)])
  have p7 : (7 ≤ s.size) = True := eq_true (by have h := congrArg List.length hL; rw [L_len, List.length_append, L_len] at h; have : everyL.length = 7 := rfl; omega)
  have p8 : (7 ≤ (s.size : Int)) = True := eq_true (by have h := of_eq_true p7; omega)
  clear hL h0 h1 hp
  go_enter Tryd.func15, Tryd.ntmps15
  go_wp2_with (first
    | (go_at_call 26; (with_reducible refine (strings_HasPrefix.calls s _ true _ HPR.out).mono ?_); rintro e w1 ⟨rfl, hd⟩; have HB0 := Aside0.mk hd.below; clear hd)
    | (go_at_call 27; (with_reducible refine (HP.out _).mono ?_); rintro e w2 ⟨rfl, hb⟩; have HB := Aside0.mk (bl_on HB0.out hb); clear hb)
    | (go_at_call 29; (with_reducible refine (cron_Every.calls D _ _ HE.out).mono ?_); rintro e w3 ⟨rfl, hb⟩; have HB3 := Aside0.mk (bl_on HB.out hb); clear hb)
    | go_in)
  go_ret2
  exact ⟨rfl, HB3.out⟩
set_option maxHeartbeats 8000000 in
set_option maxRecDepth 100000 in
theorem desc12 (s : ByteArray) (D : Int) (h : ∀ w, Calls Tryd.prog 15 #[.string s, .pointer none] w fun e w' => e = .returned (.tuple #[.iface 50 (.agg #[.int .i64 (delayV D)]), .nilIface]) ∧ Below w.heap.size w w') (w : World) :
    Calls Tryd.prog 12 #[.string s] w fun e w' => e = .returned (.tuple #[.iface 50 (.agg #[.int .i64 (delayV D)]), .nilIface]) ∧ Below w.heap.size w w' := by
  have H := Aside0.mk h
  clear h
  go_enter Tryd.func12, Tryd.ntmps12
  go_wp2_with (go_at_call 15; (with_reducible refine (H.out _).mono ?_); rintro e w2 ⟨rfl, hb⟩; have HB := Aside0.mk hb; clear hb)
  go_ret2
  exact ⟨rfl, HB.out⟩
set_option maxHeartbeats 8000000 in
set_option maxRecDepth 100000 in
theorem plain11 (v : Int) (w : World) :
    Calls Tryd.prog 11 #[.iface 50 (.agg #[.int .i64 v]), .nilIface] w fun e w' => e = .returned (.tuple #[.agg #[.bool true, .int .i64 v, .int .u64 0, .int .u64 0, .int .u64 0, .int .u64 0, .int .u64 0, .int .u64 0], .bool true]) ∧ Below w.heap.size w w' := by
  have hA : ∀ w : World, (Instr.typeAssert (.iface 50 (.agg #[.int .i64 v])) 39 44 true).run Tryd.prog w = .ok (.tuple #[.pointer none, .bool false]) w := fun _ => by kernel_rfl
  have hB : ∀ w : World, (Instr.typeAssert (.iface 50 (.agg #[.int .i64 v])) 39 50 true).run Tryd.prog w = .ok (.tuple #[.agg #[.int .i64 v], .bool true]) w := fun _ => by kernel_rfl
  go_enter Tryd.func11, Tryd.ntmps11
  go_wp2
  refine bodyPost_ret (v := .tuple #[.agg #[.bool true, .int .i64 v, .int .u64 0, .int .u64 0, .int .u64 0, .int .u64 0, .int .u64 0, .int .u64 0], .bool true]) (by simp [results, Tryd.results11, go_sem]) rfl ⟨rfl, bl_alloc (bl_alloc (Below.refl _ _) _) _⟩
theorem frozenOf {w : World} {g : Nat} {t : TypeId} {cs : Array Value} (h : w.heap[g]? = some (.cells cs t (0, 0))) (i : Nat) : w.frozen? ⟨g, i, none⟩ = false := by
  unfold World.frozen?
  rw [h]
  simp
/-- the room of a result: a schedule -/
def FZ (w : World) (r : Nat) (W : World) : Prop := W.heap[r]? = some (.cells #[.bool false, .int .i64 0, .int .u64 0, .int .u64 0, .int .u64 0, .int .u64 0, .int .u64 0, .int .u64 0] 28 (0, 0)) ∧ w.heap.size ≤ r ∧ Below w.heap.size w W
theorem fz_start (w : World) : FZ w w.heap.size (w.alloc (.cells #[.bool false, .int .i64 0, .int .u64 0, .int .u64 0, .int .u64 0, .int .u64 0, .int .u64 0, .int .u64 0] 28)) := ⟨heap_new0 w _ _ rfl, Nat.le_refl _, bl_alloc (Below.refl _ _) _⟩
theorem fz_on {w : World} {r : Nat} {W W' : World} (h : FZ w r W) (hb : Below W.heap.size W W') : FZ w r W' := ⟨heap_on hb h.1, h.2.1, bl_on h.2.2 hb⟩
theorem fz_facts {w : World} {r : Nat} {W : World} (h : FZ w r W) : W.cell? ⟨r, 0, none⟩ = some (.bool false) ∧ W.cell? ⟨r, 1, none⟩ = some (.int .i64 0) ∧ W.cell? ⟨r, 2, none⟩ = some (.int .u64 0) ∧ W.cell? ⟨r, 3, none⟩ = some (.int .u64 0) ∧ W.cell? ⟨r, 4, none⟩ = some (.int .u64 0) ∧ W.cell? ⟨r, 5, none⟩ = some (.int .u64 0) ∧ W.cell? ⟨r, 6, none⟩ = some (.int .u64 0) ∧ W.cell? ⟨r, 7, none⟩ = some (.int .u64 0) ∧ W.frozen? ⟨r, 0, none⟩ = false ∧ W.frozen? ⟨r, 1, none⟩ = false ∧ W.frozen? ⟨r, 2, none⟩ = false ∧ W.frozen? ⟨r, 3, none⟩ = false ∧ W.frozen? ⟨r, 4, none⟩ = false ∧ W.frozen? ⟨r, 5, none⟩ = false ∧ W.frozen? ⟨r, 6, none⟩ = false ∧ W.frozen? ⟨r, 7, none⟩ = false :=
  ⟨cellsOf h.1 0, cellsOf h.1 1, cellsOf h.1 2, cellsOf h.1 3, cellsOf h.1 4, cellsOf h.1 5, cellsOf h.1 6, cellsOf h.1 7, frozenOf h.1 _, frozenOf h.1 _, frozenOf h.1 _, frozenOf h.1 _, frozenOf h.1 _, frozenOf h.1 _, frozenOf h.1 _, frozenOf h.1 _⟩
theorem fz_set {w : World} {r : Nat} {W : World} (h : FZ w r W) (a b c d e f g h' : Value) : Below w.heap.size w ((((((((W.setCell ⟨r, 0, none⟩ a).setCell ⟨r, 1, none⟩ b).setCell ⟨r, 2, none⟩ c).setCell ⟨r, 3, none⟩ d).setCell ⟨r, 4, none⟩ e).setCell ⟨r, 5, none⟩ f).setCell ⟨r, 6, none⟩ g).setCell ⟨r, 7, none⟩ h') :=
  bl_set (bl_set (bl_set (bl_set (bl_set (bl_set (bl_set (bl_set h.2.2 h.2.1 _) h.2.1 _) h.2.1 _) h.2.1 _) h.2.1 _) h.2.1 _) h.2.1 _) h.2.1 _
set_option maxHeartbeats 8000000 in
set_option maxRecDepth 100000 in
theorem desc6 (s : ByteArray) (D : Int) (h : ∀ w, Calls Tryd.prog 12 #[.string s] w fun e w' => e = .returned (.tuple #[.iface 50 (.agg #[.int .i64 (delayV D)]), .nilIface]) ∧ Below w.heap.size w w') (w : World) :
    Calls Tryd.prog 6 #[.string s] w fun e w' => e = .returned (.tuple #[.agg #[.bool true, .int .i64 (delayV D), .int .u64 0, .int .u64 0, .int .u64 0, .int .u64 0, .int .u64 0, .int .u64 0], .bool true]) ∧ Below w.heap.size w w' := by
  have HF := Aside0.mk (fz_start w)
  have H := Aside0.mk h
  clear h
  go_enter Tryd.func6, Tryd.ntmps6
  go_wp2_with (first
    | (go_at_call 12; (with_reducible refine (H.out _).mono ?_); rintro e w2 ⟨rfl, hb⟩; have HF2 := Aside0.mk (fz_on HF.out hb); clear hb)
    | (go_at_call 11; (with_reducible refine (plain11 (delayV D) _).mono ?_); rintro e w3 ⟨rfl, hb⟩; have HF3 := Aside0.mk (fz_on HF2.out hb); obtain ⟨z0, z1, z2, z3, z4, z5, z6, z7, f0, f1, f2, f3, f4, f5, f6, f7⟩ := fz_facts HF3.out; clear hb)
    | go_in)
  refine bodyPost_ret (v := .tuple #[.agg #[.bool true, .int .i64 (delayV D), .int .u64 0, .int .u64 0, .int .u64 0, .int .u64 0, .int .u64 0, .int .u64 0], .bool true]) (by simp [results, Tryd.results6, go_sem, z0, z1, z2, z3, z4, z5, z6, z7, f0, f1, f2, f3, f4, f5, f6, f7]) rfl ⟨rfl, fz_set HF3.out _ _ _ _ _ _ _ _⟩
/-- a schedule of a constant delay, as plain data -/
def schedV (d : Int) : Value := .agg #[.bool true, .int .i64 d, .int .u64 0, .int .u64 0, .int .u64 0, .int .u64 0, .int .u64 0, .int .u64 0]
/-- "@every " and a row of numbers with units -/
theorem descriptor6 (s : ByteArray) (items : List (Nat × Nat)) (hL : L s = everyL ++ textL items) (hne : items ≠ []) (hI : ∀ p ∈ items, p.1 ≤ 1125899906842624) (hD9 : durN items ≤ 9000000000000000000) (hz : s.size ≤ 100000) (w : World) :
    Calls Tryd.prog 6 #[.string s] w fun e w' => e = .returned (.tuple #[schedV (delayV (durN items)), .bool true]) ∧ Below w.heap.size w w' := by
  have hz1 : (mkB (textL items)).size ≤ 100000 := by
    have h := congrArg List.length hL
    rw [L_len, List.length_append] at h
    rw [mk_size]
    omega
  have h0 := dur_nonneg items
  exact desc6 s _ (fun w => desc12 s _ (fun w => desc15 s (mkB (textL items)) _ hL (by omega) (by omega) (fun w => dur27_plain (mkB (textL items)) items _ rfl hne hI rfl hD9 hz1 w) w) w) w
end Go.Proofs.YtlbcgknjliihjaaDoor
