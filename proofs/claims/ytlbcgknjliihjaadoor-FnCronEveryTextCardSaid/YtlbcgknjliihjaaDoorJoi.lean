/-
  EveryJoined: the law's own walk.
-/
import Derived.Test.YtlbcgknjliihjaaDoorDes
import Derived.Laws.StructEq
set_option linter.unusedVariables false
set_option linter.unusedSimpArgs false
namespace Go.Proofs.YtlbcgknjliihjaaDoor
open Go Go.RowKit Go.Proofs.YtlbcgknjliihjaaDoorW.PrintWords Go.Proofs.YtlbcgknjliihjaaDoorW.PrintLast
def badB (x y z : Int) : Bool := decide (x < 0) || decide (262144 < x) || decide (y < 0) || decide (1048576 < y) || decide (z < 0) || decide (268435456 < z) || (x == 0 && y == 0 && z == 0)
def secs (x y z : Int) : Int := 3600 * x + 60 * y + z
theorem eq3 (a b : Int) (w : World) : (Op.equalIn 9999 3 (.int .i64 a) (.int .i64 b)).run Tryd.prog w = .ok (a == b) w := by
  rw [show (9999 : Nat) = 9998 + 1 from rfl, Op.equalIn]
  simp [run_underlying Tryd.underlying3]
theorem eq22 (a b c : Int) (w : World) : (Op.equalIn 10000 22 (.agg #[.int .i64 a, .int .i64 b, .int .i64 c]) (.agg #[.int .i64 0, .int .i64 0, .int .i64 0])).run Tryd.prog w = .ok (a == 0 && (b == 0 && c == 0)) w := by
  have hs : (sizeOf 3).run Tryd.prog w = .ok 1 w := by kernel_rfl
  have hp (x y z : Int) : (part 3 #[.int .i64 x, .int .i64 y, .int .i64 z] 0).run Tryd.prog w = .ok (.int .i64 x) w := by kernel_rfl
  have hp1 (x y z : Int) : (part 3 #[.int .i64 x, .int .i64 y, .int .i64 z] 1).run Tryd.prog w = .ok (.int .i64 y) w := by kernel_rfl
  have hp2 (x y z : Int) : (part 3 #[.int .i64 x, .int .i64 y, .int .i64 z] 2).run Tryd.prog w = .ok (.int .i64 z) w := by kernel_rfl
  rw [show (10000 : Nat) = 9999 + 1 from rfl, Op.equalIn]
  simp only [Sem.run_bind, run_underlying Tryd.underlying22, Result.andThen_ok, hs]
  rw [Std.Legacy.Range.forIn_eq_forIn_range']
  simp [List.range', Sem.run_bind, hp, hp1, hp2, eq3]
  cases h0 : (a == 0) <;> cases h1 : (b == 0) <;> cases h2 : (c == 0) <;> simp_all
/-- the numbers of one text -/
def nv (a b c : Int) : Nat → Nat
  | 0 => a.toNat | 1 => b.toNat | 2 => c.toNat | _ => 0
theorem text5i (c0 c1 c2 : Int) (t : ByteArray) (ht : t = mkB (textL (items (nv c0 c1 c2) 6))) (h : badB c0 c1 c2 = false) (hp : 0 ≤ c0 ∧ 0 ≤ c1 ∧ 0 ≤ c2 ∧ c0 ≤ 9223372036854775807 ∧ c1 ≤ 9223372036854775807 ∧ c2 ≤ 9223372036854775807) (w : World) (hG : GlobT w) :
    Calls Tryd.prog 5 #[.agg #[.int .i64 c0, .int .i64 c1, .int .i64 c2, .int .i64 0, .int .i64 0, .int .i64 0]] w fun e w' => e = .returned (.string t) ∧ Below w.heap.size w w' := by
  have hn : ∀ i, nv c0 c1 c2 i ≤ 9223372036854775807 := fun i => by
    match i with
    | 0 => show c0.toNat ≤ _; omega
    | 1 => show c1.toNat ≤ _; omega
    | 2 => show c2.toNat ≤ _; omega
    | _ + 3 => exact Nat.zero_le _
  have hc := text5 (nv c0 c1 c2) hn w hG
  rw [show ((nv c0 c1 c2 0 : Nat) : Int) = c0 from by show ((c0.toNat : Nat) : Int) = c0; omega, show ((nv c0 c1 c2 1 : Nat) : Int) = c1 from by show ((c1.toNat : Nat) : Int) = c1; omega, show ((nv c0 c1 c2 2 : Nat) : Int) = c2 from by show ((c2.toNat : Nat) : Int) = c2; omega] at hc
  rw [ht]
  exact hc
theorem nv_le {a b c : Int} (h : a ≤ 1125899906842624 ∧ b ≤ 1125899906842624 ∧ c ≤ 1125899906842624) : ∀ i, nv a b c i ≤ 1125899906842624 := fun i => by
  match i with
  | 0 => show a.toNat ≤ _; omega
  | 1 => show b.toNat ≤ _; omega
  | 2 => show c.toNat ≤ _; omega
  | _ + 3 => exact Nat.zero_le _
theorem dur_app : ∀ (l m : List (Nat × Nat)), durN (l ++ m) = durN l + durN m
  | [], m => by rw [List.nil_append, durN]; omega
  | p :: l, m => by rw [List.cons_append, durN, durN, dur_app l m]; omega
theorem items_durs (n : Nat → Nat) (k : Nat) : durN (items n (k + 1)) = durN (items n k) + (n k : Int) * unitV k := by
  rw [items]
  by_cases h : n k ≠ 0 ∨ (k = 5 ∧ items n k = [])
  · rw [if_pos h, dur_app]
    show durN (items n k) + ((n k : Int) * unitV k + 0) = _
    omega
  · rw [if_neg h]
    have h0 : n k = 0 := Decidable.not_not.1 (fun h1 => h (Or.inl h1))
    rw [h0]
    simp
theorem items_num (n : Nat → Nat) (M : Nat) (hn : ∀ i, n i ≤ M) : ∀ k, ∀ p ∈ items n k, p.1 ≤ M
  | 0 => fun p hp => by cases hp
  | k + 1 => fun p hp => by
    rw [items] at hp
    split at hp
    · rcases List.mem_append.1 hp with h | h
      · exact items_num n M hn k p h
      · rw [List.mem_singleton.1 h]; exact hn k
    · exact items_num n M hn k p hp
theorem items_len (n : Nat → Nat) (hn : ∀ i, n i ≤ 9223372036854775807) : ∀ k, (textL (items n k)).length ≤ 23 * k
  | 0 => Nat.le_refl _
  | k + 1 => by
    have ih := items_len n hn k
    rw [items]
    split
    · rw [text_app, List.length_append]
      have h1 : textL [(n k, k)] = Lib.decDigits (n k) ++ unitL k := by rw [text_cons]; show _ ++ (_ ++ []) = _; rw [List.append_nil]
      have h2 := dec_len (n k) (hn k)
      have h3 := unit_ne k
      rw [h1, List.length_append]
      omega
    · omega
theorem items_full (n : Nat → Nat) : items n 6 ≠ [] := by
  rw [items]
  by_cases h : n 5 ≠ 0 ∨ (5 = 5 ∧ items n 5 = [])
  · rw [if_pos h]; simp
  · rw [if_neg h]
    exact fun h1 => h (Or.inr ⟨rfl, h1⟩)
theorem nv_dur {a b c : Int} (h : 0 ≤ a ∧ 0 ≤ b ∧ 0 ≤ c) : durN (items (nv a b c) 6) = secs a b c * 1000000000 := by
  have h5 := items_durs (nv a b c) 5
  have h4 := items_durs (nv a b c) 4
  have h3 := items_durs (nv a b c) 3
  have h2 := items_durs (nv a b c) 2
  have h1 := items_durs (nv a b c) 1
  have h0 := items_durs (nv a b c) 0
  have e5 : ((nv a b c 5 : Nat) : Int) = 0 := rfl
  have e4 : ((nv a b c 4 : Nat) : Int) = 0 := rfl
  have e3 : ((nv a b c 3 : Nat) : Int) = 0 := rfl
  have e2 : ((nv a b c 2 : Nat) : Int) = c := by show ((c.toNat : Nat) : Int) = c; omega
  have e1 : ((nv a b c 1 : Nat) : Int) = b := by show ((b.toNat : Nat) : Int) = b; omega
  have e0 : ((nv a b c 0 : Nat) : Int) = a := by show ((a.toNat : Nat) : Int) = a; omega
  rw [e5] at h5; rw [e4] at h4; rw [e3] at h3; rw [e2] at h2; rw [e1] at h1; rw [e0] at h0
  have u2 : unitV 2 = 1000000000 := rfl
  have u1 : unitV 1 = 60000000000 := rfl
  have u0 : unitV 0 = 3600000000000 := rfl
  rw [u2] at h2; rw [u1] at h1; rw [u0] at h0
  have hz : durN (items (nv a b c) 0) = 0 := rfl
  rw [h5, h4, h3, h2, h1, h0, hz]
  unfold secs
  omega
theorem descI (s : ByteArray) (l : List (Nat × Nat)) (V : Int) (hL : L s = everyL ++ textL l) (hne : l ≠ []) (hI : ∀ p ∈ l, p.1 ≤ 1125899906842624) (m : Int) (hm : durN l = m * 1000000000) (hm1 : 1 ≤ m) (hm9 : m ≤ 9000000000) (hV : V = m * 1000000000) (hz : s.size ≤ 100000) (w : World) :
    Calls Tryd.prog 6 #[.string s] w fun e w' => e = .returned (.tuple #[.agg #[.bool true, .int .i64 V, .int .u64 0, .int .u64 0, .int .u64 0, .int .u64 0, .int .u64 0, .int .u64 0], .bool true]) ∧ Below w.heap.size w w' := by
  have h := descriptor6 s l hL hne hI (by omega) hz w
  have hd : delayV (durN l) = V := by
    unfold delayV
    rw [if_neg (by omega), hm, hV]
    have h1 : (m * 1000000000).tmod 1000000000 = 0 := Int.mul_tmod_left _ _
    rw [h1]
    omega
  rw [hd] at h
  exact h
/-- what is read of both arrays -/
abbrev LS (w : World) (a0 a1 a2 b0 b1 b2 : Int) (W : World) : Prop := W.cell? ⟨w.heap.size, 0, none⟩ = some (.int .i64 a0) ∧ W.cell? ⟨w.heap.size, 1, none⟩ = some (.int .i64 a1) ∧ W.cell? ⟨w.heap.size, 2, none⟩ = some (.int .i64 a2) ∧ W.cell? ⟨w.heap.size + 1, 0, none⟩ = some (.int .i64 b0) ∧ W.cell? ⟨w.heap.size + 1, 1, none⟩ = some (.int .i64 b1) ∧ W.cell? ⟨w.heap.size + 1, 2, none⟩ = some (.int .i64 b2) ∧ Hid (Below w.heap.size w W)
theorem ls_on {w : World} {a0 a1 a2 b0 b1 b2 : Int} {W W' : World} (hb : Below W.heap.size W W') (h : LS w a0 a1 a2 b0 b1 b2 W) : LS w a0 a1 a2 b0 b1 b2 W' :=
  ⟨cell_on hb h.1, cell_on hb h.2.1, cell_on hb h.2.2.1, cell_on hb h.2.2.2.1, cell_on hb h.2.2.2.2.1, cell_on hb h.2.2.2.2.2.1, Lib.hid (bl_on h.2.2.2.2.2.2.out hb)⟩
theorem ls_below {w : World} {a0 a1 a2 b0 b1 b2 : Int} {W : World} (h : LS w a0 a1 a2 b0 b1 b2 W) : Below w.heap.size w W := h.2.2.2.2.2.2.out
theorem bad_false {x y z : Int} (h : badB x y z = false) : 0 ≤ x ∧ x ≤ 262144 ∧ 0 ≤ y ∧ y ≤ 1048576 ∧ 0 ≤ z ∧ z ≤ 268435456 ∧ ¬ (x = 0 ∧ y = 0 ∧ z = 0) := by
  unfold badB at h
  simp only [Bool.or_eq_false_iff, decide_eq_false_iff_not, Bool.and_eq_false_iff, beq_eq_false_iff_ne] at h
  obtain ⟨⟨⟨⟨⟨⟨h0, h1⟩, h2⟩, h3⟩, h4⟩, h5⟩, h6⟩ := h
  exact ⟨by omega, by omega, by omega, by omega, by omega, by omega, by omega⟩
set_option maxHeartbeats 8000000 in
set_option maxRecDepth 100000 in
theorem joined3 (a0 a1 a2 b0 b1 b2 : Int) (w : World) (hG : GlobT w) :
    Calls Tryd.prog 3 #[.agg #[.int .i64 a0, .int .i64 a1, .int .i64 a2], .agg #[.int .i64 b0, .int .i64 b1, .int .i64 b2]] w fun e w' => e = .returned (.bool true) ∧ Below w.heap.size w w' := by
  have HG := Aside0.mk hG
  clear hG
  go_enter Tryd.func3, Tryd.ntmps3
  go_wp2
  go_loopg [5, 7, 19] 3 (fun g v5 v7 v19 w' => ∃ (x S : Int), v5 = .int .i64 S ∧ v19 = .int .i64 x ∧ Aside0 (0 ≤ x ∧ x ≤ 2 ∧ g + x = 3) ∧ Aside0 ((1 ≤ x → badB a0 a1 a2 = false) ∧ (2 ≤ x → badB b0 b1 b2 = false) ∧ S = (if 1 ≤ x then secs a0 a1 a2 else 0) + (if 2 ≤ x then secs b0 b1 b2 else 0)) ∧ Aside0 (w'.heap[w.heap.size]? = some (.cells #[.int .i64 a0, .int .i64 a1, .int .i64 a2] 22 (0, 0))) ∧ Aside0 (w'.heap[w.heap.size + 1]? = some (.cells #[.int .i64 b0, .int .i64 b1, .int .i64 b2] 22 (0, 0))) ∧ Aside0 (Below w.heap.size w w'))
  case atStart => exact ⟨0, 0, rfl, rfl, ⟨by omega, by omega, by omega⟩, ⟨fun h => absurd h (by decide), fun h => absurd h (by decide), rfl⟩, ⟨heap_on (bl_alloc (Below.refl _ _) _) (heap_new0 _ _ _ rfl)⟩, ⟨heap_new0 _ _ _ (by simp)⟩, ⟨bl_alloc (bl_alloc (Below.refl _ _) _) _⟩⟩
  case round =>
    obtain ⟨x, S, rfl, rfl, HX, HS, HA, HB, HW⟩ := hrel
    have hx2 : x = 0 ∨ x = 1 ∨ x = 2 := by have := HX.out; omega
    rcases hx2 with rfl | rfl | rfl
    · have hf : ∀ w : World, (Instr.index 23 (.agg #[.int .i64 a0, .int .i64 a1, .int .i64 a2, .int .i64 b0, .int .i64 b1, .int .i64 b2]) (.int .i64 0)).run Tryd.prog w = .ok (.agg #[.int .i64 a0, .int .i64 a1, .int .i64 a2]) w := fun _ => by kernel_rfl
      have he := eq22 a0 a1 a2
      cases c0 : decide (a0 < 0)
      case' true =>
        go_wp2
        refine bodyPost_ret (v := .bool true) (by simp [results, Tryd.results3, go_sem]) rfl ⟨rfl, bl_alloc HW.out _⟩
      cases c1 : decide (262144 < a0)
      case' true =>
        go_wp2
        refine bodyPost_ret (v := .bool true) (by simp [results, Tryd.results3, go_sem]) rfl ⟨rfl, bl_alloc HW.out _⟩
      cases c2 : decide (a1 < 0)
      case' true =>
        go_wp2
        refine bodyPost_ret (v := .bool true) (by simp [results, Tryd.results3, go_sem]) rfl ⟨rfl, bl_alloc HW.out _⟩
      cases c3 : decide (1048576 < a1)
      case' true =>
        go_wp2
        refine bodyPost_ret (v := .bool true) (by simp [results, Tryd.results3, go_sem]) rfl ⟨rfl, bl_alloc HW.out _⟩
      cases c4 : decide (a2 < 0)
      case' true =>
        go_wp2
        refine bodyPost_ret (v := .bool true) (by simp [results, Tryd.results3, go_sem]) rfl ⟨rfl, bl_alloc HW.out _⟩
      cases c5 : decide (268435456 < a2)
      case' true =>
        go_wp2
        refine bodyPost_ret (v := .bool true) (by simp [results, Tryd.results3, go_sem]) rfl ⟨rfl, bl_alloc HW.out _⟩
      cases c6 : (a0 == 0 && (a1 == 0 && a2 == 0))
      case' true =>
        go_wp2
        refine bodyPost_ret (v := .bool true) (by simp [results, Tryd.results3, go_sem]) rfl ⟨rfl, bl_alloc HW.out _⟩
      have HBD : Aside0 (badB a0 a1 a2 = false) := ⟨by unfold badB; rw [c0, c1, c2, c3, c4, c5, Bool.and_assoc, c6]; rfl⟩
      go_wp2
      go_roundg 2
      case measure => have h1 := HX.out; omega
      case rel =>
        refine ⟨1, _, rfl, rfl, ⟨by omega, by omega, by have h1 := HX.out; omega⟩, ⟨?_⟩, ⟨heap_on (bl_alloc (Below.refl _ _) _) HA.out⟩, ⟨heap_on (bl_alloc (Below.refl _ _) _) HB.out⟩, ⟨bl_alloc HW.out _⟩⟩
        have h1 := bad_false HBD.out
        have h2 := HS.out
        refine ⟨fun _ => HBD.out, fun h => absurd h (by decide), ?_⟩
        have h3 : S = 0 := h2.2.2
        show _ = secs a0 a1 a2 + 0
        unfold secs
        simp only [wrap64]
        omega
    · have hf : ∀ w : World, (Instr.index 23 (.agg #[.int .i64 a0, .int .i64 a1, .int .i64 a2, .int .i64 b0, .int .i64 b1, .int .i64 b2]) (.int .i64 1)).run Tryd.prog w = .ok (.agg #[.int .i64 b0, .int .i64 b1, .int .i64 b2]) w := fun _ => by kernel_rfl
      have he := eq22 b0 b1 b2
      cases c0 : decide (b0 < 0)
      case' true =>
        go_wp2
        refine bodyPost_ret (v := .bool true) (by simp [results, Tryd.results3, go_sem]) rfl ⟨rfl, bl_alloc HW.out _⟩
      cases c1 : decide (262144 < b0)
      case' true =>
        go_wp2
        refine bodyPost_ret (v := .bool true) (by simp [results, Tryd.results3, go_sem]) rfl ⟨rfl, bl_alloc HW.out _⟩
      cases c2 : decide (b1 < 0)
      case' true =>
        go_wp2
        refine bodyPost_ret (v := .bool true) (by simp [results, Tryd.results3, go_sem]) rfl ⟨rfl, bl_alloc HW.out _⟩
      cases c3 : decide (1048576 < b1)
      case' true =>
        go_wp2
        refine bodyPost_ret (v := .bool true) (by simp [results, Tryd.results3, go_sem]) rfl ⟨rfl, bl_alloc HW.out _⟩
      cases c4 : decide (b2 < 0)
      case' true =>
        go_wp2
        refine bodyPost_ret (v := .bool true) (by simp [results, Tryd.results3, go_sem]) rfl ⟨rfl, bl_alloc HW.out _⟩
      cases c5 : decide (268435456 < b2)
      case' true =>
        go_wp2
        refine bodyPost_ret (v := .bool true) (by simp [results, Tryd.results3, go_sem]) rfl ⟨rfl, bl_alloc HW.out _⟩
      cases c6 : (b0 == 0 && (b1 == 0 && b2 == 0))
      case' true =>
        go_wp2
        refine bodyPost_ret (v := .bool true) (by simp [results, Tryd.results3, go_sem]) rfl ⟨rfl, bl_alloc HW.out _⟩
      have HBD : Aside0 (badB b0 b1 b2 = false) := ⟨by unfold badB; rw [c0, c1, c2, c3, c4, c5, Bool.and_assoc, c6]; rfl⟩
      go_wp2
      go_roundg 1
      case measure => have h1 := HX.out; omega
      case rel =>
        refine ⟨2, _, rfl, rfl, ⟨by omega, by omega, by have h1 := HX.out; omega⟩, ⟨?_⟩, ⟨heap_on (bl_alloc (Below.refl _ _) _) HA.out⟩, ⟨heap_on (bl_alloc (Below.refl _ _) _) HB.out⟩, ⟨bl_alloc HW.out _⟩⟩
        have h1 := bad_false HBD.out
        have h2 := HS.out
        have ha := h2.1 (by decide)
        refine ⟨fun _ => ha, fun _ => HBD.out, ?_⟩
        have h4 := bad_false ha
        have h3 : S = secs a0 a1 a2 + 0 := h2.2.2
        show _ = secs a0 a1 a2 + secs b0 b1 b2
        unfold secs at h3 ⊢
        simp only [wrap64]
        omega
    · have hba := HS.out.1 (by decide)
      have hbb := HS.out.2.1 (by decide)
      have HSS : Aside0 (S = secs a0 a1 a2 + secs b0 b1 b2) := ⟨HS.out.2.2⟩
      have HBA := Aside0.mk hba
      have HBB := Aside0.mk hbb
      have ga := bad_false hba
      have gb := bad_false hbb
      have HPA : Aside0 (0 ≤ a0 ∧ 0 ≤ a1 ∧ 0 ≤ a2 ∧ a0 ≤ 9223372036854775807 ∧ a1 ≤ 9223372036854775807 ∧ a2 ≤ 9223372036854775807) := ⟨by omega⟩
      have HPB : Aside0 (0 ≤ b0 ∧ 0 ≤ b1 ∧ 0 ≤ b2 ∧ b0 ≤ 9223372036854775807 ∧ b1 ≤ 9223372036854775807 ∧ b2 ≤ 9223372036854775807) := ⟨by omega⟩
      obtain ⟨tA, HTA⟩ : ∃ t, Aside0 (t = mkB (textL (items (nv a0 a1 a2) 6))) := ⟨_, ⟨rfl⟩⟩
      obtain ⟨tB, HTB⟩ : ∃ t, Aside0 (t = mkB (textL (items (nv b0 b1 b2) 6))) := ⟨_, ⟨rfl⟩⟩
      have HF : Aside0 (LS w a0 a1 a2 b0 b1 b2 wr) := ⟨cellsOf HA.out 0, cellsOf HA.out 1, cellsOf HA.out 2, cellsOf HB.out 0, cellsOf HB.out 1, cellsOf HB.out 2, Lib.hid HW.out⟩
      clear hba hbb ga gb
      go_upto_region 9 with fail
      first | go_region_held3 (fun W => LS w a0 a1 a2 b0 b1 b2 W) (first | assumption | exact ls_on (bl_drew (Below.refl _ _)) HF.out | exact ls_on hb5 (by assumption) | fail) (first | (go_at_call 5; (with_reducible refine (text5i a0 a1 a2 tA HTA.out HBA.out HPA.out _ (globT_below HG.out (ls_below (by assumption)))).mono ?_); rintro e w5 ⟨rfl, hb5⟩) | (go_at_call 5; (with_reducible refine (text5i b0 b1 b2 tB HTB.out HBB.out HPB.out _ (globT_below HG.out (ls_below (by assumption)))).mono ?_); rintro e w5 ⟨rfl, hb5⟩)) | fail
      rename_i hH
      have HL9 := Aside0.mk (ls_below hH)
      clear hH
      have ga := bad_false HBA.out
      have gb := bad_false HBB.out
      have hda := nv_dur (a := a0) (b := a1) (c := a2) (by omega)
      have hdb := nv_dur (a := b0) (b := b1) (c := b2) (by omega)
      have hna : ∀ i, nv a0 a1 a2 i ≤ 1125899906842624 := nv_le (by omega)
      have hnb : ∀ i, nv b0 b1 b2 i ≤ 1125899906842624 := nv_le (by omega)
      have hia := items_num _ _ hna 6
      have hib := items_num _ _ hnb 6
      have hza : tA.size ≤ 138 := by rw [HTA.out, mk_size]; exact items_len _ (fun i => Nat.le_trans (hna i) (by decide)) 6
      have hzb : tB.size ≤ 138 := by rw [HTB.out, mk_size]; exact items_len _ (fun i => Nat.le_trans (hnb i) (by decide)) 6
      have hsa : 1 ≤ secs a0 a1 a2 ∧ secs a0 a1 a2 ≤ 4000000000 := by unfold secs; omega
      have hsb : 1 ≤ secs b0 b1 b2 ∧ secs b0 b1 b2 ≤ 4000000000 := by unfold secs; omega
      obtain ⟨VA, HVA⟩ : ∃ V, Aside0 (V = secs a0 a1 a2 * 1000000000) := ⟨_, ⟨rfl⟩⟩
      obtain ⟨VB, HVB⟩ : ∃ V, Aside0 (V = secs b0 b1 b2 * 1000000000) := ⟨_, ⟨rfl⟩⟩
      obtain ⟨VC, HVC⟩ : ∃ V, Aside0 (V = (secs a0 a1 a2 + secs b0 b1 b2) * 1000000000) := ⟨_, ⟨rfl⟩⟩
      have HCA := Aside0.mk (descI (⟨#[64, 101, 118, 101, 114, 121, 32]⟩ ++ tA) (items (nv a0 a1 a2) 6) VA (by rw [L_app, HTA.out]) (items_full _) hia _ hda hsa.1 (by omega) HVA.out (by rw [ByteArray.size_append]; show 7 + tA.size ≤ _; omega))
      have HCB := Aside0.mk (descI (⟨#[64, 101, 118, 101, 114, 121, 32]⟩ ++ tB) (items (nv b0 b1 b2) 6) VB (by rw [L_app, HTB.out]) (items_full _) hib _ hdb hsb.1 (by omega) HVB.out (by rw [ByteArray.size_append]; show 7 + tB.size ≤ _; omega))
      have HCC := Aside0.mk (descI (⟨#[64, 101, 118, 101, 114, 121, 32]⟩ ++ tA ++ tB) (items (nv a0 a1 a2) 6 ++ items (nv b0 b1 b2) 6) VC (by rw [L_app, L_app, HTA.out, HTB.out, text_app]; exact List.append_assoc _ _ _) (fun h => items_full _ (List.append_eq_nil_iff.1 h).1) (fun p hp => (List.mem_append.1 hp).elim (hia p) (hib p)) (secs a0 a1 a2 + secs b0 b1 b2) (by rw [dur_app, hda, hdb]; omega) (by omega) (by omega) HVC.out (by rw [ByteArray.size_append, ByteArray.size_append]; show 7 + tA.size + tB.size ≤ _; omega))
      have s1 : (9223372036854775807 < 7 + tA.size) = False := eq_false (by omega)
      have s2 : (9223372036854775807 < 7 + tB.size) = False := eq_false (by omega)
      have s3 : (9223372036854775807 < 7 + tA.size + tB.size) = False := eq_false (by omega)
      have e1 : (VC == wrap64 (VA + VB)) = true := beq_iff_eq.2 (by rw [HVA.out, HVB.out, HVC.out]; unfold wrap64; omega)
      have e2 : (VC == wrap64 (S * 1000000000)) = true := beq_iff_eq.2 (by rw [HSS.out, HVC.out]; unfold wrap64; omega)
      clear ga gb hda hdb hna hnb hia hib hza hzb hsa hsb
      go_wp2_with (first
        | (go_at_call 6; (with_reducible refine (HCA.out _).mono ?_); rintro e wA ⟨rfl, hb⟩; have HWA := Aside0.mk (bl_on HL9.out hb); clear hb)
        | (go_at_call 6; (with_reducible refine (HCB.out _).mono ?_); rintro e wB ⟨rfl, hb⟩; have HRA := Aside0.mk (heap_on hb (heap_new0 wA wA.heap.size (.cells #[.bool true, .int .i64 VA, .int .u64 0, .int .u64 0, .int .u64 0, .int .u64 0, .int .u64 0, .int .u64 0] 28) rfl)); have HWB := Aside0.mk (bl_on (bl_alloc HWA.out _) hb); clear hb)
        | (go_at_call 6; (with_reducible refine (HCC.out _).mono ?_); rintro e wC ⟨rfl, hb⟩; have HRB := Aside0.mk (heap_on hb (heap_new0 wB wB.heap.size (.cells #[.bool true, .int .i64 VB, .int .u64 0, .int .u64 0, .int .u64 0, .int .u64 0, .int .u64 0, .int .u64 0] 28) rfl)); have HRA2 := Aside0.mk (heap_on hb (heap_on (bl_alloc (Below.refl wB.heap.size wB) _) HRA.out)); have HWC := Aside0.mk (bl_on (bl_alloc HWB.out _) hb); have zA0 : (wC.alloc (.cells #[.bool true, .int .i64 VC, .int .u64 0, .int .u64 0, .int .u64 0, .int .u64 0, .int .u64 0, .int .u64 0] 28)).cell? ⟨wA.heap.size, 0, none⟩ = some (.bool true) := cellsOf (heap_on (bl_alloc (Below.refl wC.heap.size wC) _) HRA2.out) 0; have zA1 : (wC.alloc (.cells #[.bool true, .int .i64 VC, .int .u64 0, .int .u64 0, .int .u64 0, .int .u64 0, .int .u64 0, .int .u64 0] 28)).cell? ⟨wA.heap.size, 1, none⟩ = some (.int .i64 VA) := cellsOf (heap_on (bl_alloc (Below.refl wC.heap.size wC) _) HRA2.out) 1; have zB0 : (wC.alloc (.cells #[.bool true, .int .i64 VC, .int .u64 0, .int .u64 0, .int .u64 0, .int .u64 0, .int .u64 0, .int .u64 0] 28)).cell? ⟨wB.heap.size, 0, none⟩ = some (.bool true) := cellsOf (heap_on (bl_alloc (Below.refl wC.heap.size wC) _) HRB.out) 0; have zB1 : (wC.alloc (.cells #[.bool true, .int .i64 VC, .int .u64 0, .int .u64 0, .int .u64 0, .int .u64 0, .int .u64 0, .int .u64 0] 28)).cell? ⟨wB.heap.size, 1, none⟩ = some (.int .i64 VB) := cellsOf (heap_on (bl_alloc (Below.refl wC.heap.size wC) _) HRB.out) 1; clear hb)
        | go_in)
      refine bodyPost_ret (v := .bool true) (by simp [results, Tryd.results3, go_sem, e1, e2]) rfl ⟨rfl, bl_alloc HWC.out _⟩
end Go.Proofs.YtlbcgknjliihjaaDoor
