/-
  A wrapped job noted: the closures run.
-/
import Derived.Test.YtnphijkoaalpnaaTra1
import Derived.Deep.Cut
import Derived.Lib.Hide
set_option linter.unusedVariables false
set_option linter.unusedSimpArgs false
namespace Go.Proofs.Ytnphijkoaalpnaa
open Go Go.RowKit Go.Proofs.YtnphijkoaalpnaaW.PrintWords Go.Proofs.YtnphijkoaalpnaaW.PrintLast

def fv9 (tr : Nat) : Value := .func (.func 9) #[] #[.pointer (some ⟨tr, 0, none⟩)]
def fv11 (t q b : Nat) : Value := .func (.func 11) #[] #[.pointer (some ⟨t, 0, none⟩), .pointer (some ⟨q, 0, none⟩), .pointer (some ⟨b, 0, none⟩)]
/-- a job is the wrapped jobs of these numbers -/
def Job (B tr t : Nat) (W : World) : Value → List Int → Prop
  | v, [] => v = .iface 34 (fv9 tr)
  | v, a :: l => ∃ q b v', v = .iface 34 (fv11 t q b) ∧ (q < B ∧ b < B ∧ q ≠ tr ∧ b ≠ tr) ∧ W.heap[q]? = some (.cells #[.int .i64 a] 3 (0, 0)) ∧ W.heap[b]? = some (.cells #[v'] 26 (0, 0)) ∧ Job B tr t W v' l
/-- all but the trace stays -/
def Stay (B tr : Nat) (W W' : World) : Prop := Below tr W W' ∧ ∀ k, k < B → k ≠ tr → W'.heap[k]? = W.heap[k]?
/-- what is noted -/
def TrS (B tr : Nat) (W : World) (xs : List Int) : Prop := ∃ v, W.heap[tr]? = some (.cells #[v] 22 (0, 0)) ∧ Kd.R (Kd.int .i64) 3 W B (fun k => B ≤ k) v xs
theorem stay_refl (B tr : Nat) (W : World) : Stay B tr W W := ⟨Below.refl _ _, fun _ _ _ => rfl⟩
theorem stay_trans {B tr : Nat} {W W1 W2 : World} (h : Stay B tr W W1) (h1 : Stay B tr W1 W2) : Stay B tr W W2 := ⟨h.1.trans h1.1, fun k a b => (h1.2 k a b).trans (h.2 k a b)⟩
theorem stay_below {B tr : Nat} {W W1 : World} (h : Below B W W1) (ht : tr ≤ B) : Stay B tr W W1 := ⟨h.mono ht, fun k a _ => h.block k a⟩
theorem stay_set (B tr : Nat) (W : World) (v : Value) : Stay B tr W (W.setCell ⟨tr, 0, none⟩ v) := ⟨(Below.refl tr W).setCell (Nat.le_refl _) v, fun k _ b => Below.heap_setCell W ⟨tr, 0, none⟩ v k b⟩
theorem cellsOf {w : World} {g : Nat} {t : TypeId} {cs : Array Value} (h : w.heap[g]? = some (.cells cs t (0, 0))) (i : Nat) : w.cell? ⟨g, i, none⟩ = cs[i]? := cell_of_row w g i cs t (0, 0) h
theorem info3 : (Try.prog.info? 3).map (fun i => (i.zero, i.size, i.bytes)) = some (some (.int .i64 0), 1, 8) := by kernel_rfl
theorem trs_set {B tr : Nat} {W1 : World} {v0 v : Value} {xs : List Int} (ht : tr < B) (h0 : W1.heap[tr]? = some (.cells #[v0] 22 (0, 0))) (h : Kd.R (Kd.int .i64) 3 W1 B (fun k => B ≤ k) v xs) : TrS B tr (W1.setCell ⟨tr, 0, none⟩ v) xs :=
  ⟨v, blk_put h0 0 v rfl, Kd.R_far (p := ⟨tr, 0, none⟩) h (fun k hk => by show k ≠ tr; omega) v⟩
theorem blk_lo {B : Nat} {W W1 : World} {k : Nat} {o : Obj} (hb : Below B W W1) (hx : k < B) (h : W.heap[k]? = some o) : W1.heap[k]? = some o := (hb.block k hx).trans h
theorem cell_lo {B : Nat} {W W1 : World} {x : Addr} {v : Value} (hb : Below B W W1) (hx : x.block < B) (h : W.cell? x = some v) : W1.cell? x = some v := (hb.cell hx).trans h
theorem stay_blk {B tr : Nat} {W W1 : World} {k : Nat} {o : Obj} (h : Stay B tr W W1) (h0 : k < B) (h1 : k ≠ tr) (h2 : W.heap[k]? = some o) : W1.heap[k]? = some o := (h.2 k h0 h1).trans h2
theorem frozenOf {w : World} {g : Nat} {t : TypeId} {cs : Array Value} (h : w.heap[g]? = some (.cells cs t (0, 0))) (i : Nat) : w.frozen? ⟨g, i, none⟩ = false := by simp [World.frozen?, h]
/-- what is noted, and all else stays -/
def PostR (B tr : Nat) (W : World) (xs : List Int) : Ending → World → Prop := fun e w' => e = .returned (.tuple #[]) ∧ TrS B tr w' xs ∧ Stay B tr W w'
set_option maxHeartbeats 4000000 in
set_option maxRecDepth 100000 in
/-- a wrapper runs what it wraps and notes its number ahead of it and, with the other sign, behind it -/
theorem job11 (B tr t q b : Nat) (a : Int) (u : Value) (l : List Int) (W : World) (xs : List Int) (hl : tr < B ∧ t < B ∧ q < B ∧ b < B ∧ t ≠ tr ∧ q ≠ tr ∧ b ≠ tr ∧ B ≤ W.heap.size) (hn : xs.length + l.length + 2 ≤ 2147483647)
    (ht : W.heap[t]? = some (.cells #[.pointer (some ⟨tr, 0, none⟩)] 32 (0, 0))) (hq : W.heap[q]? = some (.cells #[.int .i64 a] 3 (0, 0))) (hb : W.heap[b]? = some (.cells #[.iface 34 u] 26 (0, 0)))
    (hT : TrS B tr W xs) (ih : ∀ W' xs', Stay B tr W W' → TrS B tr W' xs' → xs'.length = xs.length + 1 → Calls Try.prog 27 #[u] W' (PostR B tr W' (xs' ++ l))) :
    Calls Try.prog 11 #[.pointer (some ⟨t, 0, none⟩), .pointer (some ⟨q, 0, none⟩), .pointer (some ⟨b, 0, none⟩)] W (PostR B tr W (xs ++ a :: l ++ [wrap64 (-a)])) := by
  have HL := Aside0.mk hl
  have HM0 := Aside0.mk (show xs.length + 2 ≤ 2147483647 by omega)
  have HM2 := Aside0.mk (show (xs ++ [a] ++ l).length + 1 ≤ 2147483647 by simp; omega)
  have HP0 := Aside0.mk ht
  have HQ0 := Aside0.mk hq
  have HZ0 := Aside0.mk hb
  have HT0 := Aside0.mk hT
  have HI := Aside0.mk ih
  have HS0 := Aside0.mk (Nat.le_refl W.heap.size)
  clear hl hn ht hq hb hT ih
  go_enter Try.func11, Try.ntmps11
  go_upto_region 0 with fail
  obtain ⟨v0s, hT0, hv0⟩ := HT0.out
  obtain ⟨A0, c0, e0, -, -⟩ := Kd.R_reads hv0
  subst e0
  have HR0 := Aside0.mk hv0
  have g00 : W.cell? ⟨t, 0, none⟩ = some (.pointer (some ⟨tr, 0, none⟩)) := cellsOf HP0.out 0
  have g01 : W.cell? ⟨tr, 0, none⟩ = some (.slice A0 (xs).length c0) := cellsOf hT0 0
  have g02 : W.cell? ⟨q, 0, none⟩ = some (.int .i64 a) := cellsOf HQ0.out 0
  have HH0 := Aside0.mk hT0
  clear hv0 hT0 HT0
  refine start_ (n := 9) (S := fun w' => w'.cell? ⟨t, 0, none⟩ = some (.pointer (some ⟨tr, 0, none⟩)) ∧ w'.cell? ⟨tr, 0, none⟩ = some (.slice A0 (xs).length c0) ∧ w'.cell? ⟨q, 0, none⟩ = some (.int .i64 a)) (ds := [8]) #[false, false, false, false, false, false, false, false, false] (by kernel_rfl) rfl rfl ⟨(cell_on (bl_drew (Below.refl _ _)) g00), (cell_on (bl_drew (Below.refl _ _)) g01), (cell_on (bl_drew (Below.refl _ _)) g02)⟩ (fun hHeld => ?_)
  refine take_ (i := 0) (N := some 3) (v := ?_) (a' := ?_) #[true, false, false, false, false, false, false, false, false] rfl rfl (by kernel_rfl) (fun _ _ _ h => h) (Or.inl ⟨by rfl, ?_⟩) hHeld ?_ ?_
  rotate_left
  · rintro w' ⟨s0, s1, s2⟩
    go_simp
    with_reducible rfl
  rotate_left
  · simp only [Act.put, List.setIfInBounds_toArray, List.set_cons_zero, List.set_cons_succ, i64_w, i32_w]
    rfl
  refine take_ (i := 1) (N := some 4) (v := ?_) (a' := ?_) #[true, true, false, false, false, false, false, false, false] rfl rfl (by kernel_rfl) (fun _ _ _ h => h) (Or.inl ⟨by rfl, ?_⟩) hHeld ?_ ?_
  rotate_left
  · rintro w' ⟨s0, s1, s2⟩
    go_simp
    with_reducible rfl
  rotate_left
  · simp only [Act.put, List.setIfInBounds_toArray, List.set_cons_zero, List.set_cons_succ, i64_w, i32_w]
    rfl
  refine pure_ (i := 2) (N := some 5) (v := ?_) (a' := ?_) #[true, true, true, false, false, false, false, false, false] rfl rfl (by kernel_rfl) (fun _ _ _ h => h) (Or.inl ⟨by rfl, ?_⟩) ?_ ?_
  rotate_left
  · intro w'
    go_simp
    with_reducible rfl
  rotate_left
  · simp only [Act.put, List.setIfInBounds_toArray, List.set_cons_zero, List.set_cons_succ, i64_w, i32_w]
    rfl
  refine take_ (i := 3) (N := some 6) (v := ?_) (a' := ?_) #[true, true, true, true, false, false, false, false, false] rfl rfl (by kernel_rfl) (fun _ _ _ h => h) (Or.inl ⟨by rfl, ?_⟩) hHeld ?_ ?_
  rotate_left
  · rintro w' ⟨s0, s1, s2⟩
    go_simp
    with_reducible rfl
  rotate_left
  · simp only [Act.put, List.setIfInBounds_toArray, List.set_cons_zero, List.set_cons_succ, i64_w, i32_w]
    rfl
  refine take_ (i := 4) (N := some 7) (v := ?_) (a' := ?_) #[true, true, true, true, true, false, false, false, false] rfl rfl (by kernel_rfl) (fun _ _ _ h => h) (Or.inl ⟨by rfl, ?_⟩) hHeld ?_ ?_
  rotate_left
  · rintro w' ⟨s0, s1, s2⟩
    go_simp
    with_reducible rfl
  rotate_left
  · simp only [Act.put, List.setIfInBounds_toArray, List.set_cons_zero, List.set_cons_succ, i64_w, i32_w]
    rfl
  refine one_ (i := 5) (N := some 8) #[true, true, true, true, true, true, false, false, false] rfl rfl (by kernel_rfl) (by decide) (fun K hK => ?_)
  refine value_ (w1 := ?_) (v := ?_) (by rfl) rfl ?_ ?_
  rotate_left 2
  · go_simp
    constructor
    · rfl
    · rfl
  refine hK.out _ _ ⟨(cell_on (bl_alloc (Below.refl _ _) _) hHeld.1), (cell_on (bl_alloc (Below.refl _ _) _) hHeld.2.1), (cell_on (bl_alloc (Below.refl _ _) _) hHeld.2.2)⟩ (fun hHeld => ?_)
  clear hK K
  refine norm_ (a' := ?_) ?_ ?_
  rotate_left
  · show Act.put _ (some 8) _ = _
    simp only [Act.put, List.setIfInBounds_toArray, List.set_cons_zero, List.set_cons_succ, i64_w, i32_w]
    rfl
  refine one_ (i := 6) (N := some 9) #[true, true, true, true, true, true, true, false, false] rfl rfl (by kernel_rfl) (by decide) (fun K hK => ?_)
  refine Kd.R_append_step (Kd.int .i64) (w0 := W) B (by rfl) (.tmp 6) (.tmp 8) 22 3 (.int .i64 0) 8 rfl Try.underlying22 info3 rfl Nat.one_pos (by omega) (.slice A0 (xs).length c0) (xs) (a) [.int .i64 (a)] (fun k => B ≤ k) (fun _ => False) rfl rfl rfl (fun _ h => h.elim) (fun k hk => ?_) (Kd.R_drew HR0.out) (bl_drew (Below.refl _ _)) ?_ ?_ ?_
  · have h1 := HL.out; have h2 := HS0.out; have h3 : (W).heap.size ≤ k := hk; omega
  · have h1 := HL.out; have h2 := HS0.out; show B ≤ (W).heap.size; omega
  · have h1 := HM0.out; omega
  intro v0 w0 hR0 hB0 _ _
  obtain ⟨A0b, c0b, e0b, -, -⟩ := Kd.R_reads hR0
  simp only [List.length_append, List.length_cons, List.length_nil, Nat.zero_add] at e0b
  subst e0b
  have HR0a := Aside0.mk hR0
  have HB0a := Aside0.mk hB0
  clear hR0
  refine hK.out _ _ ⟨(cell_lo HB0a.out HL.out.2.1 g00), (cell_lo HB0a.out HL.out.1 g01), (cell_lo HB0a.out HL.out.2.2.1 g02)⟩ (fun hHeld => ?_)
  clear hK K
  refine norm_ (a' := ?_) ?_ ?_
  rotate_left
  · show Act.put _ (some 9) _ = _
    simp only [Act.put, List.setIfInBounds_toArray, List.set_cons_zero, List.set_cons_succ, i64_w, i32_w]
    rfl
  refine pure_ (i := 7) (N := some 10) (v := ?_) (a' := ?_) #[true, true, true, true, true, true, true, true, false] rfl rfl (by kernel_rfl) (fun _ _ _ h => h) (Or.inl ⟨by rfl, ?_⟩) ?_ ?_
  rotate_left
  · intro w'
    go_simp
    with_reducible rfl
  rotate_left
  · simp only [Act.put, List.setIfInBounds_toArray, List.set_cons_zero, List.set_cons_succ, i64_w, i32_w]
    rfl
  refine last_ (i := 8) (N := none) #[true, true, true, true, true, true, true, true, true] rfl rfl (by kernel_rfl) (by decide) (fun K hK => ?_)
  have fz := frozenOf (blk_lo HB0a.out HL.out.1 HH0.out) 0
  refine skip_ (w1 := ?_) (by rfl) rfl ?_ ?_
  rotate_left
  · go_simp
    rfl
  refine hK.out _ _ ?_
  clear hK K
  refine done_ (by kernel_rfl) ?_
  have HN0 := Aside0.mk (trs_set HL.out.1 (blk_lo HB0a.out HL.out.1 HH0.out) HR0a.out)
  have HY0 := Aside0.mk (stay_trans (stay_below HB0a.out (Nat.le_of_lt HL.out.1)) (stay_set B tr w0 (.slice A0b ((xs).length + 1) c0b)))
  clear HR0a HB0a HR0 HH0 g00 g01 g02
  generalize w0.setCell ⟨tr, 0, none⟩ (.slice A0b ((xs).length + 1) c0b) = Wa at HN0 HY0 ⊢
  have gb : Wa.cell? ⟨b, 0, none⟩ = some (.iface 34 u) := cellsOf (stay_blk HY0.out HL.out.2.2.2.1 HL.out.2.2.2.2.2.2.1 HZ0.out) 0
  have hn : ∀ w : World, (nilAhead 153 34 u "Run").run Try.prog w = .ok (some false) w := fun _ => by kernel_rfl
  have hm : ∀ w : World, (method 153 34 u "Run").run Try.prog w = .ok (27, u) w := fun _ => by kernel_rfl
  go_upto_region 2 with (go_at_call 27; (with_reducible refine (HI.out _ _ HY0.out HN0.out (by simp)).mono ?_); rintro e W3 ⟨rfl, hT3, hY3⟩; have HT2 := Aside0.mk hT3; have HY3 := Aside0.mk (stay_trans HY0.out hY3); clear hT3 hY3)
  obtain ⟨ys, hys⟩ : ∃ ys, ys = xs ++ [a] ++ l := ⟨_, rfl⟩
  rw [← hys] at HT2 HM2
  have HE := Aside0.mk hys
  clear hys
  have HP2 := Aside0.mk (stay_blk HY3.out HL.out.2.1 HL.out.2.2.2.2.1 HP0.out)
  have HQ2 := Aside0.mk (stay_blk HY3.out HL.out.2.2.1 HL.out.2.2.2.2.2.1 HQ0.out)
  have HS2 := Aside0.mk HY3.out.1.size
  clear gb hn hm
  obtain ⟨v2s, hT2, hv2⟩ := HT2.out
  obtain ⟨A2, c2, e2, -, -⟩ := Kd.R_reads hv2
  subst e2
  have HR2 := Aside0.mk hv2
  have g20 : W3.cell? ⟨t, 0, none⟩ = some (.pointer (some ⟨tr, 0, none⟩)) := cellsOf HP2.out 0
  have g21 : W3.cell? ⟨tr, 0, none⟩ = some (.slice A2 (ys).length c2) := cellsOf hT2 0
  have g22 : W3.cell? ⟨q, 0, none⟩ = some (.int .i64 a) := cellsOf HQ2.out 0
  have HH2 := Aside0.mk hT2
  clear hv2 hT2 HT2
  refine start_ (n := 10) (S := fun w' => w'.cell? ⟨t, 0, none⟩ = some (.pointer (some ⟨tr, 0, none⟩)) ∧ w'.cell? ⟨tr, 0, none⟩ = some (.slice A2 (ys).length c2) ∧ w'.cell? ⟨q, 0, none⟩ = some (.int .i64 a)) (ds := [9]) #[false, false, false, false, false, false, false, false, false, false] (by kernel_rfl) rfl rfl ⟨(cell_on (bl_drew (Below.refl _ _)) g20), (cell_on (bl_drew (Below.refl _ _)) g21), (cell_on (bl_drew (Below.refl _ _)) g22)⟩ (fun hHeld => ?_)
  refine take_ (i := 0) (N := some 13) (v := ?_) (a' := ?_) #[true, false, false, false, false, false, false, false, false, false] rfl rfl (by kernel_rfl) (fun _ _ _ h => h) (Or.inl ⟨by rfl, ?_⟩) hHeld ?_ ?_
  rotate_left
  · rintro w' ⟨s0, s1, s2⟩
    go_simp
    with_reducible rfl
  rotate_left
  · simp only [Act.put, List.setIfInBounds_toArray, List.set_cons_zero, List.set_cons_succ, i64_w, i32_w]
    rfl
  refine take_ (i := 1) (N := some 14) (v := ?_) (a' := ?_) #[true, true, false, false, false, false, false, false, false, false] rfl rfl (by kernel_rfl) (fun _ _ _ h => h) (Or.inl ⟨by rfl, ?_⟩) hHeld ?_ ?_
  rotate_left
  · rintro w' ⟨s0, s1, s2⟩
    go_simp
    with_reducible rfl
  rotate_left
  · simp only [Act.put, List.setIfInBounds_toArray, List.set_cons_zero, List.set_cons_succ, i64_w, i32_w]
    rfl
  refine pure_ (i := 2) (N := some 15) (v := ?_) (a' := ?_) #[true, true, true, false, false, false, false, false, false, false] rfl rfl (by kernel_rfl) (fun _ _ _ h => h) (Or.inl ⟨by rfl, ?_⟩) ?_ ?_
  rotate_left
  · intro w'
    go_simp
    with_reducible rfl
  rotate_left
  · simp only [Act.put, List.setIfInBounds_toArray, List.set_cons_zero, List.set_cons_succ, i64_w, i32_w]
    rfl
  refine take_ (i := 3) (N := some 16) (v := ?_) (a' := ?_) #[true, true, true, true, false, false, false, false, false, false] rfl rfl (by kernel_rfl) (fun _ _ _ h => h) (Or.inl ⟨by rfl, ?_⟩) hHeld ?_ ?_
  rotate_left
  · rintro w' ⟨s0, s1, s2⟩
    go_simp
    with_reducible rfl
  rotate_left
  · simp only [Act.put, List.setIfInBounds_toArray, List.set_cons_zero, List.set_cons_succ, i64_w, i32_w]
    rfl
  refine take_ (i := 4) (N := some 17) (v := ?_) (a' := ?_) #[true, true, true, true, true, false, false, false, false, false] rfl rfl (by kernel_rfl) (fun _ _ _ h => h) (Or.inl ⟨by rfl, ?_⟩) hHeld ?_ ?_
  rotate_left
  · rintro w' ⟨s0, s1, s2⟩
    go_simp
    with_reducible rfl
  rotate_left
  · simp only [Act.put, List.setIfInBounds_toArray, List.set_cons_zero, List.set_cons_succ, i64_w, i32_w]
    rfl
  refine pure_ (i := 5) (N := some 18) (v := ?_) (a' := ?_) #[true, true, true, true, true, true, false, false, false, false] rfl rfl (by kernel_rfl) (fun _ _ _ h => h) (Or.inl ⟨by rfl, ?_⟩) ?_ ?_
  rotate_left
  · intro w'
    go_simp
    with_reducible rfl
  rotate_left
  · simp only [Act.put, List.setIfInBounds_toArray, List.set_cons_zero, List.set_cons_succ, i64_w, i32_w]
    rfl
  refine one_ (i := 6) (N := some 19) #[true, true, true, true, true, true, true, false, false, false] rfl rfl (by kernel_rfl) (by decide) (fun K hK => ?_)
  refine value_ (w1 := ?_) (v := ?_) (by rfl) rfl ?_ ?_
  rotate_left 2
  · go_simp
    constructor
    · rfl
    · rfl
  refine hK.out _ _ ⟨(cell_on (bl_alloc (Below.refl _ _) _) hHeld.1), (cell_on (bl_alloc (Below.refl _ _) _) hHeld.2.1), (cell_on (bl_alloc (Below.refl _ _) _) hHeld.2.2)⟩ (fun hHeld => ?_)
  clear hK K
  refine norm_ (a' := ?_) ?_ ?_
  rotate_left
  · show Act.put _ (some 19) _ = _
    simp only [Act.put, List.setIfInBounds_toArray, List.set_cons_zero, List.set_cons_succ, i64_w, i32_w]
    rfl
  refine one_ (i := 7) (N := some 20) #[true, true, true, true, true, true, true, true, false, false] rfl rfl (by kernel_rfl) (by decide) (fun K hK => ?_)
  refine Kd.R_append_step (Kd.int .i64) (w0 := W3) B (by rfl) (.tmp 16) (.tmp 19) 22 3 (.int .i64 0) 8 rfl Try.underlying22 info3 rfl Nat.one_pos (by omega) (.slice A2 (ys).length c2) (ys) (wrap64 (-a)) [.int .i64 (wrap64 (-a))] (fun k => B ≤ k) (fun _ => False) rfl rfl rfl (fun _ h => h.elim) (fun k hk => ?_) (Kd.R_drew HR2.out) (bl_drew (Below.refl _ _)) ?_ ?_ ?_
  · have h1 := HL.out; have h2 := HS2.out; have h3 : (W3).heap.size ≤ k := hk; omega
  · have h1 := HL.out; have h2 := HS2.out; show B ≤ (W3).heap.size; omega
  · have h1 := HM2.out; omega
  intro v2 w2 hR2 hB2 _ _
  obtain ⟨A2b, c2b, e2b, -, -⟩ := Kd.R_reads hR2
  simp only [List.length_append, List.length_cons, List.length_nil, Nat.zero_add] at e2b
  subst e2b
  have HR2a := Aside0.mk hR2
  have HB2a := Aside0.mk hB2
  clear hR2
  refine hK.out _ _ ⟨(cell_lo HB2a.out HL.out.2.1 g20), (cell_lo HB2a.out HL.out.1 g21), (cell_lo HB2a.out HL.out.2.2.1 g22)⟩ (fun hHeld => ?_)
  clear hK K
  refine norm_ (a' := ?_) ?_ ?_
  rotate_left
  · show Act.put _ (some 20) _ = _
    simp only [Act.put, List.setIfInBounds_toArray, List.set_cons_zero, List.set_cons_succ, i64_w, i32_w]
    rfl
  refine pure_ (i := 8) (N := some 21) (v := ?_) (a' := ?_) #[true, true, true, true, true, true, true, true, true, false] rfl rfl (by kernel_rfl) (fun _ _ _ h => h) (Or.inl ⟨by rfl, ?_⟩) ?_ ?_
  rotate_left
  · intro w'
    go_simp
    with_reducible rfl
  rotate_left
  · simp only [Act.put, List.setIfInBounds_toArray, List.set_cons_zero, List.set_cons_succ, i64_w, i32_w]
    rfl
  refine last_ (i := 9) (N := none) #[true, true, true, true, true, true, true, true, true, true] rfl rfl (by kernel_rfl) (by decide) (fun K hK => ?_)
  have fz := frozenOf (blk_lo HB2a.out HL.out.1 HH2.out) 0
  refine skip_ (w1 := ?_) (by rfl) rfl ?_ ?_
  rotate_left
  · go_simp
    rfl
  refine hK.out _ _ ?_
  clear hK K
  refine done_ (by kernel_rfl) ?_
  have HN2 := Aside0.mk (trs_set HL.out.1 (blk_lo HB2a.out HL.out.1 HH2.out) HR2a.out)
  have HY2 := Aside0.mk (stay_trans (stay_below HB2a.out (Nat.le_of_lt HL.out.1)) (stay_set B tr w2 (.slice A2b ((ys).length + 1) c2b)))
  clear HR2a HB2a HR2 HH2 g20 g21 g22
  generalize w2.setCell ⟨tr, 0, none⟩ (.slice A2b ((ys).length + 1) c2b) = Wb at HN2 HY2 ⊢
  go_end0
  refine ⟨rfl, ?_, stay_trans HY3.out HY2.out⟩
  have h := HN2.out
  rw [HE.out] at h
  simpa using h
end Go.Proofs.Ytnphijkoaalpnaa
