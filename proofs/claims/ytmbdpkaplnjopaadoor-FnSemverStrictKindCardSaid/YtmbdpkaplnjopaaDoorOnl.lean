/-
  Whether a text has only the bytes of another one: the search, the closure and the range over the text, walked.
-/
import Derived.Test.YtmbdpkaplnjopaaDoorPFnSemverStrictKindx0
import Derived.Deep.Cut
import Derived.Lib.Hide
import Derived.Lib.OthersKept
import Derived.Lib.Strings
import Derived.LoopTactic
import Derived.Deep.LoopGhost
import Derived.Outline
set_option linter.unusedVariables false
set_option linter.unusedSimpArgs false
namespace Go.Proofs.YtmbdpkaplnjopaaDoor
open Go Go.RowKit Go.Proofs.YtmbdpkaplnjopaaDoorW.PrintWords Go.Proofs.YtmbdpkaplnjopaaDoorW.PrintLast

theorem bl_alloc {w W : World} (h : Below w.heap.size w W) (o : Obj) : Below w.heap.size w (W.alloc o) := h.alloc h.size o
theorem bl_drew {B : Nat} {w W : World} (h : Below B w W) : Below B w W.drew := ⟨h.os, h.tape, h.output, h.size, h.block⟩
theorem bl_on {w W W1 : World} (h : Below w.heap.size w W) (h1 : Below W.heap.size W W1) : Below w.heap.size w W1 := h.trans (h1.mono h.size)
theorem bl_iter (w : World) (s : ByteArray) (pos : Nat) : Below w.heap.size w (w.iter s pos) := bl_alloc (Below.refl _ _) _
theorem cell_on {w w' : World} {x : Addr} {v : Value} (hb : Below w.heap.size w w') (h : w.cell? x = some v) : w'.cell? x = some v :=
  (hb.cell (World.block_lt_of_cell? w _ h)).trans h
theorem heap_new0 (W : World) (q : Nat) (o : Obj) (h : q = W.heap.size) : (W.alloc o).heap[q]? = some o := by subst h; exact (MapKept.heap_alloc W o).1
theorem cellsOf {w : World} {g : Nat} {t : TypeId} {cs : Array Value} (h : w.heap[g]? = some (.cells cs t (0, 0))) (i : Nat) : w.cell? ⟨g, i, none⟩ = cs[i]? := cell_of_row w g i cs t (0, 0) h
/-- all bytes are plain -/
def Plain (s : ByteArray) : Prop := ∀ b ∈ s.data.toList, b.toNat < 128
theorem mem_at (s : ByteArray) (i : Nat) (hi : i < s.size) : s[i]'hi ∈ s.data.toList := by rw [← Array.mem_def]; exact Array.getElem_mem hi
theorem plain_at {s : ByteArray} (h : Plain s) (i : Nat) (hi : i < s.size) : (s[i]'hi).toNat < 128 := h _ (mem_at s i hi)
/-- is this rune one of the bytes? -/
def hasR (s : ByteArray) (r : Int) : Bool := s.data.toList.any fun b => decide ((b.toNat : Int) = r)
def NoneR (s : ByteArray) (r : Int) (n : Nat) : Prop := ∀ i, ∀ h : i < s.size, i < n → ((s[i]'h).toNat : Int) ≠ r
theorem noneR_zero (s : ByteArray) (r : Int) : NoneR s r 0 := fun i _ h => absurd h (Nat.not_lt_zero i)
theorem noneR_succ {s : ByteArray} {r : Int} {n : Nat} (h : NoneR s r n) (hn : n < s.size) (hp : ((s[n]'hn).toNat : Int) ≠ r) : NoneR s r (n + 1) := fun i hi hlt => by
  by_cases he : i = n
  · subst he; exact hp
  · exact h i hi (by omega)
theorem hasR_none {s : ByteArray} {r : Int} (h : NoneR s r s.size) : hasR s r = false := by
  unfold hasR
  rw [List.any_eq_false]
  intro b hb
  obtain ⟨i, hi, rfl⟩ := List.mem_iff_getElem.1 hb
  have hi' : i < s.size := by rw [Array.length_toList] at hi; exact hi
  intro h2
  exact h i hi' hi' (of_decide_eq_true h2)
theorem hasR_hit {s : ByteArray} {r : Int} {i : Nat} (hi : i < s.size) (hp : ((s[i]'hi).toNat : Int) = r) : hasR s r = true := by
  unfold hasR
  rw [List.any_eq_true]
  exact ⟨s[i]'hi, mem_at s i hi, decide_eq_true hp⟩
set_option maxHeartbeats 8000000 in
set_option maxRecDepth 100000 in
theorem rune43_in (s : ByteArray) (r : Int) (hp : Plain s) (hg : (r == 65533) = true ∨ ((r == 65533) = false ∧ decide (r < 0) = false ∧ decide (1114111 < r) = false ∧ (decide (55296 ≤ r) = false ∨ (decide (55296 ≤ r) = true ∧ decide (r ≤ 57343) = false)))) (w : World) :
    Calls Tryd.prog 37 #[.string s, .int .i32 r] w fun e w' => ∃ v : Int, e = .returned (.int .i64 v) ∧ decide (0 ≤ v) = hasR s r ∧ Below w.heap.size w w' := by
  have HP := Aside0.mk hp
  clear hp
  go_enter Tryd.func37, Tryd.ntmps37
  rcases hg with g1 | ⟨g1, g2, g3, g4 | ⟨g4, g5⟩⟩
  all_goals
    have g6 : (r != 65533) = !(r == 65533) := rfl
    rw [g1] at g6
    go_wp2
    go_loopg [5] (s.size + 1) (fun g v5 w' => ∃ pos : Nat, w' = w.iter s pos ∧ Aside0 (pos ≤ s.size ∧ g + pos = s.size + 1) ∧ Aside0 (NoneR s r pos))
    case atStart => exact ⟨0, rfl, ⟨by omega, by omega⟩, ⟨noneR_zero _ _⟩⟩
    case round =>
      obtain ⟨pos, rfl, HI, HZ⟩ := hrel
      by_cases hlt : pos < s.size
      · obtain ⟨x, hx⟩ : ∃ x : UInt8, s[pos]'hlt = x := ⟨_, rfl⟩
        have hx128 : x.toNat < 128 := by rw [← hx]; exact plain_at HP.out pos hlt
        have hnx := fun ty => run_next_ascii (P := Tryd.prog) w s pos ty hlt (by rw [hx]; exact hx128)
        rw [hx] at hnx
        by_cases hr : (x.toNat : Int) = r
        · have HY := Aside0.mk (hasR_hit (r := r) hlt (by rw [hx]; exact hr))
          have c1 : ((x.toNat : Int) == r) = true := beq_iff_eq.2 hr
          clear hx hlt hx128 hr
          go_wp2
          go_ret
          exact ⟨pos, rfl, by rw [HY.out]; simp, bl_iter _ _ _⟩
        · have HY := Aside0.mk (noneR_succ HZ.out hlt (by rw [hx]; exact hr))
          have c1 : ((x.toNat : Int) == r) = false := beq_eq_false_iff_ne.2 hr
          have HL := Aside0.mk hlt
          clear hx hlt hx128 hr
          go_wp2
          go_roundg (gk - 1)
          case measure => have h1 := HI.out; have h2 := HL.out; omega
          case rel => exact ⟨pos + 1, rfl, ⟨by have h1 := HI.out; have h2 := HL.out; omega⟩, HY⟩
      · have hnx := fun ty => run_next_end (P := Tryd.prog) w s pos ty hlt
        have hps : pos = s.size := by have h1 := HI.out; omega
        have HY := Aside0.mk (hasR_none (s := s) (r := r) (hps ▸ HZ.out))
        clear hps
        clear hlt
        go_wp2
        go_ret
        exact ⟨-1, rfl, by rw [HY.out]; rfl, bl_iter _ _ _⟩
set_option maxHeartbeats 8000000 in
set_option maxRecDepth 100000 in
theorem rune43_out (s : ByteArray) (r : Int) (hp : Plain s) (hg : (r == 65533) = false ∧ decide (r < 0) = false ∧ ((decide (1114111 < r) = true) ∨ (decide (1114111 < r) = false ∧ decide (55296 ≤ r) = true ∧ decide (r ≤ 57343) = true))) (w : World) :
    Calls Tryd.prog 37 #[.string s, .int .i32 r] w fun e w' => ∃ v : Int, e = .returned (.int .i64 v) ∧ decide (0 ≤ v) = hasR s r ∧ Below w.heap.size w w' := by
  have HY : Aside0 (hasR s r = false) := ⟨hasR_none (fun i hi _ h => by
    have h1 := plain_at hp i hi
    rcases hg.2.2 with h2 | ⟨_, h2, _⟩ <;> (have h3 := of_decide_eq_true h2; omega))⟩
  clear hp
  go_enter Tryd.func37, Tryd.ntmps37
  rcases hg with ⟨g1, g2, g3 | ⟨g3, g4, g5⟩⟩
  all_goals
    have g6 : (r != 65533) = !(r == 65533) := rfl
    rw [g1] at g6
    go_wp2
    go_ret
    exact ⟨-1, rfl, by rw [HY.out]; rfl, Below.refl _ _⟩
theorem rune43_any (s : ByteArray) (r : Int) (hp : Plain s) (h0 : 0 ≤ r) (w : World) :
    Calls Tryd.prog 37 #[.string s, .int .i32 r] w fun e w' => ∃ v : Int, e = .returned (.int .i64 v) ∧ decide (0 ≤ v) = hasR s r ∧ Below w.heap.size w w' := by
  by_cases h1 : (r == 65533) = true
  · exact rune43_in s r hp (Or.inl h1) w
  · have h1 := Bool.eq_false_iff.2 h1
    have h2 : decide (r < 0) = false := decide_eq_false (by omega)
    by_cases h3 : 1114111 < r
    · exact rune43_out s r hp ⟨h1, h2, Or.inl (decide_eq_true h3)⟩ w
    · by_cases h4 : 55296 ≤ r
      · by_cases h5 : r ≤ 57343
        · exact rune43_out s r hp ⟨h1, h2, Or.inr ⟨decide_eq_false h3, decide_eq_true h4, decide_eq_true h5⟩⟩ w
        · exact rune43_in s r hp (Or.inr ⟨h1, h2, decide_eq_false h3, Or.inr ⟨decide_eq_true h4, decide_eq_false h5⟩⟩) w
      · exact rune43_in s r hp (Or.inr ⟨h1, h2, decide_eq_false h3, Or.inl (decide_eq_false h4)⟩) w
set_option maxRecDepth 100000 in
theorem rune34_any (s : ByteArray) (r : Int) (hp : Plain s) (h0 : 0 ≤ r) (w : World) :
    Calls Tryd.prog 29 #[.string s, .int .i32 r] w fun e w' => e = .returned (.bool (hasR s r)) ∧ Below w.heap.size w w' := by
  have HP := Aside0.mk hp
  have H0 := Aside0.mk h0
  clear hp h0
  go_enter Tryd.func29, Tryd.ntmps29
  go_wp2_with (go_at_call 37; (with_reducible refine (rune43_any s r HP.out H0.out _).mono ?_); rintro e w1 ⟨v, rfl, hv, hb⟩; have HV := Aside0.mk hv; have HB := Aside0.mk hb; clear hv hb)
  go_ret
  exact ⟨by rw [← HV.out]; rfl, HB.out⟩
set_option maxRecDepth 100000 in
theorem only33_any (q : Nat) (c : ByteArray) (r : Int) (hp : Plain c) (h0 : 0 ≤ r) (w : World) (hq : w.cell? ⟨q, 0, none⟩ = some (.string c)) :
    Calls Tryd.prog 28 #[.int .i32 r, .pointer (some ⟨q, 0, none⟩)] w fun e w' => e = .returned (.bool (!(hasR c r))) ∧ Below w.heap.size w w' := by
  have HP := Aside0.mk hp
  have H0 := Aside0.mk h0
  clear hp h0
  go_enter Tryd.func28, Tryd.ntmps28
  go_wp2_with (go_at_call 29; (with_reducible refine (rune34_any c r HP.out H0.out _).mono ?_); rintro e w1 ⟨rfl, hb⟩; have HB := Aside0.mk hb; clear hb)
  go_ret
  exact ⟨rfl, HB.out⟩
end Go.Proofs.YtmbdpkaplnjopaaDoor
