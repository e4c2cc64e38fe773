/-
  containsOnly, walked.
-/
import Derived.Test.YtmbdpkaplnjopaaDoorOnl
import Derived.Laws.RangeAny
set_option linter.unusedVariables false
set_option linter.unusedSimpArgs false
namespace Go.Proofs.YtmbdpkaplnjopaaDoor
open Go Go.RowKit Go.Proofs.YtmbdpkaplnjopaaDoorW.PrintWords Go.Proofs.YtmbdpkaplnjopaaDoorW.PrintLast

/-- has a text only bytes of another one? -/
def onlyB (c s : ByteArray) : Bool := s.data.toList.all fun b => hasR c b.toNat
def AllIn (c s : ByteArray) (n : Nat) : Prop := ∀ i, ∀ h : i < s.size, i < n → hasR c ((s[i]'h).toNat : Int) = true
theorem allIn_zero (c s : ByteArray) : AllIn c s 0 := fun i _ h => absurd h (Nat.not_lt_zero i)
theorem allIn_succ {c s : ByteArray} {n : Nat} (h : AllIn c s n) (hn : n < s.size) (hp : hasR c ((s[n]'hn).toNat : Int) = true) : AllIn c s (n + 1) := fun i hi hlt => by
  by_cases he : i = n
  · subst he; exact hp
  · exact h i hi (by omega)
theorem only_all {c s : ByteArray} (h : AllIn c s s.size) : onlyB c s = true := by
  unfold onlyB
  rw [List.all_eq_true]
  intro b hb
  obtain ⟨i, hi, rfl⟩ := List.mem_iff_getElem.1 hb
  have hi' : i < s.size := by rw [Array.length_toList] at hi; exact hi
  exact h i hi' hi'
theorem only_not {c s : ByteArray} {i : Nat} (hi : i < s.size) (hp : hasR c ((s[i]'hi).toNat : Int) = false) : onlyB c s = false := by
  cases h : onlyB c s
  · rfl
  · unfold onlyB at h
    have h1 := List.all_eq_true.1 h _ (mem_at s i hi)
    rw [h1] at hp
    cases hp
theorem hasR_plain {c : ByteArray} (hp : Plain c) {r : Int} (h : 128 ≤ r) : hasR c r = false := by
  unfold hasR
  rw [List.any_eq_false]
  intro b hb h2
  have h3 := hp b hb
  have h4 := of_decide_eq_true h2
  omega
set_option maxHeartbeats 8000000 in
set_option maxRecDepth 100000 in
theorem func42_any (q : Nat) (c s : ByteArray) (hp : Plain c) (w : World) (hq : w.cell? ⟨q, 0, none⟩ = some (.string c)) :
    Calls Tryd.prog 36 #[.string s, .func (.func 28) #[] #[.pointer (some ⟨q, 0, none⟩)], .bool true] w fun e w' => ∃ v : Int, e = .returned (.int .i64 v) ∧ (v == -1) = onlyB c s ∧ Below w.heap.size w w' := by
  have HP := Aside0.mk hp
  have HC := Aside0.mk hq
  clear hp hq
  go_enter Tryd.func36, Tryd.ntmps36
  go_wp2
  go_loopg [7] (s.size + 1) (fun g v7 w' => ∃ pos : Nat, Aside0 (w'.heap[w.heap.size]? = some (.stringIter s pos)) ∧ Aside0 (pos ≤ s.size ∧ g + pos = s.size + 1) ∧ Aside0 (AllIn c s pos) ∧ Aside0 (Below w.heap.size w w'))
  case atStart => exact ⟨0, ⟨World.iter_heap _ _ _⟩, ⟨by omega, by omega⟩, ⟨allIn_zero _ _⟩, ⟨bl_iter _ _ _⟩⟩
  case round =>
    obtain ⟨pos, HT, HI, HZ, HB⟩ := hrel
    by_cases hlt : pos < s.size
    · have hnx := fun ty => Lib.run_next_any_at (P := Tryd.prog) wr w.heap.size s pos ty HT.out hlt
      by_cases ha : (s[pos]'hlt).toNat < 128
      · rw [decode_ascii s pos hlt ha] at hnx
        simp only [] at hnx
        obtain ⟨x, hx⟩ : ∃ x : UInt8, s[pos]'hlt = x := ⟨_, rfl⟩
        rw [hx] at hnx
        have HX := Aside0.mk (show ∃ h : pos < s.size, s[pos]'h = x from ⟨hlt, hx⟩)
        have H2 := Aside0.mk (Lib.iterAt_heap wr w.heap.size s pos (pos + 1) HT.out)
        have HB2 := Aside0.mk (Lib.below_iterAt HB.out (Nat.le_refl _) s (pos + 1))
        have HC2 := Aside0.mk (cell_on HB2.out HC.out)
        clear hx hlt ha
        cases hh : hasR c (x.toNat : Int)
        · have HY : Aside0 (onlyB c s = false) := ⟨by obtain ⟨h, e⟩ := HX.out; exact only_not h (by rw [e]; exact hh)⟩
          have HH := Aside0.mk hh
          clear hh
          go_wp2_with (go_at_call 28; (with_reducible refine (only33_any q c (x.toNat : Int) HP.out (Int.natCast_nonneg _) _ HC2.out).mono ?_); rintro e w1 ⟨rfl, hb⟩; rw [HH.out]; have HB3 := Aside0.mk hb; clear hb)
          go_ret
          exact ⟨pos, rfl, by rw [HY.out, beq_eq_false_iff_ne]; omega, bl_on HB2.out HB3.out⟩
        · have HY : Aside0 (AllIn c s (pos + 1)) := ⟨by obtain ⟨h, e⟩ := HX.out; exact allIn_succ HZ.out h (by rw [e]; exact hh)⟩
          have HH := Aside0.mk hh
          clear hh
          go_wp2_with (go_at_call 28; (with_reducible refine (only33_any q c (x.toNat : Int) HP.out (Int.natCast_nonneg _) _ HC2.out).mono ?_); rintro e w1 ⟨rfl, hb⟩; rw [HH.out]; have HB3 := Aside0.mk hb; clear hb)
          go_roundg (gk - 1)
          case measure => have h1 := HI.out; obtain ⟨h, _⟩ := HX.out; omega
          case rel => exact ⟨pos + 1, ⟨(HB3.out.block _ (Array.getElem?_eq_some_iff.1 H2.out).1).trans H2.out⟩, ⟨by have h1 := HI.out; obtain ⟨h, _⟩ := HX.out; omega⟩, HY, ⟨bl_on HB2.out HB3.out⟩⟩
      · have hd := decode_high s pos hlt (by omega)
        have HY : Aside0 (onlyB c s = false) := ⟨only_not hlt (hasR_plain HP.out (by omega))⟩
        obtain ⟨r, hr⟩ : ∃ r : Nat, r = (Utf8.decode s pos).1 := ⟨_, rfl⟩
        obtain ⟨wd, hwd⟩ : ∃ wd : Nat, wd = (Utf8.decode s pos).2 := ⟨_, rfl⟩
        rw [← hr, ← hwd] at hnx
        rw [← hr] at hd
        have HH : Aside0 (hasR c (r : Int) = false) := ⟨hasR_plain HP.out (by omega)⟩
        have HB2 := Aside0.mk (Lib.below_iterAt HB.out (Nat.le_refl _) s (pos + wd))
        have HC2 := Aside0.mk (cell_on HB2.out HC.out)
        clear hlt ha hd hr hwd
        go_wp2_with (go_at_call 28; (with_reducible refine (only33_any q c (r : Int) HP.out (Int.natCast_nonneg _) _ HC2.out).mono ?_); rintro e w1 ⟨rfl, hb⟩; rw [HH.out]; have HB3 := Aside0.mk hb; clear hb)
        go_ret
        exact ⟨pos, rfl, by rw [HY.out, beq_eq_false_iff_ne]; omega, bl_on HB2.out HB3.out⟩
    · have hnx := fun ty => Lib.run_next_end_at (P := Tryd.prog) wr w.heap.size s pos ty HT.out hlt
      have hps : pos = s.size := by have h1 := HI.out; omega
      have HY := Aside0.mk (only_all (c := c) (s := s) (hps ▸ HZ.out))
      clear hlt hps
      go_wp2
      go_ret
      exact ⟨-1, rfl, by rw [HY.out]; rfl, HB.out⟩
set_option maxRecDepth 100000 in
theorem func32_any (q : Nat) (c s : ByteArray) (hp : Plain c) (w : World) (hq : w.cell? ⟨q, 0, none⟩ = some (.string c)) :
    Calls Tryd.prog 27 #[.string s, .func (.func 28) #[] #[.pointer (some ⟨q, 0, none⟩)]] w fun e w' => ∃ v : Int, e = .returned (.int .i64 v) ∧ (v == -1) = onlyB c s ∧ Below w.heap.size w w' := by
  have HP := Aside0.mk hp
  have HC := Aside0.mk hq
  clear hp hq
  go_enter Tryd.func27, Tryd.ntmps27
  go_wp2_with (go_at_call 36; (with_reducible refine (func42_any q c s HP.out _ HC.out).mono ?_); rintro e w1 ⟨v, rfl, hv, hb⟩; have HV := Aside0.mk hv; have HB := Aside0.mk hb; clear hv hb)
  go_ret
  exact ⟨v, rfl, HV.out, HB.out⟩
set_option maxRecDepth 100000 in
theorem only18_any (s c : ByteArray) (hp : Plain c) (w : World) :
    Calls Tryd.prog 19 #[.string s, .string c] w fun e w' => e = .returned (.bool (onlyB c s)) ∧ Below w.heap.size w w' := by
  have HP := Aside0.mk hp
  clear hp
  go_enter Tryd.func19, Tryd.ntmps19
  go_wp2_with (go_at_call 27; (with_reducible refine (func32_any w.heap.size c s HP.out _ (cellsOf (heap_new0 w _ (.cells #[.string c] 9) rfl) 0)).mono ?_); rintro e w1 ⟨v, rfl, hv, hb⟩; have HV := Aside0.mk hv; have HB := Aside0.mk (bl_on (bl_alloc (Below.refl _ _) _) hb); clear hv hb)
  go_ret
  exact ⟨by rw [← HV.out]; rfl, HB.out⟩
end Go.Proofs.YtmbdpkaplnjopaaDoor
