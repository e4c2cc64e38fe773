/-
  The specification's kind of a text that is read strictly, walked.
-/
import Derived.Test.YtmbdpkaplnjopaaDoorSeq
import Derived.Test.YtmbdpkaplnjopaaDoorQGx4
set_option linter.unusedVariables false
set_option linter.unusedSimpArgs false
namespace Go.Proofs.YtmbdpkaplnjopaaDoor
open Go Go.RowKit Go.Proofs.YtmbdpkaplnjopaaDoorW.PrintWords Go.Proofs.YtmbdpkaplnjopaaDoorW.PrintLast Go.Proofs.YtmbdpkaplnjopaaDoor.Gram Go.Proofs.YtmbdpkaplnjopaaDoor.QG
theorem heap_on {w w' : World} {q : Nat} {o : Obj} (hb : Below w.heap.size w w') (h : w.heap[q]? = some o) : w'.heap[q]? = some o :=
  (hb.block _ (Array.getElem?_eq_some_iff.1 h).1).trans h
theorem cut_calls (s : ByteArray) (c : UInt8) (n : Int) (hc : n = (c.toNat : Int)) (a b : ByteArray) (x : Bool) (hn : s.size ≤ 65536) (h : cutR c s = (a, b, x)) (w : World) : Calls Tryd.prog 10 #[.string s, .int .u8 n] w fun e w' => e = .returned (.tuple #[.string a, .string b, .bool x]) ∧ Drawn0 w w' :=
  by
  subst hc
  exact spec_cutAt.calls 100000 s (c.toNat : Int) a b x w (by rw [cutAt_ok s c (by omega) 100000 (by omega), h])
theorem cutR_le {s a b : ByteArray} {c : UInt8} {x : Bool} (h : cutR c s = (a, b, x)) : a.size ≤ s.size ∧ b.size ≤ s.size := by
  unfold cutR at h
  split at h
  · rename_i p q hc
    injection h with h1 h2
    injection h2 with h3 h4
    have h5 := (cut_some.1 hc).1
    have h6 := congrArg List.length h5
    rw [L_len, List.length_append, List.length_cons] at h6
    rw [← h1, ← h3, mk_size, mk_size]
    omega
  · injection h with h1 h2
    injection h2 with h3 h4
    rw [← h1, ← h3]
    exact ⟨Nat.le_refl _, Nat.zero_le _⟩
set_option maxHeartbeats 8000000 in
set_option maxRecDepth 100000 in
theorem dotted9 (s a r b c : ByteArray) (one two : Bool) (hn : s.size ≤ 65536) (h1 : cutR 46 s = (a, r, one)) (h2 : cutR 46 r = (b, c, two)) (w : World) :
    Calls Tryd.prog 9 #[.string s] w fun e w' => e = .returned (.tuple #[.agg #[.string a, .string b, .string c], .bool (one && two)]) ∧ Below w.heap.size w w' := by
  have H1 := Aside0.mk (fun w => cut_calls s 46 46 rfl a r one hn h1 w)
  have H2 := Aside0.mk (fun w => cut_calls r 46 46 rfl b c two (Nat.le_trans (cutR_le h1).2 hn) h2 w)
  clear h1 h2
  go_enter Tryd.func9, Tryd.ntmps9
  cases one <;> (
    go_wp2_with (first
      | (go_at_call 10; (with_reducible refine (H1.out _).mono ?_); rintro e w2 ⟨rfl, hd⟩; have HR := Aside0.mk (heap_on hd.below (heap_new0 w w.heap.size (.cells #[.string ⟨#[]⟩, .string ⟨#[]⟩, .string ⟨#[]⟩] 32) rfl)); have HB := Aside0.mk (bl_on (bl_alloc (Below.refl _ _) _) hd.below); clear hd)
      | (go_at_call 10; (with_reducible refine (H2.out _).mono ?_); rintro e w3 ⟨rfl, hd⟩; have HR2 := Aside0.mk (heap_on hd.below HR.out); have HB2 := Aside0.mk (bl_on HB.out hd.below); have z0 : w3.cell? ⟨w.heap.size, 0, none⟩ = some (.string ⟨#[]⟩) := cellsOf HR2.out 0; have z1 : w3.cell? ⟨w.heap.size, 1, none⟩ = some (.string ⟨#[]⟩) := cellsOf HR2.out 1; have z2 : w3.cell? ⟨w.heap.size, 2, none⟩ = some (.string ⟨#[]⟩) := cellsOf HR2.out 2; have f0 := frozenOf HR2.out 0; have f1 := frozenOf HR2.out 1; have f2 := frozenOf HR2.out 2; clear hd)
      | go_in)
    refine bodyPost_ret (v := .tuple #[.agg #[.string a, .string b, .string c], .bool _]) (by simp [results, Tryd.results9, go_sem, z0, z1, z2, f0, f1, f2]) rfl ⟨rfl, bl_set (bl_set (bl_set HB2.out (Nat.le_refl _) _) (Nat.le_refl _) _) (Nat.le_refl _) _⟩)
/-- what the loops over the three numbers give -/
def okN (t : ByteArray) : Bool := (endR (Lib.parseUintB 64 (L t))).2
def sK (a b n : ByteArray) : Int := if nkV a ≠ 0 then nkV a else if nkV b ≠ 0 then nkV b else if nkV n ≠ 0 then nkV n else if (okN a && (okN b && okN n)) = true then 0 else 10
theorem num_calls (t : ByteArray) (hn : t.size ≤ 65536) (w : World) : Calls Tryd.prog 14 #[.string t] w fun e w' => e = .returned (.tuple #[.int .u64 (endR (Lib.parseUintB 64 (L t))).1, .bool (okN t)]) ∧ Drawn0 w w' :=
  spec_Number.calls 100000 t _ _ w (by rw [num_ok t (by omega) 100000 (by omega)]; rfl)
theorem nk_calls (t : ByteArray) (hn : t.size ≤ 65536) (w : World) : Calls Tryd.prog 13 #[.string t] w fun e w' => e = .returned (.int .i64 (nkV t)) ∧ Drawn0 w w' :=
  spec_NumberKind.calls 100000 t _ w (nk_ok t (by omega) 100000 (by omega))
theorem pk_calls (t : ByteArray) (hn : t.size ≤ 1000) (w : World) : Calls Tryd.prog 12 #[.string t] w fun e w' => e = .returned (.int .i64 ((kPre ((dots (L t)).map mkB) : Nat) : Int)) ∧ Below w.heap.size w w' :=
  spec_PreKind.calls 100000 t _ w (by
    have h := pk_ok (L t) (by rw [L_len]; exact hn) 100000 (by decide)
    exact h)
theorem vm_calls (t : ByteArray) (hn : t.size ≤ 1000) (w : World) : Calls Tryd.prog 11 #[.string t] w fun e w' => e = .returned (.bool (okMeta (L t))) ∧ Below w.heap.size w w' :=
  spec_ValidMeta.calls 100000 t _ w (by
    have h := vm_ok (L t) (by rw [L_len]; exact hn) 100000 (by decide)
    exact h)
set_option maxHeartbeats 16000000 in
set_option maxRecDepth 100000 in
/-- the ends ahead of the tails -/
theorem kind6_early (s a b c : ByteArray) (two : Bool) (v : Int) (hD : ∀ w, Calls Tryd.prog 9 #[.string s] w fun e w' => e = .returned (.tuple #[.agg #[.string a, .string b, .string c], .bool two]) ∧ Below w.heap.size w w')
    (h : ((s.toList == []) = true ∧ v = 1) ∨ ((s.toList == []) = false ∧ decide (256 < (s.size : Int)) = true ∧ v = 2) ∨ ((s.toList == []) = false ∧ decide (256 < (s.size : Int)) = false ∧ two = false ∧ v = 7)) (w : World) :
    Calls Tryd.prog 6 #[.string s] w fun e w' => e = .returned (.int .i64 v) ∧ Below w.heap.size w w' := by
  have HD := Aside0.mk hD
  clear hD
  rcases h with ⟨h1, rfl⟩ | ⟨h1, h2, rfl⟩ | ⟨h1, h2, rfl, rfl⟩ <;> (
    have h1' : s.toList.isEmpty = _ := (List.beq_nil_eq.symm.trans h1 : s.toList.isEmpty = _)
    go_enter Tryd.func6, Tryd.ntmps6
    go_wp2_with (first
      | (go_at_call 9; (with_reducible refine (HD.out _).mono ?_); rintro e w2 ⟨rfl, hb⟩; have HB := Aside0.mk hb; clear hb)
      | go_in)
    go_ret
    exact ⟨rfl, bl_alloc HB.out _⟩)
end Go.Proofs.YtmbdpkaplnjopaaDoor
