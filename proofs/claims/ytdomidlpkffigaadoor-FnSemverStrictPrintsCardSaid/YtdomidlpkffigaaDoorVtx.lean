/-
  VersionText, walked.
-/
import Derived.Test.YtdomidlpkffigaaDoorTxt
set_option linter.unusedVariables false
set_option linter.unusedSimpArgs false
namespace Go.Proofs.YtdomidlpkffigaaDoor
open Go Go.RowKit Go.Proofs.YtdomidlpkffigaaDoorW.PrintWords Go.Proofs.YtdomidlpkffigaaDoorW.PrintLast Go.Proofs.YtdomidlpkffigaaDoor.Gram

/-- the text of a version -/
def textV (u0 u1 u2 : Nat) (pre mt : ByteArray) : ByteArray :=
  if (pre.toList == []) = true then
    (if (mt.toList == []) = true then mkB (Lib.decDigits u0) ++ ⟨#[46]⟩ ++ mkB (Lib.decDigits u1) ++ ⟨#[46]⟩ ++ mkB (Lib.decDigits u2) else mkB (Lib.decDigits u0) ++ ⟨#[46]⟩ ++ mkB (Lib.decDigits u1) ++ ⟨#[46]⟩ ++ mkB (Lib.decDigits u2) ++ (⟨#[43]⟩ ++ mt))
  else
    (if (mt.toList == []) = true then mkB (Lib.decDigits u0) ++ ⟨#[46]⟩ ++ mkB (Lib.decDigits u1) ++ ⟨#[46]⟩ ++ mkB (Lib.decDigits u2) ++ (⟨#[45]⟩ ++ pre) else mkB (Lib.decDigits u0) ++ ⟨#[46]⟩ ++ mkB (Lib.decDigits u1) ++ ⟨#[46]⟩ ++ mkB (Lib.decDigits u2) ++ (⟨#[45]⟩ ++ pre) ++ (⟨#[43]⟩ ++ mt))
theorem text12 (u0 u1 u2 : Nat) (pre mt o : ByteArray) (h0 : u0 < 18446744073709551616) (h1 : u1 < 18446744073709551616) (h2 : u2 < 18446744073709551616) (hs : pre.size + mt.size ≤ 100000) (w : World) (hT : GlobP w) :
    Calls Tryd.prog 12 #[.agg #[.int .u64 u0, .int .u64 u1, .int .u64 u2, .string pre, .string mt, .string o]] w fun e w' => e = .returned (.string (textV u0 u1 u2 pre mt)) ∧ Below w.heap.size w w' := by
  unfold textV
  cases hp : (pre.toList == [])
  · rw [if_neg Bool.false_ne_true]
    cases hm : (mt.toList == [])
    · rw [if_neg Bool.false_ne_true]; exact text12_11 u0 u1 u2 pre mt o h0 h1 h2 hs hp hm w hT
    · rw [if_pos rfl]; exact text12_10 u0 u1 u2 pre mt o h0 h1 h2 hs hp hm w hT
  · rw [if_pos rfl]
    cases hm : (mt.toList == [])
    · rw [if_neg Bool.false_ne_true]; exact text12_01 u0 u1 u2 pre mt o h0 h1 h2 hs hp hm w hT
    · rw [if_pos rfl]; exact text12_00 u0 u1 u2 pre mt o h0 h1 h2 hs hp hm w hT
set_option maxHeartbeats 4000000 in
set_option maxRecDepth 100000 in
theorem zz23 (n0 n1 n2 : Int) (pre mt : ByteArray) (w : World) :
    Calls Tryd.prog 23 #[.int .u64 n0, .int .u64 n1, .int .u64 n2, .string pre, .string mt] w fun e w' => e = .returned (.pointer (some ⟨w.heap.size, 0, none⟩)) ∧ w' = w.alloc (.cells #[.int .u64 n0, .int .u64 n1, .int .u64 n2, .string pre, .string mt, .string ⟨#[]⟩] 42) := by
  go_enter Tryd.func23, Tryd.ntmps23
  go_wp2
  go_ret
  exact ⟨rfl, rfl⟩
set_option maxHeartbeats 4000000 in
set_option maxRecDepth 100000 in
theorem ver11 (n0 n1 n2 : Int) (pre mt : ByteArray) (w : World) :
    Calls Tryd.prog 11 #[.agg #[.int .u64 n0, .int .u64 n1, .int .u64 n2, .string pre, .string mt]] w fun e w' => ∃ V : Nat, e = .returned (.pointer (some ⟨V, 0, none⟩)) ∧ w'.heap[V]? = some (.cells #[.int .u64 n0, .int .u64 n1, .int .u64 n2, .string pre, .string mt, .string ⟨#[]⟩] 42 (0, 0)) ∧ Below w.heap.size w w' := by
  go_enter Tryd.func11, Tryd.ntmps11
  go_wp2_with (go_at_call 23; (with_reducible refine (zz23 n0 n1 n2 pre mt _).mono ?_); rintro e w1 ⟨rfl, hw⟩; have HW := Lib.hid hw; clear hw)
  go_ret
  exact ⟨_, rfl, by rw [HW.out]; exact heap_new0 _ _ _ (by simp), by rw [HW.out]; exact bl_alloc (bl_alloc (Below.refl _ _) _) _⟩
set_option maxHeartbeats 4000000 in
set_option maxRecDepth 100000 in
theorem text7 (u0 u1 u2 : Nat) (pre mt : ByteArray) (h0 : u0 < 18446744073709551616) (h1 : u1 < 18446744073709551616) (h2 : u2 < 18446744073709551616) (hs : pre.size + mt.size ≤ 100000) (w : World) (hT : GlobP w) :
    Calls Tryd.prog 7 #[.agg #[.int .u64 u0, .int .u64 u1, .int .u64 u2, .string pre, .string mt]] w fun e w' => e = .returned (.string (textV u0 u1 u2 pre mt)) ∧ Below w.heap.size w w' := by
  have H := Aside0.mk (And.intro h0 (And.intro h1 (And.intro h2 hs)))
  have HB0 := Aside0.mk (bl_alloc (Below.refl w.heap.size w) (.cells #[.int .u64 u0, .int .u64 u1, .int .u64 u2, .string pre, .string mt] 25))
  have HT := Aside0.mk (globP_below hT HB0.out)
  clear h0 h1 h2 hs hT
  go_enter Tryd.func7, Tryd.ntmps7
  go_wp2_with (first
    | (go_at_call 11; (with_reducible refine (ver11 u0 u1 u2 pre mt _).mono ?_); rintro e w1 ⟨V, rfl, hv, hb⟩; have HT1 := Aside0.mk (globP_below HT.out hb); have HB1 := Aside0.mk (bl_on HB0.out hb); have y0 : w1.cell? ⟨V, 0, none⟩ = some (.int .u64 u0) := cellsOf hv 0; have y1 : w1.cell? ⟨V, 1, none⟩ = some (.int .u64 u1) := cellsOf hv 1; have y2 : w1.cell? ⟨V, 2, none⟩ = some (.int .u64 u2) := cellsOf hv 2; have y3 : w1.cell? ⟨V, 3, none⟩ = some (.string pre) := cellsOf hv 3; have y4 : w1.cell? ⟨V, 4, none⟩ = some (.string mt) := cellsOf hv 4; have y5 : w1.cell? ⟨V, 5, none⟩ = some (.string ⟨#[]⟩) := cellsOf hv 5; clear hb hv)
    | (go_at_call 12; (with_reducible refine (text12 u0 u1 u2 pre mt ⟨#[]⟩ H.out.1 H.out.2.1 H.out.2.2.1 H.out.2.2.2 _ HT1.out).mono ?_); rintro e w2 ⟨rfl, hb⟩; have HB2 := Aside0.mk (bl_on HB1.out hb); clear hb))
  go_ret
  exact ⟨rfl, HB2.out⟩
end Go.Proofs.YtdomidlpkffigaaDoor
