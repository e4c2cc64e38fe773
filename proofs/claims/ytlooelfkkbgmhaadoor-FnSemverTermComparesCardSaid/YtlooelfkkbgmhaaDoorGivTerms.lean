/-
  The laws' making of a term out of a version's first numbers, as a function with a contract.
-/
import Derived.Test.YtlooelfkkbgmhaaDoorCmp
set_option linter.unusedVariables false
set_option linter.unusedSimpArgs false
namespace Go.Proofs.YtlooelfkkbgmhaaDoor
open Go Go.RowKit Go.Proofs.YtlooelfkkbgmhaaDoorW.PrintWords Go.Proofs.YtlooelfkkbgmhaaDoorW.PrintLast

theorem stTerm_1 (op a b c k : Int) (s m : ByteArray) (w : World) (h : k ≤ 1) :
    Calls Tryd.prog 37 #[.int .i64 op, .agg #[.int .u64 a, .int .u64 b, .int .u64 c, .string s, .string m], .int .i64 k] w fun e w' => e = .returned (.agg #[.int .i64 op, .int .i64 k, .int .u64 a, .int .u64 0, .int .u64 0, .string ⟨#[]⟩]) ∧ Below w.heap.size w w' := by
  have h2 : k ≤ 2 := by omega
  go_enter Tryd.func37, Tryd.ntmps37
  go_wp2_with fail
  refine bodyPost_ret (v := .agg #[.int .i64 op, .int .i64 k, .int .u64 a, .int .u64 0, .int .u64 0, .string ⟨#[]⟩]) (by simp [results, Tryd.results37, go_sem]) rfl ⟨rfl, ?_⟩
  repeat (first | exact Below.refl _ _ | apply bl_drew | apply bl_alloc)
theorem stTerm_2 (op a b c k : Int) (s m : ByteArray) (w : World) (h1 : 1 < k) (h : k ≤ 2) :
    Calls Tryd.prog 37 #[.int .i64 op, .agg #[.int .u64 a, .int .u64 b, .int .u64 c, .string s, .string m], .int .i64 k] w fun e w' => e = .returned (.agg #[.int .i64 op, .int .i64 k, .int .u64 a, .int .u64 b, .int .u64 0, .string ⟨#[]⟩]) ∧ Below w.heap.size w w' := by
  go_enter Tryd.func37, Tryd.ntmps37
  go_wp2_with fail
  refine bodyPost_ret (v := .agg #[.int .i64 op, .int .i64 k, .int .u64 a, .int .u64 b, .int .u64 0, .string ⟨#[]⟩]) (by simp [results, Tryd.results37, go_sem]) rfl ⟨rfl, ?_⟩
  repeat (first | exact Below.refl _ _ | apply bl_drew | apply bl_alloc)
set_option maxHeartbeats 2000000 in
theorem stTerm_3 (op a b c k : Int) (s m : ByteArray) (w : World) (h : 2 < k) :
    Calls Tryd.prog 37 #[.int .i64 op, .agg #[.int .u64 a, .int .u64 b, .int .u64 c, .string s, .string m], .int .i64 k] w fun e w' => e = .returned (.agg #[.int .i64 op, .int .i64 k, .int .u64 a, .int .u64 b, .int .u64 c, .string s]) ∧ Below w.heap.size w w' := by
  have h1 : 1 < k := by omega
  go_enter Tryd.func37, Tryd.ntmps37
  go_wp2_with fail
  first | go_region_held3 (fun W => W.cell? ⟨w.heap.size, 0, none⟩ = some (.int .u64 a) ∧ W.cell? ⟨w.heap.size, 1, none⟩ = some (.int .u64 b) ∧ W.cell? ⟨w.heap.size, 2, none⟩ = some (.int .u64 c) ∧ W.cell? ⟨w.heap.size, 3, none⟩ = some (.string s)) (first | (go_simp; done) | go_keep) (first | fail) | fail
  all_goals go_wp2_with fail
  all_goals refine bodyPost_ret (v := .agg #[.int .i64 op, .int .i64 k, .int .u64 a, .int .u64 b, .int .u64 c, .string s]) (by simp [results, Tryd.results37, go_sem]) rfl ⟨rfl, ?_⟩
  all_goals repeat (first | exact Below.refl _ _ | apply bl_drew | apply bl_alloc)

def laws_stTerm.f (op a b c : Int) (s m : ByteArray) (k : Int) : Option (Int × Int × Int × Int × Int × ByteArray) :=
  some (op, k, a, if 1 < k then b else 0, if 2 < k then c else 0, if 2 < k then s else ⟨#[]⟩)
theorem laws_stTerm.calls (op a b c : Int) (s m : ByteArray) (k r1 r2 r3 r4 r5 : Int) (r6 : ByteArray) (w : World) (h : laws_stTerm.f op a b c s m k = some (r1, r2, r3, r4, r5, r6)) :
    Calls Tryd.prog 37 #[.int .i64 op, .agg #[.int .u64 a, .int .u64 b, .int .u64 c, .string s, .string m], .int .i64 k] w fun e w' => e = .returned (.agg #[.int .i64 r1, .int .i64 r2, .int .u64 r3, .int .u64 r4, .int .u64 r5, .string r6]) ∧ Below w.heap.size w w' := by
  unfold laws_stTerm.f at h
  simp only [Option.some.injEq, Prod.mk.injEq] at h
  obtain ⟨rfl, rfl, rfl, rfl, rfl, rfl⟩ := h
  by_cases h1 : 1 < k
  · by_cases h2 : 2 < k
    · rw [if_pos h1, if_pos h2, if_pos h2]; exact stTerm_3 op a b c k s m w h2
    · rw [if_pos h1, if_neg h2, if_neg h2]; exact stTerm_2 op a b c k s m w h1 (by omega)
  · rw [if_neg h1, if_neg (by omega), if_neg (by omega)]; exact stTerm_1 op a b c k s m w (by omega)
end Go.Proofs.YtlooelfkkbgmhaaDoor
