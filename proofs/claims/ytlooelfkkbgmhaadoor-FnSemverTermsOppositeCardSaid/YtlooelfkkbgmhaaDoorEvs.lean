/-
  Steps of what holds from some round on; the bounds of words.
-/
import Derived.Test.YtlooelfkkbgmhaaDoorTxt
namespace Go.Proofs.YtlooelfkkbgmhaaDoor
open Go Txt Go.RowKit QS Go.Proofs.YtlooelfkkbgmhaaDoorW.PrintWords Go.Proofs.YtlooelfkkbgmhaaDoorW.PrintLast
theorem Ev.ite'' {α : Type} {p : Prop} [Decidable p] {f g : Nat → Option α} {r : α} (h1 : p → Ev f r) (h2 : ¬ p → Ev g r) : Ev (fun k => if p then f k else g k) r := by
  by_cases h : p
  · exact Ev.congr (fun k => if_pos h) (h1 h)
  · exact Ev.congr (fun k => if_neg h) (h2 h)
theorem Ev.succ'' {α : Type} {g : Nat → Option α} {r : α} (h : Ev (fun k => g (k + 1)) r) : Ev g r := Ev.step (fun _ => rfl) h
theorem Ev.some'' {α : Type} {f : Nat → Option α} {r : α} (h : Ev f r) : Ev (fun k => (f k).bind fun t => some t) r := Ev.bind h (Ev.now _)
theorem wf_u64 {a : Int} (h : (Lit.int .u64 a).wf = true) : 0 ≤ a ∧ a < 18446744073709551616 := by
  simp [Lit.wf, IntKind.min, IntKind.max, IntKind.bits, IntKind.signed] at h
  omega
theorem wf_i64 {a : Int} (h : (Lit.int .i64 a).wf = true) : -9223372036854775808 ≤ a ∧ a < 9223372036854775808 := by
  simp [Lit.wf, IntKind.min, IntKind.max, IntKind.bits, IntKind.signed] at h
  omega
theorem u64_wrap {a : Int} (h0 : 0 ≤ a) (h1 : a < 18446744073709551616) : IntKind.u64.wrap a = a := by
  rw [IntKind.wrap_u64]
  omega
theorem ev_good1 (x : S24) (h : x.f3.size ≤ 2147483647 ∧ x.f4.size ≤ 2147483647) : Ev (fun k => laws_svGood.f k [x]) (goodB x) := by
  have hg := ev_svGood [x] (by intro y hy; rcases List.mem_cons.1 hy with rfl | hy; exact h; cases hy) (by simp)
  simpa using hg
end Go.Proofs.YtlooelfkkbgmhaaDoor
