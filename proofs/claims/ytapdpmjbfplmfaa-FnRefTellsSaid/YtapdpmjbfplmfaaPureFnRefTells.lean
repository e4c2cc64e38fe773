/-
  A reference of any four parts (up to 65536 bytes; no domain without a path) tells a name if it has a path; beside a name a tag and a digest if it has these; without a path a digest alone; nothing without both. No condition beyond the law's own.
-/
import Derived.Test.YtapdpmjbfplmfaaQRefx2
namespace Go.Proofs.Ytapdpmjbfplmfaa.fnRefTells
open Go.RowKit Go.Proofs.YtapdpmjbfplmfaaW.PrintWords Go.Proofs.Ytapdpmjbfplmfaa.QRef
def wf34 (x : S34) : Prop := (x.f0.size ≤ maxLen) ∧ (x.f1.size ≤ maxLen) ∧ (x.f2.size ≤ maxLen) ∧ (x.f3.size ≤ maxLen)
end Go.Proofs.Ytapdpmjbfplmfaa.fnRefTells
namespace Go.Proofs.Ytapdpmjbfplmfaa.Pure
open Go.RowKit Go.Proofs.Ytapdpmjbfplmfaa.QRef Go.Proofs.YtapdpmjbfplmfaaW.PrintWords Go.Proofs.YtapdpmjbfplmfaaW.PrintLast Go.Proofs.Ytapdpmjbfplmfaa.fnRefTells

theorem wr (n : Int) (h0 : 0 ≤ n) (h1 : n ≤ 9223372036854775807) : wrap64 n = n := IntWalk.wrap64_in n ⟨by omega, h1⟩

theorem bindf {α : Type} (f : Bool → Option α) (b : Bool) : (some b).bind f = f b := rfl

theorem both (d p t g : ByteArray) (hz : d.size + p.size ≤ 65536) (h : p.toList = [] → d.toList = []) : ∃ r, impl_RefTells.f d p t g = some r ∧ spec_RefTells.f 1 d p t g = some r := by
  unfold spec_RefTells.f impl_RefTells.f
  simp only [spec_RefTells.j0]
  rw [if_pos hz]
  have w1 : wrap64 (0 + 1) = 1 := wr _ (by omega) (by omega)
  have w2 : wrap64 (4 + 1) = 5 := wr _ (by omega) (by omega)
  have w3 : wrap64 (0 + 2) = 2 := wr _ (by omega) (by omega)
  have w4 : wrap64 (4 + 2) = 6 := wr _ (by omega) (by omega)
  have w5 : wrap64 (2 + 1) = 3 := wr _ (by omega) (by omega)
  have w6 : wrap64 (6 + 1) = 7 := wr _ (by omega) (by omega)
  have ne : ∀ s : ByteArray, ¬ s.toList = [] → ¬ s.toList.isEmpty = true := fun s h => by simpa using h
  have em : ∀ s : ByteArray, s.toList = [] → s.toList.isEmpty = true := fun s h => by simpa using h
  by_cases a : p.toList = []
  · have b := h a
    by_cases c : g.toList = []
    · rw [if_pos (em _ a), if_pos (em _ b), if_pos (em _ c), if_pos c, if_pos a]; exact ⟨_, rfl, rfl⟩
    · rw [if_pos (em _ a), if_pos (em _ b), if_neg (ne _ c), if_neg c, if_pos a]; exact ⟨_, rfl, rfl⟩
  · by_cases b : t.toList = [] <;> by_cases c : g.toList = []
    · rw [if_neg (ne _ a), if_pos (em _ b), if_pos (em _ c), if_pos c, if_neg a, if_pos b, w1]; exact ⟨_, rfl, rfl⟩
    · rw [if_neg (ne _ a), if_pos (em _ b), if_neg (ne _ c), if_neg c, if_neg a, if_pos b, w2]; exact ⟨_, rfl, rfl⟩
    · rw [if_neg (ne _ a), if_neg (ne _ b), if_pos (em _ c), if_pos c, if_neg a, if_neg b, w3, w5]; exact ⟨_, rfl, rfl⟩
    · rw [if_neg (ne _ a), if_neg (ne _ b), if_neg (ne _ c), if_neg c, if_neg a, if_neg b, w4, w6]; exact ⟨_, rfl, rfl⟩

theorem tells (d p t g : ByteArray) : ∃ k, laws_FnRefTells.f k d p t g = some true := by
  refine ⟨1, ?_⟩
  unfold laws_FnRefTells.f laws_zzFits7.f
  have no : ∀ f : Option Bool, (if false = true then f else some true) = some true := fun f => if_neg (by simp)
  by_cases h0 : (d.size : Int) > 2147483647
  · rw [if_pos h0, bindf]; exact no _
  by_cases h1 : (p.size : Int) > 2147483647
  · rw [if_neg h0, if_pos h1, bindf]; exact no _
  by_cases h2 : (t.size : Int) > 2147483647
  · rw [if_neg h0, if_neg h1, if_pos h2, bindf]; exact no _
  by_cases h3 : (g.size : Int) > 2147483647
  · rw [if_neg h0, if_neg h1, if_neg h2, if_pos h3, bindf]; exact no _
  rw [if_neg h0, if_neg h1, if_neg h2, if_neg h3, bindf, if_pos rfl]
  unfold laws_refShort.f
  rw [wr ((d.size : Int) + (p.size : Int)) (by omega) (by omega), wr ((d.size : Int) + (p.size : Int) + (t.size : Int)) (by omega) (by omega), wr ((d.size : Int) + (p.size : Int) + (t.size : Int) + (g.size : Int)) (by omega) (by omega)]
  by_cases h4 : (d.size : Int) + p.size + t.size + g.size ≤ 65536
  · rw [if_pos h4]
    have go : (p.toList = [] → d.toList = []) → ((impl_RefTells.f d p t g).bind fun t107 => (spec_RefTells.f 1 d p t g).bind fun t108 => some (t107 == t108)) = some true := by
      intro h
      obtain ⟨r, e1, e2⟩ := both d p t g (by omega) h
      rw [e1, e2]
      simp
    by_cases a : p.toList = []
    · rw [if_pos a, bindf]
      by_cases b : d.toList = []
      · rw [b, if_pos (by simp)]; exact go (fun _ => b)
      · rw [if_neg (by simpa using b)]
    · rw [if_neg a, bindf, if_pos rfl]
      exact go (fun h => absurd h a)
  · rw [if_neg h4, bindf]; exact no _

theorem FnRefTells (x0 : S34) (_w0 : wf34 x0) : ∃ k, laws_FnRefTells.f k x0.f0 x0.f1 x0.f2 x0.f3 = some true := tells _ _ _ _

end Go.Proofs.Ytapdpmjbfplmfaa.Pure
