/-
  Words of mine for rows: an argument's reading (DataW.trod) opened to the print's kinds (Kd), whatever the nesting. Plain: over any program.
-/
import Derived.Test.YtmbdpkaplnjopaaDoorWWords
import Derived.Deep.Slices
import Derived.Deep.Fields
import Derived.ChangeSame
import Derived.ChangeArms
import Derived.DataReads
import Derived.OpenShut
import Derived.Carry
namespace Go.Proofs.YtmbdpkaplnjopaaDoorW.PrintWords
open Go Go.RowKit Go.ChangeShapes Go.WideShapes Go.Deep

/-- what reads as a datum of type t reads as a value of kind d, with a property -/
def Opens {α : Type} (P : Program) (w : World) (d : Kd α) (t : TypeId) (wf : α → Prop) : Prop :=
  ∀ {H : Type} {enc : TypeId × Value → H} {base : Nat} {spare : Nat → Bool} {held : Bool} {fuel : Nat} {cs : List Value} {x : DataW H × List MemPlace},
    DataW.trod enc P w base spare held fuel t cs = some x → ∃ a, d.K w a cs ∧ wf a

theorem opens_int {P : Program} {w : World} {t : TypeId} {k : IntKind} (ht : P.underlying t = some (.int k)) : Opens P w (Kd.int k) t (fun a => (Lit.int k a).wf = true) := by
  intro H enc base spare held fuel cs x h
  obtain ⟨n, rfl, _, hw⟩ := DataW.trod_int ht h
  exact ⟨n, rfl, hw⟩

theorem opens_bool {P : Program} {w : World} {t : TypeId} (ht : P.underlying t = some .bool) : Opens P w Kd.bool t (fun _ => True) := by
  intro H enc base spare held fuel cs x h
  obtain ⟨n, rfl, _⟩ := DataW.trod_bool ht h
  exact ⟨n, rfl, trivial⟩

theorem opens_str {P : Program} {w : World} {t : TypeId} (ht : P.underlying t = some .string) : Opens P w Kd.string t (fun a => a.size ≤ maxLen) := by
  intro H enc base spare held fuel cs x h
  obtain ⟨s, rfl, _, hs⟩ := DataW.trod_string ht h
  exact ⟨s, rfl, hs⟩

theorem choose_list {α : Type} {n : Nat} {p : Nat → α → Prop} (h : ∀ i, i < n → ∃ y, p i y) : ∃ xs : List α, xs.length = n ∧ ∀ j y, xs[j]? = some y → p j y := by
  induction n with
  | zero => exact ⟨[], rfl, by simp⟩
  | succ n ih =>
    obtain ⟨xs, hl, hx⟩ := ih (fun i hi => h i (by omega))
    obtain ⟨y, hy⟩ := h n (by omega)
    refine ⟨xs ++ [y], by simp [hl], fun j z hz => ?_⟩
    by_cases hj : j < n
    · rw [List.getElem?_append_left (by omega)] at hz
      exact hx j z hz
    · have : j = n := by
        have := (List.getElem?_eq_some_iff.1 hz).1
        simp at this
        omega
      subst this
      rw [List.getElem?_append_right (by omega), hl] at hz
      simp at hz
      rw [← hz]
      exact hy

theorem opens_slice {α : Type} {P : Program} {w : World} {t e : TypeId} {d : Kd α} {wf : α → Prop} (ht : P.underlying t = some (.slice e)) (he : P.cellsOf e = d.sz) (ho : Opens P w d e wf) :
    Opens P w (Kd.slice e d) t (fun l => l.length ≤ maxLen ∧ ∀ a ∈ l, wf a) := by
  intro H enc base spare held fuel cs x h
  rcases open_slice ht h with ⟨rfl, _⟩ | ⟨a, len, cap, m, n, D, Pl, rfl, _, hl, hm, hmm, _, hi⟩
  · exact ⟨[], ⟨none, 0, rfl, Nat.le_refl _, rfl, by simp, fun h => absurd h (by simp)⟩, by simp [maxLen], by simp⟩
  · have key : ∀ i, i < len → ∃ y : α, (∃ c : List Value, c.length = d.sz ∧ d.K w y c ∧ ∀ j u, c[j]? = some u → w.cell? (a.add (i * d.sz + j)) = some u) ∧ wf y := by
      intro i hil
      obtain ⟨cs', hc, hr⟩ := hi i (by rw [hmm]; split <;> omega)
      obtain ⟨y, hk, hw⟩ := ho hr
      obtain ⟨_, hcl, hcell⟩ := World.cells?_some hc
      rw [he] at hcl hcell
      refine ⟨y, ⟨cs', hcl, hk, fun j u hu => ?_⟩, hw⟩
      have hj : j < d.sz := by rw [← hcl]; exact (List.getElem?_eq_some_iff.1 hu).1
      have := hcell j hj
      rw [hu, Go.Deep.add_add] at this
      exact this
    obtain ⟨xs, hlen, hget⟩ := choose_list key
    refine ⟨xs, ⟨some a, cap, by rw [hlen], by rw [hlen]; exact hl, rfl, ?_, fun _ => ⟨a, rfl, fun j p hp => (hget j p hp).1⟩⟩, ?_, ?_⟩
    · rw [hlen]; unfold maxLen at hm; omega
    · rw [hlen]; omega
    · intro p hp
      obtain ⟨j, hj⟩ := List.getElem?_of_mem hp
      exact (hget j p hj).2

theorem len_cons {α : Type} {l : List α} {n : Nat} (h : l.length = n + 1) : ∃ a t, l = a :: t ∧ t.length = n := by
  cases l with
  | nil => cases h
  | cons a t => exact ⟨a, t, rfl, by simpa using h⟩
theorem len_nil {α : Type} {l : List α} (h : l.length = 0) : l = [] := List.eq_nil_of_length_eq_zero h
end Go.Proofs.YtmbdpkaplnjopaaDoorW.PrintWords
