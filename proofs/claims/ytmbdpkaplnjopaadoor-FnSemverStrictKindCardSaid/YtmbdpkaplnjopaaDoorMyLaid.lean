/-
  Many sentinels of one type on a row's list: their pointers, all different.
-/
import Derived.Stop.LaidErr
import Derived.Stop.LaidTwo
namespace Go.Proofs.YtmbdpkaplnjopaaDoor
open Go
/-- a sentinel's datum -/
def ent (nm : String) (x : String × List UInt8) : String × DataW Unit := (x.1, .iface nm (.ptr (.agg [.lit (.string x.2)])))
theorem laid_many {P : Program} {nm : String} {W : World} {ti tp te ts : TypeId} {ms : Array (String × TypeId)} {f : Field}
    (hi : P.underlying ti = some (.interface ms)) (hrow : ∀ u, P.typeName? 3 u = some nm → u = tp)
    (hp : P.underlying tp = some (.pointer te)) (he : P.underlying te = some (.struct #[f])) (hft : f.type = ts) (hfo : f.offset = 0) (hs : P.underlying ts = some .string) (hc : P.cellsOf te = 1) (hcs : P.cellsOf ts = 1) :
    ∀ (L : List (String × List UInt8)) (ps : List MemPlace), DataW.LaidVars P W (L.map (ent nm)) ps → (∀ x ∈ L, ∃ g, P.globalNamed x.1 = some g ∧ (P.globals[g]?).map (·.type) = some ti) →
      (∀ b off, MemPlace.cell b off ∈ ps → (∃ c t, W.heap[b]? = some (.cells c t (0, 0))) ∧ ∀ u v, W.cell? ⟨b, off, none⟩ = some (.iface u v) → Value.okWide P W .any 0 u v) →
      ∃ zs : List Addr, zs.length = L.length ∧ (∀ (i : Nat) (x : String × List UInt8) (a : Addr), L[i]? = some x → zs[i]? = some a → W.var? P x.1 = some #[.iface tp (.pointer (some a))]) ∧ (zs.map (fun a => MemPlace.cell a.block a.off)).Sublist ps
  | [], ps, _, _, _ => ⟨[], rfl, fun i x a h => by simp at h, by simp⟩
  | x :: L, ps, h, hg, hr => by
    obtain ⟨g0', t0', cs0, f0, p0, q0, hg0', ht0', hv0, hd0, hrest, e0⟩ := h
    obtain ⟨g0, hg0, ht0⟩ := hg x (by simp)
    obtain rfl := Option.some.inj (hg0.symm.trans hg0')
    obtain rfl := Option.some.inj (ht0.symm.trans ht0')
    subst e0
    obtain ⟨l0⟩ := cs0
    have ok0 : ∀ u v, l0 = [.iface u v] → Value.okWide P W .any 0 u v := fun u v e => by
      subst e
      exact (hr g0 0 (by simp [MemPlace.row])).2 u v (by simpa using World.var?_cell hg0' hv0 0)
    obtain ⟨a0, s0, rfl, hc0, hs0, hz0, rfl⟩ := errorString_of_trod hi hrow hp he hft hfo hs hc hcs hd0 ok0
    obtain ⟨zs, h1, h2, h3⟩ := laid_many hi hrow hp he hft hfo hs hc hcs L q0 hrest (fun y hy => hg y (by simp [hy])) (fun b off hb => hr b off (by simp [hb]))
    refine ⟨a0 :: zs, by simp [h1], fun i y a hy ha => ?_, ?_⟩
    · cases i with
      | zero =>
        obtain rfl : x = y := by simpa using hy
        obtain rfl : a0 = a := by simpa using ha
        exact hv0
      | succ i => exact h2 i y a (by simpa using hy) (by simpa using ha)
    · rw [List.map_cons, List.append_assoc]
      refine List.Sublist.trans (List.Sublist.trans ?_ (List.sublist_append_right _ _)) (List.Sublist.refl _)
      simp only [MemPlace.row, List.range_one, List.map_cons, List.map_nil, Nat.add_zero, List.cons_append, List.nil_append]
      exact List.Sublist.cons_cons _ h3
end Go.Proofs.YtmbdpkaplnjopaaDoor
