/-
  From what the row lists of the package-level variables to the facts that the walks ask of the world.
-/
import Derived.Test.YtmbdpkaplnjopaaDoorRows
import Derived.Test.YtmbdpkaplnjopaaDoorKnd
import Derived.Test.YtmbdpkaplnjopaaDoorMyLaid
import Derived.MakeChecks
import Derived.Handy
namespace Go.Proofs.YtmbdpkaplnjopaaDoor
open Go Go.ChangeShapes Go.WideShapes
theorem c88 : Tryd.prog.cellsOf 88 = 1 := by kernel_rfl
theorem c9 : Tryd.prog.cellsOf 9 = 1 := by kernel_rfl
theorem star : "*" ++ "errors.errorString" = "*errors.errorString" := by decide
theorem row86 (u : TypeId) (h : Tryd.prog.typeName? 3 u = some "*errors.errorString") : u = 86 :=
  typeName_ptr_named (nm := "errors.errorString") (by rw [star]; kernel_rfl) (by kernel_rfl) (by decide) u (by rw [star]; exact h)
/-- the text of a sentinel's datum -/
def txt : DataW Unit → List UInt8
  | .iface _ (.ptr (.agg [.lit (.string s)])) => s
  | _ => []
def lst : List (String × List UInt8) := [("strconv.ErrRange", txt Rows.laid_strconv_ErrRange), ("strconv.ErrSyntax", txt Rows.laid_strconv_ErrSyntax), ("pub-timebook/pub/semver.ErrConstraintTooLong", txt Rows.laid_pub_timebook_pub_semver_ErrConstraintTooLong), ("pub-timebook/pub/semver.ErrTooManyConstraintGroups", txt Rows.laid_pub_timebook_pub_semver_ErrTooManyConstraintGroups), ("pub-timebook/pub/semver.ErrInvalidSemVer", txt Rows.laid_pub_timebook_pub_semver_ErrInvalidSemVer), ("pub-timebook/pub/semver.ErrEmptyString", txt Rows.laid_pub_timebook_pub_semver_ErrEmptyString), ("pub-timebook/pub/semver.ErrInvalidCharacters", txt Rows.laid_pub_timebook_pub_semver_ErrInvalidCharacters), ("pub-timebook/pub/semver.ErrSegmentStartsZero", txt Rows.laid_pub_timebook_pub_semver_ErrSegmentStartsZero), ("pub-timebook/pub/semver.ErrInvalidMetadata", txt Rows.laid_pub_timebook_pub_semver_ErrInvalidMetadata), ("pub-timebook/pub/semver.ErrInvalidPrerelease", txt Rows.laid_pub_timebook_pub_semver_ErrInvalidPrerelease), ("pub-timebook/pub/semver.ErrVersionTooLong", txt Rows.laid_pub_timebook_pub_semver_ErrVersionTooLong)]
/-- where on that list the g-th sentinel stands -/
def pos : Nat → Nat
  | 0 => 5 | 1 => 10 | 2 => 4 | 3 => 6 | 4 => 7 | 5 => 9 | 6 => 8 | 7 => 2 | 8 => 3 | 9 => 1 | _ => 0
theorem pos_inj : ∀ g, g < 11 → ∀ h, h < 11 → g ≠ h → pos g ≠ pos h := by decide
theorem pos_lt (g : Nat) : pos g < 11 := by unfold pos; split <;> decide
theorem glob3 {W : World} (h : laidMetH Tryd.prog Rows.fnSemverStrictKindRow.laid W) : ∃ E, GlobS E W ∧ GlobE E W ∧ Apart E W := by
  have h0 : laidMet Tryd.prog Rows.fnSemverStrictKindRow.laid W := by rw [← MakeChecks.laidMetH_plain _ _ _ (by kernel_rfl)]; exact h
  have h1 : laidMet Tryd.prog (lst.map (ent "*errors.errorString")) W := laidMet.tail (laidMet.tail (laidMet.tail h0))
  obtain ⟨ps, hv, hnd, hr⟩ := h1
  have hg : ∀ x ∈ lst, ∃ g, Tryd.prog.globalNamed x.1 = some g ∧ (Tryd.prog.globals[g]?).map (·.type) = some 28 := by
    intro x hx
    simp only [lst, List.mem_cons, List.not_mem_nil, or_false] at hx
    rcases hx with rfl | rfl | rfl | rfl | rfl | rfl | rfl | rfl | rfl | rfl | rfl
    · exact ⟨10, by kernel_rfl, by kernel_rfl⟩
    · exact ⟨9, by kernel_rfl, by kernel_rfl⟩
    · exact ⟨7, by kernel_rfl, by kernel_rfl⟩
    · exact ⟨8, by kernel_rfl, by kernel_rfl⟩
    · exact ⟨2, by kernel_rfl, by kernel_rfl⟩
    · exact ⟨0, by kernel_rfl, by kernel_rfl⟩
    · exact ⟨3, by kernel_rfl, by kernel_rfl⟩
    · exact ⟨4, by kernel_rfl, by kernel_rfl⟩
    · exact ⟨6, by kernel_rfl, by kernel_rfl⟩
    · exact ⟨5, by kernel_rfl, by kernel_rfl⟩
    · exact ⟨1, by kernel_rfl, by kernel_rfl⟩
  obtain ⟨zs, hlen, hvar, hsub⟩ := laid_many Tryd.underlying28 row86 Tryd.underlying86 Tryd.underlying88 rfl rfl Tryd.underlying9 c88 c9 lst ps hv hg hr
  have hl11 : zs.length = 11 := hlen
  have hnda := hsub.nodup hnd
  obtain ⟨E, hE⟩ : ∃ E : Nat → Addr, ∀ g, zs[pos g]? = some (E g) := ⟨fun g => zs[pos g]'(by rw [hl11]; exact pos_lt g), fun g => List.getElem?_eq_getElem _⟩
  have vn : ∀ (g : Nat) (x : String × List UInt8), lst[pos g]? = some x → W.var? Tryd.prog x.1 = some #[.iface 86 (.pointer (some (E g)))] := fun g x hx => hvar (pos g) x (E g) hx (hE g)
  have vc : ∀ (g k : Nat) (x : String × List UInt8), lst[pos g]? = some x → Tryd.prog.globalNamed x.1 = some k → W.cell? ⟨k, 0, none⟩ = some (.iface 86 (.pointer (some (E g)))) := fun g k x hx hk => World.var?_cell hk (vn g x hx) 0
  refine ⟨E, fun g hg9 => ?_, ⟨vn 9 _ rfl, vn 10 _ rfl⟩, fun g h hg11 hh11 hne he => ?_, fun g hg11 => ?_⟩
  · match g, hg9 with
    | 0, _ => exact vc 0 0 _ rfl (by kernel_rfl)
    | 1, _ => exact vc 1 1 _ rfl (by kernel_rfl)
    | 2, _ => exact vc 2 2 _ rfl (by kernel_rfl)
    | 3, _ => exact vc 3 3 _ rfl (by kernel_rfl)
    | 4, _ => exact vc 4 4 _ rfl (by kernel_rfl)
    | 5, _ => exact vc 5 5 _ rfl (by kernel_rfl)
    | 6, _ => exact vc 6 6 _ rfl (by kernel_rfl)
    | 7, _ => exact vc 7 7 _ rfl (by kernel_rfl)
    | 8, _ => exact vc 8 8 _ rfl (by kernel_rfl)
  · have hp := pos_inj g hg11 h hh11 hne
    have e1 := hE g
    have e2 := hE h
    rw [he] at e1
    have l1 : pos g < zs.length := by rw [hl11]; exact pos_lt g
    have l2 : pos h < zs.length := by rw [hl11]; exact pos_lt h
    rw [List.getElem?_eq_getElem l1] at e1
    rw [List.getElem?_eq_getElem l2] at e2
    have e3 := (Option.some.inj e1).trans (Option.some.inj e2).symm
    have hpw := List.pairwise_iff_getElem.1 hnda
    rcases Nat.lt_or_gt_of_ne hp with hlt | hlt
    · refine hpw (pos g) (pos h) (by rw [List.length_map]; exact l1) (by rw [List.length_map]; exact l2) hlt ?_
      rw [List.getElem_map, List.getElem_map, e3]
    · refine hpw (pos h) (pos g) (by rw [List.length_map]; exact l2) (by rw [List.length_map]; exact l1) hlt ?_
      rw [List.getElem_map, List.getElem_map, e3]
  · have hm : MemPlace.cell (E g).block (E g).off ∈ ps := by
      refine hsub.subset ?_
      rw [List.mem_map]
      exact ⟨E g, List.mem_of_getElem? (hE g), rfl⟩
    exact (hr _ _ hm).1
end Go.Proofs.YtmbdpkaplnjopaaDoor
