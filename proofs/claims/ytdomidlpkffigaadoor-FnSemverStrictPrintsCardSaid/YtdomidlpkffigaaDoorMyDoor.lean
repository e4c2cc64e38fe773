/-
  From what the row lists of the package-level variables to the facts that the contracts ask of the world.
-/
import Derived.Test.YtdomidlpkffigaaDoorGiv
namespace Go.Proofs.YtdomidlpkffigaaDoor
open Go Go.ChangeShapes Go.WideShapes

theorem c93 : Tryd.prog.cellsOf 93 = 1 := by kernel_rfl
theorem c9 : Tryd.prog.cellsOf 9 = 1 := by kernel_rfl
theorem c85 : Tryd.prog.cellsOf 85 = 20 := by kernel_rfl
theorem c23 : Tryd.prog.cellsOf 23 = 1 := by kernel_rfl
theorem tPow : (Tryd.prog.globals[9]?).map (·.type) = some 85 := by kernel_rfl
theorem star : "*" ++ "errors.errorString" = "*errors.errorString" := by decide
theorem row91 (u : TypeId) (h : Tryd.prog.typeName? 3 u = some "*errors.errorString") : u = 91 :=
  typeName_ptr_named (nm := "errors.errorString") (by rw [star]; kernel_rfl) (by kernel_rfl) (by decide) u (by rw [star]; exact h)
theorem sentinel {W : World} {n : String} {text : List UInt8} {r : List (String × DataW Unit)} {g : Nat} (h : laidMet Tryd.prog ((n, .iface "*errors.errorString" (.ptr (.agg [.lit (.string text)]))) :: r) W) (hg : Tryd.prog.globalNamed n = some g) (ht : (Tryd.prog.globals[g]?).map (·.type) = some 34) :
    ∃ a, W.var? Tryd.prog n = some #[.iface 91 (.pointer (some a))] := by
  obtain ⟨a, s, hv, _⟩ := laid_sentinel h hg ht Tryd.underlying34 row91 Tryd.underlying91 Tryd.underlying93 rfl rfl Tryd.underlying9 c93 c9
  exact ⟨a, hv⟩
theorem sentinel_cell {W : World} {n : String} {g : Nat} {a : Addr} (hg : Tryd.prog.globalNamed n = some g) (h : W.var? Tryd.prog n = some #[.iface 91 (.pointer (some a))]) : W.cell? ⟨g, 0, none⟩ = some (.iface 91 (.pointer (some a))) := World.var?_cell hg h 0
theorem glob3 {W : World} (h : laidMetH Tryd.prog Rows.fnSemverStrictPrintsRow.laid W) : GlobT W := by
  rw [MakeChecks.laidMetH_plain _ _ _ (by kernel_rfl)] at h
  have h2 : laidMet Tryd.prog [("internal/strconv.uint64pow10", Rows.laid_internal_strconv_uint64pow10), ("strconv.ErrRange", Rows.laid_strconv_ErrRange), ("strconv.ErrSyntax", Rows.laid_strconv_ErrSyntax), ("pub-timebook/pub/semver.ErrInvalidSemVer", Rows.laid_pub_timebook_pub_semver_ErrInvalidSemVer), ("pub-timebook/pub/semver.ErrEmptyString", Rows.laid_pub_timebook_pub_semver_ErrEmptyString), ("pub-timebook/pub/semver.ErrInvalidCharacters", Rows.laid_pub_timebook_pub_semver_ErrInvalidCharacters), ("pub-timebook/pub/semver.ErrSegmentStartsZero", Rows.laid_pub_timebook_pub_semver_ErrSegmentStartsZero), ("pub-timebook/pub/semver.ErrInvalidMetadata", Rows.laid_pub_timebook_pub_semver_ErrInvalidMetadata), ("pub-timebook/pub/semver.ErrInvalidPrerelease", Rows.laid_pub_timebook_pub_semver_ErrInvalidPrerelease), ("pub-timebook/pub/semver.ErrVersionTooLong", Rows.laid_pub_timebook_pub_semver_ErrVersionTooLong)] W := h.tail.tail
  have h3 : laidMet Tryd.prog [("strconv.ErrRange", Rows.laid_strconv_ErrRange), ("strconv.ErrSyntax", Rows.laid_strconv_ErrSyntax), ("pub-timebook/pub/semver.ErrInvalidSemVer", Rows.laid_pub_timebook_pub_semver_ErrInvalidSemVer), ("pub-timebook/pub/semver.ErrEmptyString", Rows.laid_pub_timebook_pub_semver_ErrEmptyString), ("pub-timebook/pub/semver.ErrInvalidCharacters", Rows.laid_pub_timebook_pub_semver_ErrInvalidCharacters), ("pub-timebook/pub/semver.ErrSegmentStartsZero", Rows.laid_pub_timebook_pub_semver_ErrSegmentStartsZero), ("pub-timebook/pub/semver.ErrInvalidMetadata", Rows.laid_pub_timebook_pub_semver_ErrInvalidMetadata), ("pub-timebook/pub/semver.ErrInvalidPrerelease", Rows.laid_pub_timebook_pub_semver_ErrInvalidPrerelease), ("pub-timebook/pub/semver.ErrVersionTooLong", Rows.laid_pub_timebook_pub_semver_ErrVersionTooLong)] W := h2.tail
  have h4 : laidMet Tryd.prog [("strconv.ErrSyntax", Rows.laid_strconv_ErrSyntax), ("pub-timebook/pub/semver.ErrInvalidSemVer", Rows.laid_pub_timebook_pub_semver_ErrInvalidSemVer), ("pub-timebook/pub/semver.ErrEmptyString", Rows.laid_pub_timebook_pub_semver_ErrEmptyString), ("pub-timebook/pub/semver.ErrInvalidCharacters", Rows.laid_pub_timebook_pub_semver_ErrInvalidCharacters), ("pub-timebook/pub/semver.ErrSegmentStartsZero", Rows.laid_pub_timebook_pub_semver_ErrSegmentStartsZero), ("pub-timebook/pub/semver.ErrInvalidMetadata", Rows.laid_pub_timebook_pub_semver_ErrInvalidMetadata), ("pub-timebook/pub/semver.ErrInvalidPrerelease", Rows.laid_pub_timebook_pub_semver_ErrInvalidPrerelease), ("pub-timebook/pub/semver.ErrVersionTooLong", Rows.laid_pub_timebook_pub_semver_ErrVersionTooLong)] W := h3.tail
  have h5 : laidMet Tryd.prog [("pub-timebook/pub/semver.ErrInvalidSemVer", Rows.laid_pub_timebook_pub_semver_ErrInvalidSemVer), ("pub-timebook/pub/semver.ErrEmptyString", Rows.laid_pub_timebook_pub_semver_ErrEmptyString), ("pub-timebook/pub/semver.ErrInvalidCharacters", Rows.laid_pub_timebook_pub_semver_ErrInvalidCharacters), ("pub-timebook/pub/semver.ErrSegmentStartsZero", Rows.laid_pub_timebook_pub_semver_ErrSegmentStartsZero), ("pub-timebook/pub/semver.ErrInvalidMetadata", Rows.laid_pub_timebook_pub_semver_ErrInvalidMetadata), ("pub-timebook/pub/semver.ErrInvalidPrerelease", Rows.laid_pub_timebook_pub_semver_ErrInvalidPrerelease), ("pub-timebook/pub/semver.ErrVersionTooLong", Rows.laid_pub_timebook_pub_semver_ErrVersionTooLong)] W := h4.tail
  have h6 : laidMet Tryd.prog [("pub-timebook/pub/semver.ErrEmptyString", Rows.laid_pub_timebook_pub_semver_ErrEmptyString), ("pub-timebook/pub/semver.ErrInvalidCharacters", Rows.laid_pub_timebook_pub_semver_ErrInvalidCharacters), ("pub-timebook/pub/semver.ErrSegmentStartsZero", Rows.laid_pub_timebook_pub_semver_ErrSegmentStartsZero), ("pub-timebook/pub/semver.ErrInvalidMetadata", Rows.laid_pub_timebook_pub_semver_ErrInvalidMetadata), ("pub-timebook/pub/semver.ErrInvalidPrerelease", Rows.laid_pub_timebook_pub_semver_ErrInvalidPrerelease), ("pub-timebook/pub/semver.ErrVersionTooLong", Rows.laid_pub_timebook_pub_semver_ErrVersionTooLong)] W := h5.tail
  have h7 : laidMet Tryd.prog [("pub-timebook/pub/semver.ErrInvalidCharacters", Rows.laid_pub_timebook_pub_semver_ErrInvalidCharacters), ("pub-timebook/pub/semver.ErrSegmentStartsZero", Rows.laid_pub_timebook_pub_semver_ErrSegmentStartsZero), ("pub-timebook/pub/semver.ErrInvalidMetadata", Rows.laid_pub_timebook_pub_semver_ErrInvalidMetadata), ("pub-timebook/pub/semver.ErrInvalidPrerelease", Rows.laid_pub_timebook_pub_semver_ErrInvalidPrerelease), ("pub-timebook/pub/semver.ErrVersionTooLong", Rows.laid_pub_timebook_pub_semver_ErrVersionTooLong)] W := h6.tail
  have h8 : laidMet Tryd.prog [("pub-timebook/pub/semver.ErrSegmentStartsZero", Rows.laid_pub_timebook_pub_semver_ErrSegmentStartsZero), ("pub-timebook/pub/semver.ErrInvalidMetadata", Rows.laid_pub_timebook_pub_semver_ErrInvalidMetadata), ("pub-timebook/pub/semver.ErrInvalidPrerelease", Rows.laid_pub_timebook_pub_semver_ErrInvalidPrerelease), ("pub-timebook/pub/semver.ErrVersionTooLong", Rows.laid_pub_timebook_pub_semver_ErrVersionTooLong)] W := h7.tail
  have h9 : laidMet Tryd.prog [("pub-timebook/pub/semver.ErrInvalidMetadata", Rows.laid_pub_timebook_pub_semver_ErrInvalidMetadata), ("pub-timebook/pub/semver.ErrInvalidPrerelease", Rows.laid_pub_timebook_pub_semver_ErrInvalidPrerelease), ("pub-timebook/pub/semver.ErrVersionTooLong", Rows.laid_pub_timebook_pub_semver_ErrVersionTooLong)] W := h8.tail
  have h10 : laidMet Tryd.prog [("pub-timebook/pub/semver.ErrInvalidPrerelease", Rows.laid_pub_timebook_pub_semver_ErrInvalidPrerelease), ("pub-timebook/pub/semver.ErrVersionTooLong", Rows.laid_pub_timebook_pub_semver_ErrVersionTooLong)] W := h9.tail
  have h11 : laidMet Tryd.prog [("pub-timebook/pub/semver.ErrVersionTooLong", Rows.laid_pub_timebook_pub_semver_ErrVersionTooLong)] W := h10.tail
  obtain ⟨a8, hv8⟩ := sentinel h3 gRange (by kernel_rfl)
  obtain ⟨a7, hv7⟩ := sentinel h4 gSyntax (by kernel_rfl)
  have hg2 : Tryd.prog.globalNamed "pub-timebook/pub/semver.ErrInvalidSemVer" = some 2 := by kernel_rfl
  obtain ⟨a2, hv2⟩ := sentinel h5 hg2 (by kernel_rfl)
  have hg0 : Tryd.prog.globalNamed "pub-timebook/pub/semver.ErrEmptyString" = some 0 := by kernel_rfl
  obtain ⟨a0, hv0⟩ := sentinel h6 hg0 (by kernel_rfl)
  have hg3 : Tryd.prog.globalNamed "pub-timebook/pub/semver.ErrInvalidCharacters" = some 3 := by kernel_rfl
  obtain ⟨a3, hv3⟩ := sentinel h7 hg3 (by kernel_rfl)
  have hg4 : Tryd.prog.globalNamed "pub-timebook/pub/semver.ErrSegmentStartsZero" = some 4 := by kernel_rfl
  obtain ⟨a4, hv4⟩ := sentinel h8 hg4 (by kernel_rfl)
  have hg5 : Tryd.prog.globalNamed "pub-timebook/pub/semver.ErrInvalidMetadata" = some 5 := by kernel_rfl
  obtain ⟨a5, hv5⟩ := sentinel h9 hg5 (by kernel_rfl)
  have hg6 : Tryd.prog.globalNamed "pub-timebook/pub/semver.ErrInvalidPrerelease" = some 6 := by kernel_rfl
  obtain ⟨a6, hv6⟩ := sentinel h10 hg6 (by kernel_rfl)
  have hg1 : Tryd.prog.globalNamed "pub-timebook/pub/semver.ErrVersionTooLong" = some 1 := by kernel_rfl
  obtain ⟨a1, hv1⟩ := sentinel h11 hg1 (by kernel_rfl)
  refine ⟨fun g hl => ?_, ⟨⟨_, _, hv7⟩, ⟨_, _, hv8⟩⟩, Lib.tabIs_of_head (zs := Lib.pow10Tab) (k := .u64) gPow tPow Tryd.underlying85 Tryd.underlying23 c23 c85 h2⟩
  match g, hl with
  | 0, _ => exact ⟨_, _, sentinel_cell hg0 hv0⟩
  | 1, _ => exact ⟨_, _, sentinel_cell hg1 hv1⟩
  | 2, _ => exact ⟨_, _, sentinel_cell hg2 hv2⟩
  | 3, _ => exact ⟨_, _, sentinel_cell hg3 hv3⟩
  | 4, _ => exact ⟨_, _, sentinel_cell hg4 hv4⟩
  | 5, _ => exact ⟨_, _, sentinel_cell hg5 hv5⟩
  | 6, _ => exact ⟨_, _, sentinel_cell hg6 hv6⟩
end Go.Proofs.YtdomidlpkffigaaDoor
