/-
  An array of three whole numbers, opened: what a row's parameter of type [3]int is.
-/
import Derived.Test.YtlbcgknjliihjaaDoorMyRow
import Derived.ChangeMaps
namespace Go.Proofs.YtlbcgknjliihjaaDoorW.PrintWords
open Go Go.RowKit Go.ChangeShapes Go.WideShapes Go.Deep

theorem open_arr3 {H : Type} {enc : TypeId × Value → H} {P : Program} {w : World} {base : Nat} {spare : Nat → Bool} {held : Bool} {t e : TypeId} (ht : P.underlying t = some (.array 3 e)) (he : P.underlying e = some (.int .i64)) (hc : P.cellsOf e = 1) (hct : P.cellsOf t = 3) {b0 : Nat} {v : Value} {d : DataW H} {ps : List MemPlace}
    (hok : Value.okWide P w .any b0 t v) (hd : DataW.Trod enc P w base spare held t v d ps) :
    ∃ a b c, v = .agg #[.int .i64 a, .int .i64 b, .int .i64 c] ∧ (Lit.int .i64 a).wf = true ∧ (Lit.int .i64 b).wf = true ∧ (Lit.int .i64 c).wf = true := by
  simp only [Value.okWide, ht] at hok
  obtain ⟨cs, rfl, hsz, _⟩ := hok
  obtain ⟨l⟩ := cs
  obtain ⟨fuel, hf⟩ := hd
  rw [hct] at hsz
  obtain ⟨c0, l, rfl, h1⟩ := len_cons (n := 2) (show l.length = 3 from hsz)
  obtain ⟨c1, l, rfl, h2⟩ := len_cons (n := 1) h1
  obtain ⟨c2, l, rfl, h3⟩ := len_cons (n := 0) h2
  obtain rfl := len_nil h3
  obtain ⟨ys, m, _, _, _, hl, hx⟩ := DataW.trod_array ht (show DataW.trod enc P w base spare held fuel t [c0, c1, c2] = some (d, ps) from hf)
  rw [hc] at hx
  have hx0 := hx 0 (by decide)
  have hx1 := hx 1 (by decide)
  have hx2 := hx 2 (by decide)
  obtain ⟨y0, ys, rfl, g1⟩ := len_cons (n := 2) hl
  obtain ⟨y1, ys, rfl, g2⟩ := len_cons (n := 1) g1
  obtain ⟨y2, ys, rfl, g3⟩ := len_cons (n := 0) g2
  obtain rfl := len_nil g3
  obtain ⟨a, e0, _, w0⟩ := DataW.trod_int he (show DataW.trod enc P w base spare held m e [c0] = some y0 from hx0)
  obtain ⟨b, e1, _, w1⟩ := DataW.trod_int he (show DataW.trod enc P w base spare held m e [c1] = some y1 from hx1)
  obtain ⟨c, e2, _, w2⟩ := DataW.trod_int he (show DataW.trod enc P w base spare held m e [c2] = some y2 from hx2)
  obtain rfl : c0 = _ := by simpa using e0
  obtain rfl : c1 = _ := by simpa using e1
  obtain rfl : c2 = _ := by simpa using e2
  exact ⟨a, b, c, rfl, w0, w1, w2⟩
end Go.Proofs.YtlbcgknjliihjaaDoorW.PrintWords
