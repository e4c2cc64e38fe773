/-
  An array of six whole numbers, opened: what a row's parameter of type [6]int is.
-/
import Derived.Test.YtlbcgknjliihjaaDoorMyRow
import Derived.ChangeMaps
namespace Go.Proofs.YtlbcgknjliihjaaDoorW.PrintWords
open Go Go.RowKit Go.ChangeShapes Go.WideShapes Go.Deep

theorem open_arr6 {H : Type} {enc : TypeId × Value → H} {P : Program} {w : World} {base : Nat} {spare : Nat → Bool} {held : Bool} {t e : TypeId} (ht : P.underlying t = some (.array 6 e)) (he : P.underlying e = some (.int .i64)) (hc : P.cellsOf e = 1) (hct : P.cellsOf t = 6) {b0 : Nat} {v : Value} {d : DataW H} {ps : List MemPlace}
    (hok : Value.okWide P w .any b0 t v) (hd : DataW.Trod enc P w base spare held t v d ps) :
    ∃ n0 n1 n2 n3 n4 n5, v = .agg #[.int .i64 n0, .int .i64 n1, .int .i64 n2, .int .i64 n3, .int .i64 n4, .int .i64 n5] ∧ (Lit.int .i64 n0).wf = true ∧ (Lit.int .i64 n1).wf = true ∧ (Lit.int .i64 n2).wf = true ∧ (Lit.int .i64 n3).wf = true ∧ (Lit.int .i64 n4).wf = true ∧ (Lit.int .i64 n5).wf = true := by
  simp only [Value.okWide, ht] at hok
  obtain ⟨cs, rfl, hsz, _⟩ := hok
  obtain ⟨l⟩ := cs
  obtain ⟨fuel, hf⟩ := hd
  rw [hct] at hsz
  obtain ⟨c0, l, rfl, h1⟩ := len_cons (n := 5) (show l.length = 6 from hsz)
  obtain ⟨c1, l, rfl, h2⟩ := len_cons (n := 4) h1
  obtain ⟨c2, l, rfl, h3⟩ := len_cons (n := 3) h2
  obtain ⟨c3, l, rfl, h4⟩ := len_cons (n := 2) h3
  obtain ⟨c4, l, rfl, h5⟩ := len_cons (n := 1) h4
  obtain ⟨c5, l, rfl, h6⟩ := len_cons (n := 0) h5
  obtain rfl := len_nil h6
  obtain ⟨ys, m, _, _, _, hl, hx⟩ := DataW.trod_array ht (show DataW.trod enc P w base spare held fuel t [c0, c1, c2, c3, c4, c5] = some (d, ps) from hf)
  rw [hc] at hx
  have hx0 := hx 0 (by decide)
  have hx1 := hx 1 (by decide)
  have hx2 := hx 2 (by decide)
  have hx3 := hx 3 (by decide)
  have hx4 := hx 4 (by decide)
  have hx5 := hx 5 (by decide)
  obtain ⟨y0, ys, rfl, g1⟩ := len_cons (n := 5) hl
  obtain ⟨y1, ys, rfl, g2⟩ := len_cons (n := 4) g1
  obtain ⟨y2, ys, rfl, g3⟩ := len_cons (n := 3) g2
  obtain ⟨y3, ys, rfl, g4⟩ := len_cons (n := 2) g3
  obtain ⟨y4, ys, rfl, g5⟩ := len_cons (n := 1) g4
  obtain ⟨y5, ys, rfl, g6⟩ := len_cons (n := 0) g5
  obtain rfl := len_nil g6
  obtain ⟨n0, e0, _, w0⟩ := DataW.trod_int he (show DataW.trod enc P w base spare held m e [c0] = some y0 from hx0)
  obtain ⟨n1, e1, _, w1⟩ := DataW.trod_int he (show DataW.trod enc P w base spare held m e [c1] = some y1 from hx1)
  obtain ⟨n2, e2, _, w2⟩ := DataW.trod_int he (show DataW.trod enc P w base spare held m e [c2] = some y2 from hx2)
  obtain ⟨n3, e3, _, w3⟩ := DataW.trod_int he (show DataW.trod enc P w base spare held m e [c3] = some y3 from hx3)
  obtain ⟨n4, e4, _, w4⟩ := DataW.trod_int he (show DataW.trod enc P w base spare held m e [c4] = some y4 from hx4)
  obtain ⟨n5, e5, _, w5⟩ := DataW.trod_int he (show DataW.trod enc P w base spare held m e [c5] = some y5 from hx5)
  obtain rfl : c0 = _ := by simpa using e0
  obtain rfl : c1 = _ := by simpa using e1
  obtain rfl : c2 = _ := by simpa using e2
  obtain rfl : c3 = _ := by simpa using e3
  obtain rfl : c4 = _ := by simpa using e4
  obtain rfl : c5 = _ := by simpa using e5
  exact ⟨n0, n1, n2, n3, n4, n5, rfl, w0, w1, w2, w3, w4, w5⟩
end Go.Proofs.YtlbcgknjliihjaaDoorW.PrintWords
