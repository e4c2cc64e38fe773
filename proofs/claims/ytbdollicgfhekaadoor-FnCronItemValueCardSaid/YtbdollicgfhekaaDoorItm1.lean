/-
  One item that is a number: getRange walked, a theorem a path.
-/
import Derived.Test.YtbdollicgfhekaaDoorItm0
set_option linter.unusedVariables false
set_option linter.unusedSimpArgs false
namespace Go.Proofs.YtbdollicgfhekaaDoor
open Go Go.RowKit Go.Proofs.YtbdollicgfhekaaDoorW.PrintWords Go.Proofs.YtbdollicgfhekaaDoorW.PrintLast
theorem cell_on {w w' : World} {x : Addr} {v : Value} (hb : Below w.heap.size w w') (h : w.cell? x = some v) : w'.cell? x = some v :=
  (hb.cell (World.block_lt_of_cell? w _ h)).trans h
theorem heap_new0 (W : World) (q : Nat) (o : Obj) (h : q = W.heap.size) : (W.alloc o).heap[q]? = some o := by subst h; exact (MapKept.heap_alloc W o).1
theorem cellsOf {w : World} {g : Nat} {t : TypeId} {cs : Array Value} (h : w.heap[g]? = some (.cells cs t (0, 0))) (i : Nat) : w.cell? ⟨g, i, none⟩ = cs[i]? := cell_of_row w g i cs t (0, 0) h
/-- what getRange keeps in memory: the bounds, the two lists of one text -/
abbrev RS (w : World) (low high : Int) (s : ByteArray) (ad : Addr) (W : World) : Prop := W.cell? ⟨w.heap.size, 0, none⟩ = some (.int .u64 low) ∧ W.cell? ⟨w.heap.size, 1, none⟩ = some (.int .u64 high) ∧ W.cell? ⟨w.heap.size, 2, none⟩ = some (.map none) ∧ W.cell? ad = some (.string s) ∧ Hid (Below w.heap.size w W)
theorem rs_on {w : World} {low high : Int} {s : ByteArray} {ad : Addr} {W W' : World} (hb : Below W.heap.size W W') (h : RS w low high s ad W) : RS w low high s ad W' :=
  ⟨cell_on hb h.1, cell_on hb h.2.1, cell_on hb h.2.2.1, cell_on hb h.2.2.2.1, Lib.hid (bl_on h.2.2.2.2.out hb)⟩
theorem rs_start {w w1 w2 : World} {low high : Int} {s : ByteArray} {ad : Addr} (h1 : Below (w.alloc (.cells #[.int .u64 low, .int .u64 high, .map none] 37)).heap.size (w.alloc (.cells #[.int .u64 low, .int .u64 high, .map none] 37)) w1) (h2 : Below w1.heap.size w1 w2) (hc : w2.cell? ad = some (.string s)) : RS w low high s ad w2 := by
  have h0 := heap_new0 w _ (.cells #[.int .u64 low, .int .u64 high, .map none] 37) rfl
  have hb := bl_on h1 h2
  exact ⟨cell_on hb (cellsOf h0 0), cell_on hb (cellsOf h0 1), cell_on hb (cellsOf h0 2), hc, Lib.hid (bl_on (bl_alloc (Below.refl _ _) _) hb)⟩
set_option maxHeartbeats 8000000 in
set_option maxRecDepth 100000 in
theorem range_low (s : ByteArray) (v low high : Int) (hs : s.size ≤ 2147483647) (h : Lib.atoiAll s.data.toList = .ok v) (h0 : 0 ≤ v) (h1 : v ≤ 9223372036854775807) (hd : ∀ b ∈ L s, b ≠ 47 ∧ b ≠ 45) (q1 : (s.toList == [42]) = false) (q2 : (s.toList == [63]) = false) (t1 : decide (v < low) = true) (w : World) :
    Calls Tryd.prog 10 #[.string s, .agg #[.int .u64 low, .int .u64 high, .map none]] w fun e w' => (∃ N, e = .returned (.tuple #[.int .u64 0, .iface 55 (.pointer (some ⟨N, 0, none⟩))])) ∧ Below w.heap.size w w' := by
  have H := Aside0.mk h
  have HS := Aside0.mk hs
  have H0 := Aside0.mk h0
  have H1 := Aside0.mk h1
  have HD := Aside0.mk hd
  clear h hs h0 h1 hd
  go_enter Tryd.func10, Tryd.ntmps10
  go_upto_region 11 with (first
    | (go_at_call 12; (with_reducible refine (split12 s 47 (fun b hb => (HD.out b hb).1) HS.out _).mono ?_); rintro e w1 ⟨ad1, cap1, rfl, hc1, hb1⟩; have g1 : w1.cell? ad1 = some (.string s) := hc1)
    | (go_at_call 12; (with_reducible refine (split12 s 45 (fun b hb => (HD.out b hb).2) HS.out _).mono ?_); rintro e w2 ⟨ad2, cap2, rfl, hc2, hb2⟩; have g2 : w2.cell? ad2 = some (.string s) := hc2))
  have HF := Lib.hid (rs_start (low := low) (high := high) hb1 hb2 g2)
  clear hb1 hb2 hc1 hc2 g1 g2
  first | go_region_held3 (fun W => RS w low high s ad2 W) (first | assumption | exact rs_on (bl_drew (Below.refl _ _)) HF.out | exact rs_on hb3 (by assumption) | fail) (first | (go_at_call 13; (with_reducible refine (parse13 s v HS.out H.out H0.out H1.out _).mono ?_); rintro e w3 ⟨rfl, hb3⟩)) | fail
  rename_i hH
  have HG := Lib.hid hH
  obtain ⟨a0, a1, a2, -, -⟩ := hH
  clear HF
  go_wp2_with (go_at_call 14; (with_reducible refine (new14 _ _).mono ?_); rintro e w4 ⟨N, rfl, hb4⟩; have HB := Aside0.mk (bl_on HG.out.2.2.2.2.out hb4); clear hb4)
  go_ret2
  exact ⟨⟨N, rfl⟩, HB.out⟩
set_option maxHeartbeats 8000000 in
set_option maxRecDepth 100000 in
theorem range_high (s : ByteArray) (v low high : Int) (hs : s.size ≤ 2147483647) (h : Lib.atoiAll s.data.toList = .ok v) (h0 : 0 ≤ v) (h1 : v ≤ 9223372036854775807) (hd : ∀ b ∈ L s, b ≠ 47 ∧ b ≠ 45) (q1 : (s.toList == [42]) = false) (q2 : (s.toList == [63]) = false) (t1 : decide (v < low) = false) (t2 : decide (high < v) = true) (w : World) :
    Calls Tryd.prog 10 #[.string s, .agg #[.int .u64 low, .int .u64 high, .map none]] w fun e w' => (∃ N, e = .returned (.tuple #[.int .u64 0, .iface 55 (.pointer (some ⟨N, 0, none⟩))])) ∧ Below w.heap.size w w' := by
  have H := Aside0.mk h
  have HS := Aside0.mk hs
  have H0 := Aside0.mk h0
  have H1 := Aside0.mk h1
  have HD := Aside0.mk hd
  clear h hs h0 h1 hd
  go_enter Tryd.func10, Tryd.ntmps10
  go_upto_region 11 with (first
    | (go_at_call 12; (with_reducible refine (split12 s 47 (fun b hb => (HD.out b hb).1) HS.out _).mono ?_); rintro e w1 ⟨ad1, cap1, rfl, hc1, hb1⟩; have g1 : w1.cell? ad1 = some (.string s) := hc1)
    | (go_at_call 12; (with_reducible refine (split12 s 45 (fun b hb => (HD.out b hb).2) HS.out _).mono ?_); rintro e w2 ⟨ad2, cap2, rfl, hc2, hb2⟩; have g2 : w2.cell? ad2 = some (.string s) := hc2))
  have HF := Lib.hid (rs_start (low := low) (high := high) hb1 hb2 g2)
  clear hb1 hb2 hc1 hc2 g1 g2
  first | go_region_held3 (fun W => RS w low high s ad2 W) (first | assumption | exact rs_on (bl_drew (Below.refl _ _)) HF.out | exact rs_on hb3 (by assumption) | fail) (first | (go_at_call 13; (with_reducible refine (parse13 s v HS.out H.out H0.out H1.out _).mono ?_); rintro e w3 ⟨rfl, hb3⟩)) | fail
  rename_i hH
  have HG := Lib.hid hH
  obtain ⟨a0, a1, a2, -, -⟩ := hH
  clear HF
  go_wp2_with (go_at_call 14; (with_reducible refine (new14 _ _).mono ?_); rintro e w4 ⟨N, rfl, hb4⟩; have HB := Aside0.mk (bl_on HG.out.2.2.2.2.out hb4); clear hb4)
  go_ret2
  exact ⟨⟨N, rfl⟩, HB.out⟩
set_option maxHeartbeats 8000000 in
set_option maxRecDepth 100000 in
theorem range_in (s : ByteArray) (v low high : Int) (hs : s.size ≤ 2147483647) (h : Lib.atoiAll s.data.toList = .ok v) (h0 : 0 ≤ v) (h1 : v ≤ 9223372036854775807) (hd : ∀ b ∈ L s, b ≠ 47 ∧ b ≠ 45) (q1 : (s.toList == [42]) = false) (q2 : (s.toList == [63]) = false) (hv : v < 63) (t1 : decide (v < low) = false) (t2 : decide (high < v) = false) (w : World) :
    Calls Tryd.prog 10 #[.string s, .agg #[.int .u64 low, .int .u64 high, .map none]] w fun e w' => e = .returned (.tuple #[.int .u64 (2 ^ v.toNat), .nilIface]) ∧ Below w.heap.size w w' := by
  have H := Aside0.mk h
  have HS := Aside0.mk hs
  have H0 := Aside0.mk h0
  have H1 := Aside0.mk h1
  have HD := Aside0.mk hd
  clear h hs h0 h1 hd
  go_enter Tryd.func10, Tryd.ntmps10
  go_upto_region 11 with (first
    | (go_at_call 12; (with_reducible refine (split12 s 47 (fun b hb => (HD.out b hb).1) HS.out _).mono ?_); rintro e w1 ⟨ad1, cap1, rfl, hc1, hb1⟩; have g1 : w1.cell? ad1 = some (.string s) := hc1)
    | (go_at_call 12; (with_reducible refine (split12 s 45 (fun b hb => (HD.out b hb).2) HS.out _).mono ?_); rintro e w2 ⟨ad2, cap2, rfl, hc2, hb2⟩; have g2 : w2.cell? ad2 = some (.string s) := hc2))
  have HF := Lib.hid (rs_start (low := low) (high := high) hb1 hb2 g2)
  clear hb1 hb2 hc1 hc2 g1 g2
  first | go_region_held3 (fun W => RS w low high s ad2 W) (first | assumption | exact rs_on (bl_drew (Below.refl _ _)) HF.out | exact rs_on hb3 (by assumption) | fail) (first | (go_at_call 13; (with_reducible refine (parse13 s v HS.out H.out H0.out H1.out _).mono ?_); rintro e w3 ⟨rfl, hb3⟩)) | fail
  rename_i hH
  have HG := Lib.hid hH
  obtain ⟨a0, a1, a2, -, -⟩ := hH
  clear HF
  obtain ⟨n, hn⟩ := Int.eq_ofNat_of_zero_le H0.out
  have HV := Aside0.mk (show n < 63 by omega)
  subst hn
  have HO := or_none ⟨n, HV.out⟩
  clear hv
  go_wp2_with (go_at_call 16; (with_reducible refine (bits16 n HV.out _).mono ?_); rintro e w4 ⟨rfl, hw4⟩; have HB : Aside0 (Below w.heap.size w w4) := ⟨by rw [← hw4]; exact HG.out.2.2.2.2.out⟩; clear hw4)
  go_ret2
  exact ⟨rfl, HB.out⟩
end Go.Proofs.YtbdollicgfhekaaDoor
