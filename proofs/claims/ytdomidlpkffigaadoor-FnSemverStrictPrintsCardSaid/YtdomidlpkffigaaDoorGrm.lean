/-
  The grammar of versions, walked.
-/
import Derived.Test.YtdomidlpkffigaaDoorVtx
import Derived.Test.YtdomidlpkffigaaDoorQGx3
set_option linter.unusedVariables false
set_option linter.unusedSimpArgs false
namespace Go.Proofs.YtdomidlpkffigaaDoor
open Go Go.RowKit Go.Proofs.YtdomidlpkffigaaDoorW.PrintWords Go.Proofs.YtdomidlpkffigaaDoorW.PrintLast Go.Proofs.YtdomidlpkffigaaDoor.Gram Go.Proofs.YtdomidlpkffigaaDoor.QG

theorem ok3 {n0 n1 n2 : Int} {W : World} {A : Nat} (h : W.heap[A]? = some (.cells #[.int .u64 n0, .int .u64 n1, .int .u64 n2] 50 (0, 0))) : W.cell? ⟨A, 0, none⟩ = some (.int .u64 n0) ∧ W.cell? ⟨A, 1, none⟩ = some (.int .u64 n1) ∧ W.cell? ⟨A, 2, none⟩ = some (.int .u64 n2) ∧ W.frozen? ⟨A, 0, none⟩ = false ∧ W.frozen? ⟨A, 1, none⟩ = false ∧ W.frozen? ⟨A, 2, none⟩ = false :=
  ⟨cellsOf h 0, cellsOf h 1, cellsOf h 2, frozenOf h 0, frozenOf h 1, frozenOf h 2⟩
/-- what grammar keeps in memory: the identifiers at g, the numbers at A, the result at r -/
structure GS (w : World) (r g A : Nat) (a b c : ByteArray) (n0 n1 n2 : Int) (W : World) : Prop where
  a0 : W.cell? ⟨g, 0, none⟩ = some (.string a)
  a1 : W.cell? ⟨g, 1, none⟩ = some (.string b)
  a2 : W.cell? ⟨g, 2, none⟩ = some (.string c)
  ab : W.heap[A]? = some (.cells #[.int .u64 n0, .int .u64 n1, .int .u64 n2] 50 (0, 0))
  fz : FZ w r W
  gA : g < A
  rA : r < A
theorem GS.cells {w : World} {r g A : Nat} {a b c : ByteArray} {n0 n1 n2 : Int} {W : World} (h : GS w r g A a b c n0 n1 n2 W) : W.cell? ⟨A, 0, none⟩ = some (.int .u64 n0) ∧ W.cell? ⟨A, 1, none⟩ = some (.int .u64 n1) ∧ W.cell? ⟨A, 2, none⟩ = some (.int .u64 n2) ∧ W.frozen? ⟨A, 0, none⟩ = false ∧ W.frozen? ⟨A, 1, none⟩ = false ∧ W.frozen? ⟨A, 2, none⟩ = false := ok3 h.ab
theorem GS.on {w : World} {r g A : Nat} {a b c : ByteArray} {n0 n1 n2 : Int} {W W' : World} (h : GS w r g A a b c n0 n1 n2 W) (hb : Below W.heap.size W W') : GS w r g A a b c n0 n1 n2 W' :=
  ⟨cell_on hb h.a0, cell_on hb h.a1, cell_on hb h.a2, (hb.block _ (Array.getElem?_eq_some_iff.1 h.ab).1).trans h.ab, fz_on h.fz hb, h.gA, h.rA⟩
theorem GS.num {w : World} {r g A : Nat} {a b c : ByteArray} {n0 n1 n2 : Int} {W : World} (h : GS w r g A a b c n0 n1 n2 W) (i : Nat) (v : Value) (m0 m1 m2 : Int) (e : #[Value.int .u64 n0, .int .u64 n1, .int .u64 n2].setIfInBounds i v = #[Value.int .u64 m0, .int .u64 m1, .int .u64 m2]) : GS w r g A a b c m0 m1 m2 (W.setCell ⟨A, i, none⟩ v) where
  a0 := cell_far (fun e => by have h1 := h.gA; have h2 := congrArg Addr.block e; simp at h2; omega) h.a0
  a1 := cell_far (fun e => by have h1 := h.gA; have h2 := congrArg Addr.block e; simp at h2; omega) h.a1
  a2 := cell_far (fun e => by have h1 := h.gA; have h2 := congrArg Addr.block e; simp at h2; omega) h.a2
  ab := blk_put h.ab i v e
  fz := ⟨(Below.heap_setCell W ⟨A, i, none⟩ _ r (by have := h.rA; show r ≠ A; omega)).trans h.fz.1, h.fz.2.1, bl_set h.fz.2.2 (by have := h.rA; have := h.fz.2.1; show _ ≤ A; omega) _⟩
  gA := h.gA
  rA := h.rA
/-- how grammar ends -/
def goodG (sm : Bool) (t : ByteArray) : Bool := sm && !lead (L t)
def PostG (w : World) (good : Bool) (n0 n1 n2 : Int) (pre mt : ByteArray) (e : Ending) (w' : World) : Prop :=
  e = .returned (if good = true then .tuple #[.agg #[.int .u64 n0, .int .u64 n1, .int .u64 n2, .string pre, .string mt], .bool true] else .tuple #[.agg #[.int .u64 0, .int .u64 0, .int .u64 0, .string ⟨#[]⟩, .string ⟨#[]⟩], .bool false]) ∧ Below w.heap.size w w'
theorem postG_no {w : World} {good : Bool} {n0 n1 n2 : Int} {pre mt : ByteArray} {e : Ending} {w' : World} (h : good = false) (he : e = .returned (.tuple #[.agg #[.int .u64 0, .int .u64 0, .int .u64 0, .string ⟨#[]⟩, .string ⟨#[]⟩], .bool false])) (hb : Below w.heap.size w w') : PostG w good n0 n1 n2 pre mt e w' := ⟨by rw [h]; exact he, hb⟩
set_option maxHeartbeats 8000000 in
set_option maxRecDepth 100000 in
theorem gram_bad (s core pre mt : ByteArray) (ok : Bool) (kt ki : Nat) (ids : List ByteArray) (ht : spec_tails.f kt s = some (core, pre, mt, ok)) (hi : spec_Identifiers.f ki core = some ids) (hc : ok = false ∨ (ok = true ∧ ids.length ≠ 3)) (w : World) :
    Calls Tryd.prog 10 #[.string s] w fun e w' => e = .returned (.tuple #[.agg #[.int .u64 0, .int .u64 0, .int .u64 0, .string ⟨#[]⟩, .string ⟨#[]⟩], .bool false]) ∧ Below w.heap.size w w' := by
  have HTL := Aside0.mk ht
  have HID := Aside0.mk hi
  have HF := Aside0.mk (fz_start w)
  clear ht hi
  go_enter Tryd.func10, Tryd.ntmps10
  rcases hc with rfl | ⟨rfl, hl⟩
  · go_wp2_with (first
      | (go_at_call 20; (with_reducible refine (spec_tails.calls kt s core pre mt false _ HTL.out).mono ?_); rintro e w1 ⟨rfl, hd⟩; have HF1 := Aside0.mk (fz_on HF.out (hd)); clear hd)
      | (go_at_call 21; (with_reducible refine (spec_Identifiers.calls ki core ids _ HID.out).mono ?_); rintro e w2 ⟨v, rfl, hR, hb⟩; obtain ⟨A, cap, e1, -, -⟩ := Kd.R_reads hR; subst e1; have HF2 := Aside0.mk (fz_on HF1.out hb); obtain ⟨z0, z1, z2, z3, z4, f0, f1, f2, f3, f4⟩ := fz_facts HF2.out; clear hR hb))
    refine bodyPost_ret (v := .tuple #[.agg #[.int .u64 0, .int .u64 0, .int .u64 0, .string ⟨#[]⟩, .string ⟨#[]⟩], .bool false]) (by simp [results, Tryd.results10, go_sem, z0, z1, z2, z3, z4, f0, f1, f2, f3, f4]) rfl ⟨?_, fz_set HF2.out _ _ _ _ _⟩
    rfl
  · have hl3 : ((ids.length : Int) != 3) = true := bne_iff_ne.2 (by omega)
    clear hl
    go_wp2_with (first
      | (go_at_call 20; (with_reducible refine (spec_tails.calls kt s core pre mt true _ HTL.out).mono ?_); rintro e w1 ⟨rfl, hd⟩; have HF1 := Aside0.mk (fz_on HF.out (hd)); clear hd)
      | (go_at_call 21; (with_reducible refine (spec_Identifiers.calls ki core ids _ HID.out).mono ?_); rintro e w2 ⟨v, rfl, hR, hb⟩; obtain ⟨A, cap, e1, -, -⟩ := Kd.R_reads hR; subst e1; have HF2 := Aside0.mk (fz_on HF1.out hb); obtain ⟨z0, z1, z2, z3, z4, f0, f1, f2, f3, f4⟩ := fz_facts HF2.out; clear hR hb))
    refine bodyPost_ret (v := .tuple #[.agg #[.int .u64 0, .int .u64 0, .int .u64 0, .string ⟨#[]⟩, .string ⟨#[]⟩], .bool false]) (by simp [results, Tryd.results10, go_sem, z0, z1, z2, z3, z4, f0, f1, f2, f3, f4]) rfl ⟨?_, fz_set HF2.out _ _ _ _ _⟩
    rfl
theorem gs_start {w w1 w2 : World} {a b c : ByteArray} {g cap : Nat} (hR : Kd.R Kd.string 9 w2 w1.heap.size (fun _ => True) (.slice (some ⟨g, 0, none⟩) [a, b, c].length cap) [a, b, c]) (hf : FZ w w.heap.size w2) (hgl : g < w2.heap.size) :
    GS w w.heap.size g w2.heap.size a b c 0 0 0 (w2.alloc (.cells #[.int .u64 0, .int .u64 0, .int .u64 0] 50)) where
  a0 := cell_on (bl_alloc (Below.refl _ _) _) (Kd.R_cell ByteArray.empty hR 0 (by decide) (by simp)).1
  a1 := cell_on (bl_alloc (Below.refl _ _) _) (Kd.R_cell ByteArray.empty hR 1 (by decide) (by simp)).1
  a2 := cell_on (bl_alloc (Below.refl _ _) _) (Kd.R_cell ByteArray.empty hR 2 (by decide) (by simp)).1
  ab := heap_new0 _ _ _ rfl
  fz := fz_on hf (bl_alloc (Below.refl _ _) _)
  gA := hgl
  rA := (Array.getElem?_eq_some_iff.1 hf.1).1
set_option maxHeartbeats 16000000 in
set_option maxRecDepth 100000 in
theorem gram_main (s core pre mt a b c : ByteArray) (kt ki k0 k1 k2 : Nat) (n0 n1 n2 : Int) (s0 s1 s2 : Bool) (ht : spec_tails.f kt s = some (core, pre, mt, true)) (hi : spec_Identifiers.f ki core = some [a, b, c])
    (hx : spec_Number.f k0 a = some (n0, s0)) (hy : spec_Number.f k1 b = some (n1, s1)) (hz : spec_Number.f k2 c = some (n2, s2)) (w : World) :
    Calls Tryd.prog 10 #[.string s] w (PostG w (goodG s0 a && goodG s1 b && goodG s2 c) n0 n1 n2 pre mt) := by
  have HTL := Aside0.mk ht
  have HID := Aside0.mk hi
  have HX := Aside0.mk hx
  have HY := Aside0.mk hy
  have HZ := Aside0.mk hz
  have HF0 := Aside0.mk (fz_start w)
  clear ht hi hx hy hz
  go_enter Tryd.func10, Tryd.ntmps10
  go_upto_region 6 with (first
      | (go_at_call 20; (with_reducible refine (spec_tails.calls kt s core pre mt true _ HTL.out).mono ?_); rintro e w1 ⟨rfl, hd⟩; have HF1 := Aside0.mk (fz_on HF0.out (hd)); clear hd)
      | (go_at_call 21; (with_reducible refine (spec_Identifiers.calls ki core [a, b, c] _ HID.out).mono ?_); rintro e w2 ⟨v, rfl, hR, hb⟩; obtain ⟨g, cap, e1, hg, hgl, -⟩ := Kd.R_form hR (by simp); subst e1; have HR := Aside0.mk hR; have HF2 := Aside0.mk (fz_on HF1.out hb); have HGL := Aside0.mk hgl; clear hR hb hg hgl))
  have HF := Aside0.mk (gs_start HR.out HF2.out HGL.out)
  clear HR HF2 HGL HF1 HF0
  generalize w2.alloc (.cells #[.int .u64 0, .int .u64 0, .int .u64 0] 50) = W0 at HF ⊢
  generalize w2.heap.size = A at HF ⊢
  obtain ⟨r, hr⟩ : ∃ r, r = w.heap.size := ⟨_, rfl⟩
  rw [← hr] at HF ⊢
  clear hr
  go_wp2
  go_loopg [33] 4 (fun gq v33 w' => ∃ x : Int, v33 = .int .i64 x ∧ Aside0 (0 ≤ x ∧ x ≤ 3 ∧ gq + x.toNat = 4) ∧ Aside0 ((0 < x → goodG s0 a = true) ∧ (1 < x → goodG s1 b = true) ∧ (2 < x → goodG s2 c = true)) ∧ Aside0 (GS w r g A a b c (if 0 < x then n0 else 0) (if 1 < x then n1 else 0) (if 2 < x then n2 else 0) w'))
  case atStart => exact ⟨0, rfl, ⟨by omega, by omega, by omega⟩, ⟨⟨fun h => absurd h (by decide), fun h => absurd h (by decide), fun h => absurd h (by decide)⟩⟩, ⟨by simpa using HF.out⟩⟩
  case round =>
    clear HF
    obtain ⟨x, rfl, HI, HD, HF⟩ := hrel
    have hx : x = 0 ∨ x = 1 ∨ x = 2 ∨ x = 3 := by have h := HI.out; omega
    rcases hx with rfl | rfl | rfl | rfl
    · skip
      replace HF : Aside0 (GS w r g A a b c 0 0 0 wr) := ⟨by simpa using HF.out⟩
      have a0 := HF.out.a0
      cases s0
      · have HO : Aside0 (goodG false a = false) := ⟨rfl⟩
        go_wp2_with (go_at_call 22; (with_reducible refine (spec_Number.calls k0 a n0 false _ HX.out).mono ?_); rintro e w3 ⟨rfl, hd⟩; have HFn := Aside0.mk (HF.out.on (drawn_below hd)); obtain ⟨y0, y1, y2, l0, l1, l2⟩ := HFn.out.cells; obtain ⟨z0, z1, z2, z3, z4, f0, f1, f2, f3, f4⟩ := fz_facts HFn.out.fz; clear hd)
        refine bodyPost_ret (v := .tuple #[.agg #[.int .u64 0, .int .u64 0, .int .u64 0, .string ⟨#[]⟩, .string ⟨#[]⟩], .bool false]) (by simp [results, Tryd.results10, go_sem, z0, z1, z2, z3, z4, f0, f1, f2, f3, f4]) rfl (postG_no (by rw [HO.out]; rfl) rfl (fz_set HFn.out.fz _ _ _ _ _))
      · have hle := lead_L a
        have hbt : ∀ h : 0 < a.size, ((a[0]'h).toNat : Int) = bt a 0 := bt_at a 0
        cases h1 : decide (1 < (a.size : Int))
        · have HO : Aside0 (goodG true a = true) := ⟨by unfold goodG; rw [hle, h1]; rfl⟩
          clear hle hbt
          go_wp2_with (go_at_call 22; (with_reducible refine (spec_Number.calls k0 a n0 true _ HX.out).mono ?_); rintro e w3 ⟨rfl, hd⟩; have HFn := Aside0.mk (HF.out.on (drawn_below hd)); obtain ⟨y0, y1, y2, l0, l1, l2⟩ := HFn.out.cells; obtain ⟨z0, z1, z2, z3, z4, f0, f1, f2, f3, f4⟩ := fz_facts HFn.out.fz; clear hd)
          have HFq := Aside0.mk (HFn.out.num 0 (.int .u64 n0) n0 0 0 rfl)
          go_roundg (gk - 1)
          case measure => have h := HI.out; omega
          case rel => exact ⟨1, by first | rfl | simp [wrap64], ⟨by have h := HI.out; omega⟩, ⟨⟨fun _ => HO.out, fun h => absurd h (by decide), fun h => absurd h (by decide)⟩⟩, ⟨by simpa using HFq.out⟩⟩
        · have hsz : (0 < a.size) = True := eq_true (by have := of_decide_eq_true h1; omega)
          cases h2 : (bt a 0 == 48)
          · have HO : Aside0 (goodG true a = true) := ⟨by unfold goodG; rw [hle, h1, h2]; rfl⟩
            clear hle
            go_wp2_with (go_at_call 22; (with_reducible refine (spec_Number.calls k0 a n0 true _ HX.out).mono ?_); rintro e w3 ⟨rfl, hd⟩; have HFn := Aside0.mk (HF.out.on (drawn_below hd)); obtain ⟨y0, y1, y2, l0, l1, l2⟩ := HFn.out.cells; obtain ⟨z0, z1, z2, z3, z4, f0, f1, f2, f3, f4⟩ := fz_facts HFn.out.fz; clear hd)
            have HFq := Aside0.mk (HFn.out.num 0 (.int .u64 n0) n0 0 0 rfl)
            go_roundg (gk - 1)
            case measure => have h := HI.out; omega
            case rel => exact ⟨1, by first | rfl | simp [wrap64], ⟨by have h := HI.out; omega⟩, ⟨⟨fun _ => HO.out, fun h => absurd h (by decide), fun h => absurd h (by decide)⟩⟩, ⟨by simpa using HFq.out⟩⟩
          · have HO : Aside0 (goodG true a = false) := ⟨by unfold goodG; rw [hle, h1, h2]; rfl⟩
            clear hle
            go_wp2_with (go_at_call 22; (with_reducible refine (spec_Number.calls k0 a n0 true _ HX.out).mono ?_); rintro e w3 ⟨rfl, hd⟩; have HFn := Aside0.mk (HF.out.on (drawn_below hd)); obtain ⟨y0, y1, y2, l0, l1, l2⟩ := HFn.out.cells; obtain ⟨z0, z1, z2, z3, z4, f0, f1, f2, f3, f4⟩ := fz_facts HFn.out.fz; clear hd)
            refine bodyPost_ret (v := .tuple #[.agg #[.int .u64 0, .int .u64 0, .int .u64 0, .string ⟨#[]⟩, .string ⟨#[]⟩], .bool false]) (by simp [results, Tryd.results10, go_sem, z0, z1, z2, z3, z4, f0, f1, f2, f3, f4]) rfl (postG_no (by rw [HO.out]; rfl) rfl (fz_set HFn.out.fz _ _ _ _ _))
    · skip
      replace HF : Aside0 (GS w r g A a b c n0 0 0 wr) := ⟨by simpa using HF.out⟩
      have a1 := HF.out.a1
      cases s1
      · have HO : Aside0 (goodG false b = false) := ⟨rfl⟩
        go_wp2_with (go_at_call 22; (with_reducible refine (spec_Number.calls k1 b n1 false _ HY.out).mono ?_); rintro e w3 ⟨rfl, hd⟩; have HFn := Aside0.mk (HF.out.on (drawn_below hd)); obtain ⟨y0, y1, y2, l0, l1, l2⟩ := HFn.out.cells; obtain ⟨z0, z1, z2, z3, z4, f0, f1, f2, f3, f4⟩ := fz_facts HFn.out.fz; clear hd)
        refine bodyPost_ret (v := .tuple #[.agg #[.int .u64 0, .int .u64 0, .int .u64 0, .string ⟨#[]⟩, .string ⟨#[]⟩], .bool false]) (by simp [results, Tryd.results10, go_sem, z0, z1, z2, z3, z4, f0, f1, f2, f3, f4]) rfl (postG_no (by rw [HO.out]; cases goodG s0 a <;> rfl) rfl (fz_set HFn.out.fz _ _ _ _ _))
      · have hle := lead_L b
        have hbt : ∀ h : 0 < b.size, ((b[0]'h).toNat : Int) = bt b 0 := bt_at b 0
        cases h1 : decide (1 < (b.size : Int))
        · have HO : Aside0 (goodG true b = true) := ⟨by unfold goodG; rw [hle, h1]; rfl⟩
          clear hle hbt
          go_wp2_with (go_at_call 22; (with_reducible refine (spec_Number.calls k1 b n1 true _ HY.out).mono ?_); rintro e w3 ⟨rfl, hd⟩; have HFn := Aside0.mk (HF.out.on (drawn_below hd)); obtain ⟨y0, y1, y2, l0, l1, l2⟩ := HFn.out.cells; obtain ⟨z0, z1, z2, z3, z4, f0, f1, f2, f3, f4⟩ := fz_facts HFn.out.fz; clear hd)
          have HFq := Aside0.mk (HFn.out.num 1 (.int .u64 n1) n0 n1 0 rfl)
          go_roundg (gk - 1)
          case measure => have h := HI.out; omega
          case rel => exact ⟨2, by first | rfl | simp [wrap64], ⟨by have h := HI.out; omega⟩, ⟨⟨fun _ => HD.out.1 (by decide), fun _ => HO.out, fun h => absurd h (by decide)⟩⟩, ⟨by simpa using HFq.out⟩⟩
        · have hsz : (0 < b.size) = True := eq_true (by have := of_decide_eq_true h1; omega)
          cases h2 : (bt b 0 == 48)
          · have HO : Aside0 (goodG true b = true) := ⟨by unfold goodG; rw [hle, h1, h2]; rfl⟩
            clear hle
            go_wp2_with (go_at_call 22; (with_reducible refine (spec_Number.calls k1 b n1 true _ HY.out).mono ?_); rintro e w3 ⟨rfl, hd⟩; have HFn := Aside0.mk (HF.out.on (drawn_below hd)); obtain ⟨y0, y1, y2, l0, l1, l2⟩ := HFn.out.cells; obtain ⟨z0, z1, z2, z3, z4, f0, f1, f2, f3, f4⟩ := fz_facts HFn.out.fz; clear hd)
            have HFq := Aside0.mk (HFn.out.num 1 (.int .u64 n1) n0 n1 0 rfl)
            go_roundg (gk - 1)
            case measure => have h := HI.out; omega
            case rel => exact ⟨2, by first | rfl | simp [wrap64], ⟨by have h := HI.out; omega⟩, ⟨⟨fun _ => HD.out.1 (by decide), fun _ => HO.out, fun h => absurd h (by decide)⟩⟩, ⟨by simpa using HFq.out⟩⟩
          · have HO : Aside0 (goodG true b = false) := ⟨by unfold goodG; rw [hle, h1, h2]; rfl⟩
            clear hle
            go_wp2_with (go_at_call 22; (with_reducible refine (spec_Number.calls k1 b n1 true _ HY.out).mono ?_); rintro e w3 ⟨rfl, hd⟩; have HFn := Aside0.mk (HF.out.on (drawn_below hd)); obtain ⟨y0, y1, y2, l0, l1, l2⟩ := HFn.out.cells; obtain ⟨z0, z1, z2, z3, z4, f0, f1, f2, f3, f4⟩ := fz_facts HFn.out.fz; clear hd)
            refine bodyPost_ret (v := .tuple #[.agg #[.int .u64 0, .int .u64 0, .int .u64 0, .string ⟨#[]⟩, .string ⟨#[]⟩], .bool false]) (by simp [results, Tryd.results10, go_sem, z0, z1, z2, z3, z4, f0, f1, f2, f3, f4]) rfl (postG_no (by rw [HO.out]; cases goodG s0 a <;> rfl) rfl (fz_set HFn.out.fz _ _ _ _ _))
    · skip
      replace HF : Aside0 (GS w r g A a b c n0 n1 0 wr) := ⟨by simpa using HF.out⟩
      have a2 := HF.out.a2
      cases s2
      · have HO : Aside0 (goodG false c = false) := ⟨rfl⟩
        go_wp2_with (go_at_call 22; (with_reducible refine (spec_Number.calls k2 c n2 false _ HZ.out).mono ?_); rintro e w3 ⟨rfl, hd⟩; have HFn := Aside0.mk (HF.out.on (drawn_below hd)); obtain ⟨y0, y1, y2, l0, l1, l2⟩ := HFn.out.cells; obtain ⟨z0, z1, z2, z3, z4, f0, f1, f2, f3, f4⟩ := fz_facts HFn.out.fz; clear hd)
        refine bodyPost_ret (v := .tuple #[.agg #[.int .u64 0, .int .u64 0, .int .u64 0, .string ⟨#[]⟩, .string ⟨#[]⟩], .bool false]) (by simp [results, Tryd.results10, go_sem, z0, z1, z2, z3, z4, f0, f1, f2, f3, f4]) rfl (postG_no (by rw [HO.out]; cases goodG s0 a <;> cases goodG s1 b <;> rfl) rfl (fz_set HFn.out.fz _ _ _ _ _))
      · have hle := lead_L c
        have hbt : ∀ h : 0 < c.size, ((c[0]'h).toNat : Int) = bt c 0 := bt_at c 0
        cases h1 : decide (1 < (c.size : Int))
        · have HO : Aside0 (goodG true c = true) := ⟨by unfold goodG; rw [hle, h1]; rfl⟩
          clear hle hbt
          go_wp2_with (go_at_call 22; (with_reducible refine (spec_Number.calls k2 c n2 true _ HZ.out).mono ?_); rintro e w3 ⟨rfl, hd⟩; have HFn := Aside0.mk (HF.out.on (drawn_below hd)); obtain ⟨y0, y1, y2, l0, l1, l2⟩ := HFn.out.cells; obtain ⟨z0, z1, z2, z3, z4, f0, f1, f2, f3, f4⟩ := fz_facts HFn.out.fz; clear hd)
          have HFq := Aside0.mk (HFn.out.num 2 (.int .u64 n2) n0 n1 n2 rfl)
          go_roundg (gk - 1)
          case measure => have h := HI.out; omega
          case rel => exact ⟨3, by first | rfl | simp [wrap64], ⟨by have h := HI.out; omega⟩, ⟨⟨fun _ => HD.out.1 (by decide), fun _ => HD.out.2.1 (by decide), fun _ => HO.out⟩⟩, ⟨by simpa using HFq.out⟩⟩
        · have hsz : (0 < c.size) = True := eq_true (by have := of_decide_eq_true h1; omega)
          cases h2 : (bt c 0 == 48)
          · have HO : Aside0 (goodG true c = true) := ⟨by unfold goodG; rw [hle, h1, h2]; rfl⟩
            clear hle
            go_wp2_with (go_at_call 22; (with_reducible refine (spec_Number.calls k2 c n2 true _ HZ.out).mono ?_); rintro e w3 ⟨rfl, hd⟩; have HFn := Aside0.mk (HF.out.on (drawn_below hd)); obtain ⟨y0, y1, y2, l0, l1, l2⟩ := HFn.out.cells; obtain ⟨z0, z1, z2, z3, z4, f0, f1, f2, f3, f4⟩ := fz_facts HFn.out.fz; clear hd)
            have HFq := Aside0.mk (HFn.out.num 2 (.int .u64 n2) n0 n1 n2 rfl)
            go_roundg (gk - 1)
            case measure => have h := HI.out; omega
            case rel => exact ⟨3, by first | rfl | simp [wrap64], ⟨by have h := HI.out; omega⟩, ⟨⟨fun _ => HD.out.1 (by decide), fun _ => HD.out.2.1 (by decide), fun _ => HO.out⟩⟩, ⟨by simpa using HFq.out⟩⟩
          · have HO : Aside0 (goodG true c = false) := ⟨by unfold goodG; rw [hle, h1, h2]; rfl⟩
            clear hle
            go_wp2_with (go_at_call 22; (with_reducible refine (spec_Number.calls k2 c n2 true _ HZ.out).mono ?_); rintro e w3 ⟨rfl, hd⟩; have HFn := Aside0.mk (HF.out.on (drawn_below hd)); obtain ⟨y0, y1, y2, l0, l1, l2⟩ := HFn.out.cells; obtain ⟨z0, z1, z2, z3, z4, f0, f1, f2, f3, f4⟩ := fz_facts HFn.out.fz; clear hd)
            refine bodyPost_ret (v := .tuple #[.agg #[.int .u64 0, .int .u64 0, .int .u64 0, .string ⟨#[]⟩, .string ⟨#[]⟩], .bool false]) (by simp [results, Tryd.results10, go_sem, z0, z1, z2, z3, z4, f0, f1, f2, f3, f4]) rfl (postG_no (by rw [HO.out]; cases goodG s0 a <;> cases goodG s1 b <;> rfl) rfl (fz_set HFn.out.fz _ _ _ _ _))
    · skip
      replace HF : Aside0 (GS w r g A a b c n0 n1 n2 wr) := ⟨by simpa using HF.out⟩
      have HGO : Aside0 ((goodG s0 a && goodG s1 b && goodG s2 c) = true) := ⟨by rw [HD.out.1 (by decide), HD.out.2.1 (by decide), HD.out.2.2 (by decide)]; rfl⟩
      obtain ⟨y0, y1, y2, l0, l1, l2⟩ := HF.out.cells
      obtain ⟨z0, z1, z2, z3, z4, f0, f1, f2, f3, f4⟩ := fz_facts HF.out.fz
      go_wp2
      refine bodyPost_ret (v := .tuple #[.agg #[.int .u64 n0, .int .u64 n1, .int .u64 n2, .string pre, .string mt], .bool true]) (by simp [results, Tryd.results10, go_sem, y0, y1, y2, z0, z1, z2, z3, z4, f0, f1, f2, f3, f4]) rfl ⟨by rw [HGO.out]; rfl, fz_set HF.out.fz _ _ _ _ _⟩
end Go.Proofs.YtdomidlpkffigaaDoor
