/-
  The inner making of familiar names, walked; contracts.
-/
import Derived.Test.YtgbmhkmhpmkadaaStr0
set_option linter.unusedVariables false
set_option linter.unusedSimpArgs false
namespace Go.Proofs.Ytgbmhkmhpmkadaa
open Go Go.RowKit Go.Proofs.YtgbmhkmhpmkadaaW.PrintWords Go.Proofs.YtgbmhkmhpmkadaaW.PrintLast

set_option maxHeartbeats 4000000 in
set_option maxRecDepth 100000 in
theorem trim23 (s : ByteArray) (w : World) (h : hasLib s = true) : Calls Try.prog 23 #[.string s, .string ⟨#[108, 105, 98, 114, 97, 114, 121, 47]⟩] w fun e w' => e = .returned (.string (s.extract 8 s.size)) ∧ Below w.heap.size w w' := by
  have h8 : 8 ≤ s.size := by
    unfold hasLib at h
    rw [Bool.and_eq_true] at h
    exact of_decide_eq_true h.1
  have c1 : (8 ≤ (s.size : Int)) = True := eq_true (by omega)
  have c2 : (8 ≤ s.size) = True := eq_true h8
  have HH := Aside0.mk h
  clear h h8
  go_enter Try.func23, Try.ntmps23
  go_wp2_with (go_at_call 22; (with_reducible refine (hasPrefix22 s _).mono ?_); rintro e w1 ⟨rfl, hb⟩; rw [HH.out]; have HB := Aside0.mk hb; clear hb)
  go_ret
  exact ⟨rfl, HB.out⟩
set_option maxHeartbeats 4000000 in
set_option maxRecDepth 100000 in
theorem hasPrefix16 (s : ByteArray) (w : World) : Calls Try.prog 16 #[.string s, .string ⟨#[108, 105, 98, 114, 97, 114, 121, 47]⟩] w fun e w' => e = .returned (.bool (hasLib s)) ∧ Below w.heap.size w w' := by
  go_enter Try.func16, Try.ntmps16
  go_wp2_with (go_at_call 22; (with_reducible refine (hasPrefix22 s _).mono ?_); rintro e w1 ⟨rfl, hb⟩; have HB := Aside0.mk hb; clear hb)
  go_ret
  exact ⟨rfl, HB.out⟩
set_option maxHeartbeats 4000000 in
set_option maxRecDepth 100000 in
theorem trim17 (s : ByteArray) (w : World) (h : hasLib s = true) : Calls Try.prog 17 #[.string s, .string ⟨#[108, 105, 98, 114, 97, 114, 121, 47]⟩] w fun e w' => e = .returned (.string (s.extract 8 s.size)) ∧ Below w.heap.size w w' := by
  have HH := Aside0.mk h
  clear h
  go_enter Try.func17, Try.ntmps17
  go_wp2_with (go_at_call 23; (with_reducible refine (trim23 s _ HH.out).mono ?_); rintro e w1 ⟨rfl, hb⟩; have HB := Aside0.mk hb; clear hb)
  go_ret
  exact ⟨rfl, HB.out⟩
theorem domain42 (d p : ByteArray) (w : World) : Calls Try.prog 42 #[.agg #[.string d, .string p]] w fun e w' => e = .returned (.string d) ∧ Below w.heap.size w w' := by
  go_enter Try.func42, Try.ntmps42
  go_wp2
  go_ret
  exact ⟨rfl, by repeat (first | exact Below.refl _ _ | apply bl_alloc)⟩
theorem path43 (d p : ByteArray) (w : World) : Calls Try.prog 43 #[.agg #[.string d, .string p]] w fun e w' => e = .returned (.string p) ∧ Below w.heap.size w w' := by
  go_enter Try.func43, Try.ntmps43
  go_wp2
  go_ret
  exact ⟨rfl, by repeat (first | exact Below.refl _ _ | apply bl_alloc)⟩
theorem bl_set {w W : World} (h : Below w.heap.size w W) {p : Addr} (hp : w.heap.size ≤ p.block) (v : Value) : Below w.heap.size w (W.setCell p v) := h.setCell hp _
theorem heap_new0 (W : World) (q : Nat) (o : Obj) (h : q = W.heap.size) : (W.alloc o).heap[q]? = some o := by subst h; exact (MapKept.heap_alloc W o).1
theorem cellsOf {w : World} {g : Nat} {t : TypeId} {cs : Array Value} (h : w.heap[g]? = some (.cells cs t (0, 0))) (i : Nat) : w.cell? ⟨g, i, none⟩ = cs[i]? := cell_of_row w g i cs t (0, 0) h
theorem frozenOf {w : World} {g : Nat} {t : TypeId} {cs : Array Value} (h : w.heap[g]? = some (.cells cs t (0, 0))) (i : Nat) : w.frozen? ⟨g, i, none⟩ = false := by simp [World.frozen?, h]
/-- the state behind familiarizeName's first statement -/
def F14 (w : World) (r q : Nat) (d p : ByteArray) (W : World) : Prop := W.heap[r]? = some (.cells #[.string ⟨#[]⟩, .string ⟨#[]⟩] 31 (0, 0)) ∧ W.heap[q]? = some (.cells #[.string d, .string p] 31 (0, 0)) ∧ r < q ∧ w.heap.size ≤ r ∧ Below w.heap.size w W
theorem f14_start {d p : ByteArray} {w w1 w2 : World} (hb1 : Below (w.alloc (.cells #[.string ⟨#[]⟩, .string ⟨#[]⟩] 31)).heap.size (w.alloc (.cells #[.string ⟨#[]⟩, .string ⟨#[]⟩] 31)) w1) (hb2 : Below w1.heap.size w1 w2) : F14 w w.heap.size w2.heap.size d p (w2.alloc (.cells #[.string d, .string p] 31)) := by
  have h0 := heap_new0 w _ (.cells #[.string ⟨#[]⟩, .string ⟨#[]⟩] 31) rfl
  have hb3 := bl_on hb1 hb2
  have h1 := (hb3.block w.heap.size (by simp)).trans h0
  have h4 := hb3.size
  have h5 : w.heap.size < w2.heap.size := by simp at h4; omega
  exact ⟨((bl_alloc (Below.refl w2.heap.size w2) _).block _ h5).trans h1, heap_new0 w2 _ _ rfl, h5, Nat.le_refl _, bl_alloc (bl_on (bl_alloc (Below.refl _ _) _) hb3) _⟩
theorem f14_on {w : World} {r q : Nat} {d p : ByteArray} {W W' : World} (hb : Below W.heap.size W W') (h : F14 w r q d p W) : F14 w r q d p W' :=
  ⟨(hb.block _ (Array.getElem?_eq_some_iff.1 h.1).1).trans h.1, (hb.block _ (Array.getElem?_eq_some_iff.1 h.2.1).1).trans h.2.1, h.2.2.1, h.2.2.2.1, bl_on h.2.2.2.2 hb⟩
theorem f14_set0 {w : World} {r q : Nat} {d p : ByteArray} {W : World} (h : F14 w r q d p W) (d' : ByteArray) : F14 w r q d' p (W.setCell ⟨q, 0, none⟩ (.string d')) :=
  ⟨(Below.heap_setCell W ⟨q, 0, none⟩ _ r (by show r ≠ q; have := h.2.2.1; omega)).trans h.1, blk_put h.2.1 0 _ rfl, h.2.2.1, h.2.2.2.1, bl_set h.2.2.2.2 (by show _ ≤ q; have h1 := h.2.2.1; have h2 := h.2.2.2.1; omega) _⟩
theorem f14_set1 {w : World} {r q : Nat} {d p : ByteArray} {W : World} (h : F14 w r q d p W) (p' : ByteArray) : F14 w r q d p' (W.setCell ⟨q, 1, none⟩ (.string p')) :=
  ⟨(Below.heap_setCell W ⟨q, 1, none⟩ _ r (by show r ≠ q; have := h.2.2.1; omega)).trans h.1, blk_put h.2.1 1 _ rfl, h.2.2.1, h.2.2.2.1, bl_set h.2.2.2.2 (by show _ ≤ q; have h1 := h.2.2.1; have h2 := h.2.2.2.1; omega) _⟩
theorem f14_facts {w : World} {r q : Nat} {d p : ByteArray} {W : World} (h : F14 w r q d p W) : W.cell? ⟨q, 0, none⟩ = some (.string d) ∧ W.cell? ⟨q, 1, none⟩ = some (.string p) ∧ W.cell? ⟨r, 0, none⟩ = some (.string ⟨#[]⟩) ∧ W.cell? ⟨r, 1, none⟩ = some (.string ⟨#[]⟩) ∧ W.frozen? ⟨r, 0, none⟩ = false ∧ W.frozen? ⟨r, 1, none⟩ = false ∧ W.frozen? ⟨q, 0, none⟩ = false ∧ W.frozen? ⟨q, 1, none⟩ = false ∧ (r = q) = False ∧ (q = r) = False :=
  ⟨cellsOf h.2.1 0, cellsOf h.2.1 1, cellsOf h.1 0, cellsOf h.1 1, frozenOf h.1 0, frozenOf h.1 1, frozenOf h.2.1 0, frozenOf h.2.1 1, eq_false (by have := h.2.2.1; omega), eq_false (by have := h.2.2.1; omega)⟩
theorem bl_set2 {w : World} {r q : Nat} {d p : ByteArray} {W : World} (h : F14 w r q d p W) (u v : Value) : Below w.heap.size w ((W.setCell ⟨r, 0, none⟩ u).setCell ⟨r, 1, none⟩ v) := bl_set (bl_set h.2.2.2.2 h.2.2.2.1 _) h.2.2.2.1 _
set_option maxHeartbeats 8000000 in
set_option maxRecDepth 100000 in
theorem fam14_far (d p : ByteArray) (w : World) (hd : (d.toList == [100, 111, 99, 107, 101, 114, 46, 105, 111]) = false) :
    Calls Try.prog 14 #[.iface 31 (.agg #[.string d, .string p])] w fun e w' => e = .returned (.agg #[.string d, .string p]) ∧ Below w.heap.size w w' := by
  have hn1 : ∀ w : World, (nilAhead 158 31 (.agg #[.string d, .string p]) "Domain").run Try.prog w = .ok (some false) w := fun _ => by kernel_rfl
  have hn2 : ∀ w : World, (nilAhead 158 31 (.agg #[.string d, .string p]) "Path").run Try.prog w = .ok (some false) w := fun _ => by kernel_rfl
  have hm1 : ∀ w : World, (method 158 31 (.agg #[.string d, .string p]) "Domain").run Try.prog w = .ok (42, .agg #[.string d, .string p]) w := fun _ => by kernel_rfl
  have hm2 : ∀ w : World, (method 158 31 (.agg #[.string d, .string p]) "Path").run Try.prog w = .ok (43, .agg #[.string d, .string p]) w := fun _ => by kernel_rfl
  go_enter Try.func14, Try.ntmps14
  go_upto_region 2 with (first | (go_at_call 42; (with_reducible refine (domain42 d p _).mono ?_); rintro e w1 ⟨rfl, hb1⟩) | (go_at_call 43; (with_reducible refine (path43 d p _).mono ?_); rintro e w2 ⟨rfl, hb2⟩))
  have HF := Aside0.mk (f14_start (d := d) (p := p) hb1 hb2)
  clear hb1 hb2 hn1 hn2 hm1 hm2
  generalize w2.alloc (.cells #[.string d, .string p] 31) = W at HF ⊢
  generalize w2.heap.size = q at HF ⊢
  obtain ⟨r, hr⟩ : ∃ r, r = w.heap.size := ⟨_, rfl⟩
  rw [← hr] at HF ⊢
  clear hr
  obtain ⟨a0, a1, r0, r1, f0, f1, g0, g1, e0, e1⟩ := f14_facts HF.out
  go_wp2_with fail
  refine bodyPost_ret (v := .agg #[.string d, .string p]) (by simp [results, Try.results14, go_sem, r0, r1, a0, a1, e0, e1]) rfl ⟨rfl, ?_⟩
  exact bl_set2 HF.out _ _
set_option maxHeartbeats 8000000 in
set_option maxRecDepth 100000 in
theorem fam14_plain (d p : ByteArray) (w : World) (hd : (d.toList == [100, 111, 99, 107, 101, 114, 46, 105, 111]) = true) (hb : hasLib p = false) :
    Calls Try.prog 14 #[.iface 31 (.agg #[.string d, .string p])] w fun e w' => e = .returned (.agg #[.string ⟨#[]⟩, .string p]) ∧ Below w.heap.size w w' := by
  have HB := Aside0.mk hb
  clear hb
  have hn1 : ∀ w : World, (nilAhead 158 31 (.agg #[.string d, .string p]) "Domain").run Try.prog w = .ok (some false) w := fun _ => by kernel_rfl
  have hn2 : ∀ w : World, (nilAhead 158 31 (.agg #[.string d, .string p]) "Path").run Try.prog w = .ok (some false) w := fun _ => by kernel_rfl
  have hm1 : ∀ w : World, (method 158 31 (.agg #[.string d, .string p]) "Domain").run Try.prog w = .ok (42, .agg #[.string d, .string p]) w := fun _ => by kernel_rfl
  have hm2 : ∀ w : World, (method 158 31 (.agg #[.string d, .string p]) "Path").run Try.prog w = .ok (43, .agg #[.string d, .string p]) w := fun _ => by kernel_rfl
  go_enter Try.func14, Try.ntmps14
  go_upto_region 2 with (first | (go_at_call 42; (with_reducible refine (domain42 d p _).mono ?_); rintro e w1 ⟨rfl, hb1⟩) | (go_at_call 43; (with_reducible refine (path43 d p _).mono ?_); rintro e w2 ⟨rfl, hb2⟩))
  have HF := Aside0.mk (f14_start (d := d) (p := p) hb1 hb2)
  clear hb1 hb2 hn1 hn2 hm1 hm2
  generalize w2.alloc (.cells #[.string d, .string p] 31) = W at HF ⊢
  generalize w2.heap.size = q at HF ⊢
  obtain ⟨r, hr⟩ : ∃ r, r = w.heap.size := ⟨_, rfl⟩
  rw [← hr] at HF ⊢
  clear hr
  obtain ⟨a0, a1, r0, r1, f0, f1, g0, g1, e0, e1⟩ := f14_facts HF.out
  go_upto_region 4 with fail
  replace HF := Aside0.mk (f14_set0 HF.out ⟨#[]⟩)
  clear a0 a1 r0 r1 f0 f1 g0 g1 e0 e1
  generalize W.setCell ⟨q, 0, none⟩ (.string ⟨#[]⟩) = W1 at HF ⊢
  obtain ⟨a0, a1, r0, r1, f0, f1, g0, g1, e0, e1⟩ := f14_facts HF.out
  go_upto_region 8 with (go_at_call 16; (with_reducible refine (hasPrefix16 p _).mono ?_); rintro e w4 ⟨rfl, hb4⟩; rw [HB.out]; have HF4 := Aside0.mk (f14_on hb4 HF.out); clear hb4)
  clear a0 a1 r0 r1 f0 f1 g0 g1 e0 e1
  clear HF
  have HF := HF4
  clear HF4
  obtain ⟨a0, a1, r0, r1, f0, f1, g0, g1, e0, e1⟩ := f14_facts HF.out
  go_wp2_with fail
  refine bodyPost_ret (v := .agg #[.string ⟨#[]⟩, .string p]) (by simp [results, Try.results14, go_sem, r0, r1, a0, a1, e0, e1]) rfl ⟨rfl, ?_⟩
  exact bl_set2 HF.out _ _
set_option maxHeartbeats 8000000 in
set_option maxRecDepth 100000 in
theorem fam14_deep (d p : ByteArray) (w : World) (hd : (d.toList == [100, 111, 99, 107, 101, 114, 46, 105, 111]) = true) (hb : hasLib p = true) (hp : Plain (p.extract 8 p.size)) (hc : anyB (· == 47) (p.extract 8 p.size) = true) :
    Calls Try.prog 14 #[.iface 31 (.agg #[.string d, .string p])] w fun e w' => e = .returned (.agg #[.string ⟨#[]⟩, .string p]) ∧ Below w.heap.size w w' := by
  have HB := Aside0.mk hb
  have HP := Aside0.mk hp
  have HC := Aside0.mk hc
  clear hb hp hc
  have hn1 : ∀ w : World, (nilAhead 158 31 (.agg #[.string d, .string p]) "Domain").run Try.prog w = .ok (some false) w := fun _ => by kernel_rfl
  have hn2 : ∀ w : World, (nilAhead 158 31 (.agg #[.string d, .string p]) "Path").run Try.prog w = .ok (some false) w := fun _ => by kernel_rfl
  have hm1 : ∀ w : World, (method 158 31 (.agg #[.string d, .string p]) "Domain").run Try.prog w = .ok (42, .agg #[.string d, .string p]) w := fun _ => by kernel_rfl
  have hm2 : ∀ w : World, (method 158 31 (.agg #[.string d, .string p]) "Path").run Try.prog w = .ok (43, .agg #[.string d, .string p]) w := fun _ => by kernel_rfl
  go_enter Try.func14, Try.ntmps14
  go_upto_region 2 with (first | (go_at_call 42; (with_reducible refine (domain42 d p _).mono ?_); rintro e w1 ⟨rfl, hb1⟩) | (go_at_call 43; (with_reducible refine (path43 d p _).mono ?_); rintro e w2 ⟨rfl, hb2⟩))
  have HF := Aside0.mk (f14_start (d := d) (p := p) hb1 hb2)
  clear hb1 hb2 hn1 hn2 hm1 hm2
  generalize w2.alloc (.cells #[.string d, .string p] 31) = W at HF ⊢
  generalize w2.heap.size = q at HF ⊢
  obtain ⟨r, hr⟩ : ∃ r, r = w.heap.size := ⟨_, rfl⟩
  rw [← hr] at HF ⊢
  clear hr
  obtain ⟨a0, a1, r0, r1, f0, f1, g0, g1, e0, e1⟩ := f14_facts HF.out
  go_upto_region 4 with fail
  replace HF := Aside0.mk (f14_set0 HF.out ⟨#[]⟩)
  clear a0 a1 r0 r1 f0 f1 g0 g1 e0 e1
  generalize W.setCell ⟨q, 0, none⟩ (.string ⟨#[]⟩) = W1 at HF ⊢
  obtain ⟨a0, a1, r0, r1, f0, f1, g0, g1, e0, e1⟩ := f14_facts HF.out
  go_upto_region 5 with (go_at_call 16; (with_reducible refine (hasPrefix16 p _).mono ?_); rintro e w4 ⟨rfl, hb4⟩; rw [HB.out]; have HF4 := Aside0.mk (f14_on hb4 HF.out); clear hb4)
  clear a0 a1 r0 r1 f0 f1 g0 g1 e0 e1
  clear HF
  have HF := HF4
  clear HF4
  obtain ⟨a0, a1, r0, r1, f0, f1, g0, g1, e0, e1⟩ := f14_facts HF.out
  go_upto_region 6 with (go_at_call 17; (with_reducible refine (trim17 p _ HB.out).mono ?_); rintro e w5 ⟨rfl, hb5⟩; have HF5 := Aside0.mk (f14_on hb5 HF.out); clear hb5)
  clear a0 a1 r0 r1 f0 f1 g0 g1 e0 e1
  clear HF
  have HF := HF5
  clear HF5
  obtain ⟨a0, a1, r0, r1, f0, f1, g0, g1, e0, e1⟩ := f14_facts HF.out
  go_upto_region 8 with (go_at_call 18; (with_reducible refine (containsRune_any (p.extract 8 p.size) HP.out _).mono ?_); rintro e w6 ⟨rfl, hb6⟩; rw [HC.out]; have HF6 := Aside0.mk (f14_on hb6 HF.out); clear hb6)
  clear a0 a1 r0 r1 f0 f1 g0 g1 e0 e1
  clear HF
  have HF := HF6
  clear HF6
  obtain ⟨a0, a1, r0, r1, f0, f1, g0, g1, e0, e1⟩ := f14_facts HF.out
  go_wp2_with fail
  refine bodyPost_ret (v := .agg #[.string ⟨#[]⟩, .string p]) (by simp [results, Try.results14, go_sem, r0, r1, a0, a1, e0, e1]) rfl ⟨rfl, ?_⟩
  exact bl_set2 HF.out _ _
set_option maxHeartbeats 8000000 in
set_option maxRecDepth 100000 in
theorem fam14_off (d p : ByteArray) (w : World) (hd : (d.toList == [100, 111, 99, 107, 101, 114, 46, 105, 111]) = true) (hb : hasLib p = true) (hp : Plain (p.extract 8 p.size)) (hc : anyB (· == 47) (p.extract 8 p.size) = false) :
    Calls Try.prog 14 #[.iface 31 (.agg #[.string d, .string p])] w fun e w' => e = .returned (.agg #[.string ⟨#[]⟩, .string (p.extract 8 p.size)]) ∧ Below w.heap.size w w' := by
  have HB := Aside0.mk hb
  have HP := Aside0.mk hp
  have HC := Aside0.mk hc
  clear hb hp hc
  have hn1 : ∀ w : World, (nilAhead 158 31 (.agg #[.string d, .string p]) "Domain").run Try.prog w = .ok (some false) w := fun _ => by kernel_rfl
  have hn2 : ∀ w : World, (nilAhead 158 31 (.agg #[.string d, .string p]) "Path").run Try.prog w = .ok (some false) w := fun _ => by kernel_rfl
  have hm1 : ∀ w : World, (method 158 31 (.agg #[.string d, .string p]) "Domain").run Try.prog w = .ok (42, .agg #[.string d, .string p]) w := fun _ => by kernel_rfl
  have hm2 : ∀ w : World, (method 158 31 (.agg #[.string d, .string p]) "Path").run Try.prog w = .ok (43, .agg #[.string d, .string p]) w := fun _ => by kernel_rfl
  go_enter Try.func14, Try.ntmps14
  go_upto_region 2 with (first | (go_at_call 42; (with_reducible refine (domain42 d p _).mono ?_); rintro e w1 ⟨rfl, hb1⟩) | (go_at_call 43; (with_reducible refine (path43 d p _).mono ?_); rintro e w2 ⟨rfl, hb2⟩))
  have HF := Aside0.mk (f14_start (d := d) (p := p) hb1 hb2)
  clear hb1 hb2 hn1 hn2 hm1 hm2
  generalize w2.alloc (.cells #[.string d, .string p] 31) = W at HF ⊢
  generalize w2.heap.size = q at HF ⊢
  obtain ⟨r, hr⟩ : ∃ r, r = w.heap.size := ⟨_, rfl⟩
  rw [← hr] at HF ⊢
  clear hr
  obtain ⟨a0, a1, r0, r1, f0, f1, g0, g1, e0, e1⟩ := f14_facts HF.out
  go_upto_region 4 with fail
  replace HF := Aside0.mk (f14_set0 HF.out ⟨#[]⟩)
  clear a0 a1 r0 r1 f0 f1 g0 g1 e0 e1
  generalize W.setCell ⟨q, 0, none⟩ (.string ⟨#[]⟩) = W1 at HF ⊢
  obtain ⟨a0, a1, r0, r1, f0, f1, g0, g1, e0, e1⟩ := f14_facts HF.out
  go_upto_region 5 with (go_at_call 16; (with_reducible refine (hasPrefix16 p _).mono ?_); rintro e w4 ⟨rfl, hb4⟩; rw [HB.out]; have HF4 := Aside0.mk (f14_on hb4 HF.out); clear hb4)
  clear a0 a1 r0 r1 f0 f1 g0 g1 e0 e1
  clear HF
  have HF := HF4
  clear HF4
  obtain ⟨a0, a1, r0, r1, f0, f1, g0, g1, e0, e1⟩ := f14_facts HF.out
  go_upto_region 6 with (go_at_call 17; (with_reducible refine (trim17 p _ HB.out).mono ?_); rintro e w5 ⟨rfl, hb5⟩; have HF5 := Aside0.mk (f14_on hb5 HF.out); clear hb5)
  clear a0 a1 r0 r1 f0 f1 g0 g1 e0 e1
  clear HF
  have HF := HF5
  clear HF5
  obtain ⟨a0, a1, r0, r1, f0, f1, g0, g1, e0, e1⟩ := f14_facts HF.out
  go_upto_region 7 with (go_at_call 18; (with_reducible refine (containsRune_any (p.extract 8 p.size) HP.out _).mono ?_); rintro e w6 ⟨rfl, hb6⟩; rw [HC.out]; have HF6 := Aside0.mk (f14_on hb6 HF.out); clear hb6)
  clear a0 a1 r0 r1 f0 f1 g0 g1 e0 e1
  clear HF
  have HF := HF6
  clear HF6
  obtain ⟨a0, a1, r0, r1, f0, f1, g0, g1, e0, e1⟩ := f14_facts HF.out
  go_upto_region 8 with fail
  replace HF := Aside0.mk (f14_set1 HF.out (p.extract 8 p.size))
  clear a0 a1 r0 r1 f0 f1 g0 g1 e0 e1
  generalize w6.setCell ⟨q, 1, none⟩ (.string (p.extract 8 p.size)) = W7 at HF ⊢
  obtain ⟨a0, a1, r0, r1, f0, f1, g0, g1, e0, e1⟩ := f14_facts HF.out
  go_wp2_with fail
  refine bodyPost_ret (v := .agg #[.string ⟨#[]⟩, .string (p.extract 8 p.size)]) (by simp [results, Try.results14, go_sem, r0, r1, a0, a1, e0, e1]) rfl ⟨rfl, ?_⟩
  exact bl_set2 HF.out _ _
/-- the familiar name -/
def fam (d p : ByteArray) : ByteArray × ByteArray :=
  if (d.toList == [100, 111, 99, 107, 101, 114, 46, 105, 111]) = true then (⟨#[]⟩, if hasLib p = true then (if anyB (· == 47) (p.extract 8 p.size) = true then p else p.extract 8 p.size) else p) else (d, p)
theorem plain_extract {s : ByteArray} (h : Plain s) (a e : Nat) : Plain (s.extract a e) := fun b hb => h b (mem_extract hb)
theorem fam14_any (d p : ByteArray) (w : World) (hp : Plain p) :
    Calls Try.prog 14 #[.iface 31 (.agg #[.string d, .string p])] w fun e w' => e = .returned (.agg #[.string (fam d p).1, .string (fam d p).2]) ∧ Below w.heap.size w w' := by
  unfold fam
  by_cases hd : (d.toList == [100, 111, 99, 107, 101, 114, 46, 105, 111]) = true
  · rw [if_pos hd]
    by_cases hb : hasLib p = true
    · rw [if_pos hb]
      by_cases hc : anyB (· == 47) (p.extract 8 p.size) = true
      · rw [if_pos hc]; exact fam14_deep d p w hd hb (plain_extract hp _ _) hc
      · rw [if_neg hc]; exact fam14_off d p w hd hb (plain_extract hp _ _) (Bool.eq_false_iff.2 hc)
    · rw [if_neg hb]; exact fam14_plain d p w hd (Bool.eq_false_iff.2 hb)
  · rw [if_neg hd]; exact fam14_far d p w (Bool.eq_false_iff.2 hd)
abbrev S12 (w : World) (q : Nat) (d p : ByteArray) (W : World) : Prop := W.cell? ⟨q, 0, none⟩ = some (.string d) ∧ W.cell? ⟨q, 1, none⟩ = some (.string p) ∧ Hid (Below w.heap.size w W)
theorem s12_drew {w : World} {q : Nat} {d p : ByteArray} {W : World} (h : S12 w q d p W) : S12 w q d p W.drew := ⟨h.1, h.2.1, Lib.hid (bl_drew h.2.2.out)⟩
theorem s12_start {w w1 : World} {d p : ByteArray} (h : Below w.heap.size w w1) : S12 w w1.heap.size d p (w1.alloc (.cells #[.string d, .string p] 31)) :=
  ⟨cellsOf (heap_new0 w1 _ (.cells #[.string d, .string p] 31) rfl) 0, cellsOf (heap_new0 w1 _ (.cells #[.string d, .string p] 31) rfl) 1, Lib.hid (bl_alloc h _)⟩
set_option maxHeartbeats 8000000 in
set_option maxRecDepth 100000 in
theorem fam12_any (d p : ByteArray) (w : World) (hp : Plain p) :
    Calls Try.prog 12 #[.string d, .string p] w fun e w' => e = .returned (.tuple #[.string (fam d p).1, .string (fam d p).2]) ∧ Below w.heap.size w w' := by
  have HP := Aside0.mk hp
  obtain ⟨d', hd'⟩ : ∃ x, x = (fam d p).1 := ⟨_, rfl⟩
  obtain ⟨p', hp'⟩ : ∃ x, x = (fam d p).2 := ⟨_, rfl⟩
  have H14 := fun W => fam14_any d p W hp
  rw [← hd', ← hp'] at H14
  rw [← hd', ← hp']
  have HC := Aside0.mk H14
  clear hp hd' hp' H14
  go_enter Try.func12, Try.ntmps12
  go_upto_region 2 with (go_at_call 14; (with_reducible refine (HC.out _).mono ?_); rintro e w1 ⟨rfl, hb1⟩; have HB1 := Aside0.mk hb1; clear hb1)
  have HS := Aside0.mk (s12_start (d := d') (p := p') HB1.out)
  generalize w1.alloc (.cells #[.string d', .string p'] 31) = W at HS ⊢
  generalize w1.heap.size = q at HS ⊢
  first | go_region_held3 (fun W => S12 w q d' p' W) (first | assumption | exact s12_drew HS.out | fail) (fail) | fail
  rename_i hH
  have HB := Lib.hid hH.2.2.out
  clear hH
  go_wp2_with fail
  go_ret2
  exact ⟨rfl, HB.out⟩
/-- all bytes are plain, as a test -/
def plainB (s : ByteArray) : Bool := s.data.toList.all fun b => decide (b.toNat < 128)
theorem plain_of {s : ByteArray} (h : plainB s = true) : Plain s := fun b hb => of_decide_eq_true (List.all_eq_true.1 h b hb)
end Go.Proofs.Ytgbmhkmhpmkadaa
namespace Go.Proofs.Ytgbmhkmhpmkadaa.QW
open Go Go.RowKit Go.Proofs.YtgbmhkmhpmkadaaW.PrintWords Go.Proofs.YtgbmhkmhpmkadaaW.PrintLast
/-- the familiar name; asked of plain paths -/
def reference_ZZFamiliarize.f (a0 a1 : ByteArray) : Option (ByteArray × ByteArray) := if plainB a1 = true then some ((fam a0 a1).1, (fam a0 a1).2) else none
theorem reference_ZZFamiliarize.calls (a0 a1 : ByteArray) (r1 r2 : ByteArray) (w : World) (h : reference_ZZFamiliarize.f a0 a1 = some (r1, r2)) :
    Calls Try.prog 12 #[.string a0, .string a1] w fun e w' => e = .returned (.tuple #[.string r1, .string r2]) ∧ Below w.heap.size w w' := by
  unfold reference_ZZFamiliarize.f at h
  by_cases hc : plainB a1 = true
  · rw [if_pos hc] at h
    simp only [Option.some.injEq, Prod.mk.injEq] at h
    obtain ⟨rfl, rfl⟩ := h
    exact fam12_any a0 a1 w (plain_of hc)
  · rw [if_neg hc] at h; cases h
/-- does a plain text hold a slash? -/
def reference_zzContainsRune.f (a0 : ByteArray) (a1 : Int) : Option Bool := if plainB a0 = true ∧ a1 = 47 then some (anyB (· == 47) a0) else none
theorem reference_zzContainsRune.calls (a0 : ByteArray) (a1 : Int) (r : Bool) (w : World) (h : reference_zzContainsRune.f a0 a1 = some r) :
    Calls Try.prog 18 #[.string a0, .int .i32 a1] w fun e w' => e = .returned (.bool r) ∧ Below w.heap.size w w' := by
  unfold reference_zzContainsRune.f at h
  by_cases hc : plainB a0 = true ∧ a1 = 47
  · rw [if_pos hc] at h
    obtain rfl := Option.some.inj h
    obtain ⟨h1, rfl⟩ := hc
    exact containsRune_any a0 (plain_of h1) w
  · rw [if_neg hc] at h; cases h
/-- does a plain text hold a point or a colon? -/
def reference_zzContainsAny.f (a0 a1 : ByteArray) : Option Bool := if plainB a0 = true ∧ a1 = ⟨#[46, 58]⟩ then some (anyB isDot a0) else none
theorem reference_zzContainsAny.calls (a0 a1 : ByteArray) (r : Bool) (w : World) (h : reference_zzContainsAny.f a0 a1 = some r) :
    Calls Try.prog 20 #[.string a0, .string a1] w fun e w' => e = .returned (.bool r) ∧ Below w.heap.size w w' := by
  unfold reference_zzContainsAny.f at h
  by_cases hc : plainB a0 = true ∧ a1 = ⟨#[46, 58]⟩
  · rw [if_pos hc] at h
    obtain rfl := Option.some.inj h
    obtain ⟨h1, rfl⟩ := hc
    exact containsAny_any a0 (plain_of h1) w
  · rw [if_neg hc] at h; cases h
/-- a plain text in small letters -/
def reference_zzLower.f (a0 : ByteArray) : Option ByteArray := if plainB a0 = true ∧ a0.size ≤ 2147483647 then some (strOfNums (lowL a0 a0.size)) else none
theorem reference_zzLower.calls (a0 : ByteArray) (r : ByteArray) (w : World) (h : reference_zzLower.f a0 = some r) :
    Calls Try.prog 21 #[.string a0] w fun e w' => e = .returned (.string r) ∧ Below w.heap.size w w' := by
  unfold reference_zzLower.f at h
  by_cases hc : plainB a0 = true ∧ a0.size ≤ 2147483647
  · rw [if_pos hc] at h
    obtain rfl := Option.some.inj h
    exact lower_any a0 (plain_of hc.1) hc.2 w
  · rw [if_neg hc] at h; cases h
end Go.Proofs.Ytgbmhkmhpmkadaa.QW
