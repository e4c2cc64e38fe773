/-
  A set of digests of one algorithm, made of their encoded parts.
-/
import Derived.Test.YteonaghjhjnijaaBase
import Derived.Test.YteonaghjhjnijaaQWx2
import Derived.LoopTactic
import Derived.Deep.LoopGhost
import Derived.Outline
set_option linter.unusedVariables false
set_option linter.unusedSimpArgs false
namespace Go.Proofs.Yteonaghjhjnijaa
open Go Go.RowKit Go.Proofs.YteonaghjhjnijaaW.PrintWords Go.Proofs.YteonaghjhjnijaaW.PrintLast
theorem frozenOf {w : World} {g : Nat} {t : TypeId} {cs : Array Value} (h : w.heap[g]? = some (.cells cs t (0, 0))) (i : Nat) : w.frozen? ⟨g, i, none⟩ = false := by
  unfold World.frozen?
  rw [h]
  simp
/-- an entry's cells; pointers to entries; the set's cells -/
def entC (a v : ByteArray) : Array Value := #[.string a, .string v, .string (a ++ ⟨#[58]⟩ ++ v)]
def ptK : Kd Nat := Kd.scalar (fun q => .pointer (some ⟨q, 0, none⟩)) (fun _ => rfl)
def setC (v : Value) : Array Value := #[.int .i32 0, .int .u32 0, .int .u32 0, .int .u32 0, .int .i32 0, .int .i32 0, v]
/-- the blocks hold the entries -/
def Hold (W : World) (a : ByteArray) (ps : List Nat) (l : List ByteArray) : Prop := ps.length = l.length ∧ ∀ j, j < l.length → W.heap[ps.getD j 0]? = some (.cells (entC a (l.getD j ByteArray.empty)) 51 (0, 0))
theorem take_next {α : Type} (z : α) (l : List α) (y : Int) (h0 : 0 ≤ y) (h1 : y < (l.length : Int)) : l.take (y + 1).toNat = l.take y.toNat ++ [l.getD y.toNat z] := by
  have e : (y + 1).toNat = y.toNat + 1 := by omega
  have h : y.toNat < l.length := by omega
  rw [e, List.take_succ_eq_append_getElem h, List.getD_eq_getElem?_getD, List.getElem?_eq_getElem h]
  rfl
theorem wrap_next {y : Int} {n : Nat} (h0 : 0 ≤ y) (h1 : y < (n : Int)) (hn : n ≤ 2147483647) : wrap64 (y + 1) = y + 1 := by
  unfold wrap64
  omega
theorem take_length_le {α : Type} (l : List α) (n : Nat) : (l.take n).length ≤ l.length := by rw [List.length_take]; exact Nat.min_le_right _ _
theorem info52 : (Try.prog.info? 52).map (fun i => (i.zero, i.size, i.bytes)) = some (some (.pointer none), 1, 8) := by kernel_rfl
theorem hold_on {W W' : World} {a : ByteArray} {ps : List Nat} {l : List ByteArray} (h : Hold W a ps l) (hb : Below W.heap.size W W') : Hold W' a ps l :=
  ⟨h.1, fun j hj => (hb.block _ (Array.getElem?_eq_some_iff.1 (h.2 j hj)).1).trans (h.2 j hj)⟩
theorem getD_snoc_lt {α : Type} (z q : α) (l : List α) (j : Nat) (h : j < l.length) : (l ++ [q]).getD j z = l.getD j z := by
  simp only [List.getD_eq_getElem?_getD]; rw [List.getElem?_append_left h]
theorem getD_snoc_eq {α : Type} (z q : α) (l : List α) (j : Nat) (h : j = l.length) : (l ++ [q]).getD j z = q := by
  subst h
  simp only [List.getD_eq_getElem?_getD]; rw [List.getElem?_append_right (Nat.le_refl _)]; simp
theorem hold_snoc {W : World} {a : ByteArray} {ps : List Nat} {l : List ByteArray} {q : Nat} {v : ByteArray} (h : Hold W a ps l) (hq : W.heap[q]? = some (.cells (entC a v) 51 (0, 0))) : Hold W a (ps ++ [q]) (l ++ [v]) := by
  refine ⟨by simp [h.1], fun j hj => ?_⟩
  simp only [List.length_append, List.length_singleton] at hj
  by_cases hlt : j < l.length
  · rw [getD_snoc_lt 0 q ps j (by rw [h.1]; exact hlt), getD_snoc_lt ByteArray.empty v l j hlt]; exact h.2 j hlt
  · have e : j = l.length := by omega
    rw [getD_snoc_eq 0 q ps j (by rw [h.1]; exact e), getD_snoc_eq ByteArray.empty v l j e]; exact hq
theorem blk_own {W w1 : World} {xs : List Nat} {v : Value} {base g t : Nat} {cs : Array Value} (h : W.heap[g]? = some (.cells cs t (0, 0))) (ht : 52 ≠ t) (hR : Kd.R ptK 52 W base (fun _ => True) v xs) (hg : W.grownBy w1 v.ownBlock) : w1.heap[g]? = some (.cells cs t (0, 0)) :=
  blk_grown h hg (Kd.R_ne hR h ht)
theorem hold_grown {W w1 : World} {a : ByteArray} {ps xs : List Nat} {l : List ByteArray} {v : Value} {base : Nat} (h : Hold W a ps l) (hR : Kd.R ptK 52 W base (fun _ => True) v xs) (hg : W.grownBy w1 v.ownBlock) : Hold w1 a ps l :=
  ⟨h.1, fun j hj => blk_own (h.2 j hj) (by decide) hR hg⟩
theorem hold_set {W : World} {a : ByteArray} {ps : List Nat} {l : List ByteArray} {S i : Nat} {cs : Array Value} (h : Hold W a ps l) (hS : W.heap[S]? = some (.cells cs 48 (0, 0))) (v : Value) : Hold (W.setCell ⟨S, i, none⟩ v) a ps l := by
  refine ⟨h.1, fun j hj => blk_far (h.2 j hj) (p := ⟨S, i, none⟩) (fun he => ?_) v⟩
  have h1 := h.2 j hj
  rw [show ps.getD j 0 = S from he, hS] at h1
  injection h1 with h2
  injection h2 with h3 h4
  exact absurd h4 (by decide)
theorem R_empty (w : World) : Kd.R ptK 52 (w.alloc (.cells #[] 52)) w.heap.size (fun _ => True) (.slice (some ⟨w.heap.size, 0, none⟩) 0 0) [] :=
  ⟨fun _ _ => trivial, [], ⟨rfl, Or.inr ⟨w.heap.size, 0, #[], rfl, Nat.le_refl _, heap_new0 _ _ _ rfl, Nat.le_refl _, by decide, rfl, rfl⟩⟩, Reps.none _ _⟩
set_option maxHeartbeats 8000000 in
set_option maxRecDepth 100000 in
theorem newset16 (w : World) : Calls Try.prog 16 #[] w fun e w' => ∃ S v, e = .returned (.pointer (some ⟨S, 0, none⟩)) ∧ w.heap.size ≤ S ∧ w'.heap[S]? = some (.cells (setC v) 48 (0, 0)) ∧ Kd.R ptK 52 w' w.heap.size (fun _ => True) v [] ∧ Below w.heap.size w w' := by
  go_enter Try.func16, Try.ntmps16
  go_wp2
  go_ret
  exact ⟨_, _, rfl, by simp, heap_new0 _ _ _ (by simp), Kd.R_alloc (R_empty w) _, bl_alloc (bl_alloc (Below.refl _ _) _) _⟩
set_option maxHeartbeats 8000000 in
set_option maxRecDepth 100000 in
theorem zzset10 (a : ByteArray) (A : Option Addr) (c : Nat) (l : List ByteArray) (w : World) (hr : Kd.C Kd.string w A l.length l) (hn : l.length ≤ 40) (ha : a.size ≤ 50) (hl : ∀ j, j < l.length → (l.getD j ByteArray.empty).size ≤ 200) :
    Calls Try.prog 10 #[.string a, .slice A l.length c] w fun e w' => ∃ S v ps, e = .returned (.pointer (some ⟨S, 0, none⟩)) ∧ w.heap.size ≤ S ∧ w'.heap[S]? = some (.cells (setC v) 48 (0, 0)) ∧ Kd.R ptK 52 w' w.heap.size (fun _ => True) v ps ∧ Hold w' a ps l ∧ Below w.heap.size w w' := by
  have HR := Aside0.mk hr
  have HN := Aside0.mk hn
  have HL := Aside0.mk hl
  have s1 : (9223372036854775807 < a.size + 1) = False := eq_false (by omega)
  have HZ := Aside0.mk ha
  clear hr hn hl ha
  go_enter Try.func10, Try.ntmps10
  go_wp2_with (go_at_call 16; (with_reducible refine (newset16 _).mono ?_); rintro e w2 ⟨S, v, rfl, hS0, hS, hv, hb⟩; have HS0 := Aside0.mk hS0; have HS := Aside0.mk hS; have HV := Aside0.mk hv; have HB := Aside0.mk hb; clear hS0 hS hv hb)
  have HQ := Aside0.mk (show ∀ (W : World) (X : Obj), Below W.heap.size W (W.alloc X) from fun W X => bl_alloc (Below.refl _ _) _)
  go_loopg [11] (l.length + 1) (fun g v11 w' => ∃ (x : Int) (u : Value) (ps : List Nat), v11 = .int .i64 x ∧ Aside0 (0 ≤ x ∧ x ≤ l.length ∧ g + x.toNat = l.length + 1) ∧ Aside0 (w'.heap[S]? = some (.cells (setC u) 48 (0, 0))) ∧ Aside0 (Kd.R ptK 52 w' w.heap.size (fun _ => True) u ps) ∧ Aside0 (Hold w' a ps (l.take x.toNat)) ∧ Aside0 (Below w.heap.size w w'))
  case atStart => exact ⟨0, v, [], rfl, ⟨by omega, by omega, by simp⟩, HS, HV, ⟨by refine ⟨by simp, fun j hj => ?_⟩; simp at hj⟩, HB⟩
  case round =>
    clear HS HV HB
    obtain ⟨x, u, ps, rfl, HI, HS, HO, HH, HB⟩ := hrel
    by_cases hlt : x < (l.length : Int)
    · have c1 : decide (x < (l.length : Int)) = true := decide_eq_true hlt
      have p0 : 0 ≤ x := HI.out.1
      have p1 : x < (l.length : Int) := hlt
      obtain ⟨ad, e0, g0⟩ := Kd.at_string HR.out x p0 p1
      cases e0
      replace g0 := cell_on HB.out g0
      obtain ⟨tm, htm⟩ : ∃ tm, tm = rdOf ByteArray.empty l x := ⟨_, rfl⟩
      rw [← htm] at g0
      have HM := Aside0.mk htm
      have E1 := Aside0.mk (wrap_next p0 p1 (Nat.le_trans HN.out (by decide)))
      have E2 := Aside0.mk (take_next ByteArray.empty l x p0 p1)
      have hts : tm.size ≤ 200 := by have h1 := HL.out x.toNat (by omega); rw [htm]; exact h1
      have s2 : (9223372036854775807 < a.size + 1 + tm.size) = False := eq_false (by have := HZ.out; omega)
      have z6 : wr.cell? ⟨S, 6, none⟩ = some u := cellsOf HS.out 6
      clear htm hlt hts
      replace p0 := eq_true p0
      replace p1 := eq_true p1
      go_wp2_with (at_builtin; refine Kd.R_append ptK (w0 := w) w.heap.size rfl (.tmp 19) (.tmp 28) 46 52 (.pointer none) 8 rfl Try.underlying46 info52 rfl (by decide) (by omega) u ps wr.heap.size [.pointer (some ⟨wr.heap.size, 0, none⟩)] (fun _ => True) (fun _ => False) rfl (by show Value.slice (some ⟨wr.heap.size + 1, 0, none⟩) 1 1 = _; simp) ?aP ?aK (fun _ _ => trivial) ?aO ?aB ?aS ?aL ?_; (case aP => exact rfl); (case aK => exact fun _ h => h.elim); (case aO => exact Kd.R_below HO.out (HQ.out _ _)); (case aB => exact bl_on HB.out (HQ.out _ _)); (case aS => exact (bl_on HB.out (HQ.out _ _)).size); (case aL => have h1 := HH.out.1; rw [List.length_take] at h1; have h2 := HN.out; omega); intro v1 w1 hR1 hB1 hg1 _; obtain ⟨A1, k1, rfl⟩ := Kd.R_slice hR1; rw [List.length_append, List.length_singleton] at hR1; have HR1 := Aside0.mk hR1; have HB1 := Aside0.mk hB1; have HG1 := Aside0.mk hg1; have HS1 := Aside0.mk (blk_own (blk_below HS.out (HQ.out _ _)) (by decide) (Kd.R_below HO.out (HQ.out _ _)) hg1); have y6 : w1.cell? ⟨S, 6, none⟩ = some u := cellsOf HS1.out 6; have f6 := frozenOf HS1.out 6; clear hR1 hB1 hg1)
      go_roundg (gk - 1)
      case measure => have h1 := HI.out; have h2 := of_eq_true p1; omega
      case rel => exact ⟨wrap64 (x + 1), _, ps ++ [wr.heap.size], rfl, ⟨by rw [E1.out]; have h1 := HI.out; have h2 := of_eq_true p1; omega⟩, ⟨blk_set HS1.out 6 _⟩, ⟨Kd.R_set HR1.out HS1.out (by intro q hq; simp [ptK, Kd.scalar] at hq; subst hq; decide) 6 _⟩, ⟨by rw [E1.out, E2.out, ← (show tm = l.getD x.toNat ByteArray.empty from HM.out)]; exact hold_set (hold_grown (hold_snoc (hold_on HH.out (HQ.out _ _)) (heap_new0 _ _ _ rfl)) (Kd.R_below HO.out (HQ.out _ _)) HG1.out) HS1.out _⟩, ⟨bl_set HB1.out HS0.out _⟩⟩
    · have c1 : decide (x < (l.length : Int)) = false := decide_eq_false hlt
      have E0 : Aside0 (l.take x.toNat = l) := ⟨by have h1 := HI.out; rw [List.take_of_length_le (by omega)]⟩
      clear hlt
      go_wp2
      go_ret
      exact ⟨_, _, ps, rfl, HS0.out, HS.out, HO.out, by rw [E0.out] at HH; exact HH.out, HB.out⟩
end Go.Proofs.Yteonaghjhjnijaa
