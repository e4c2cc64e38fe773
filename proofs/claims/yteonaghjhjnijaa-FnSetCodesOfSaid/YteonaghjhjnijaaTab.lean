/-
  ShortCodeTable, walked.
-/
import Derived.Test.YteonaghjhjnijaaCod0
import Derived.Test.YteonaghjhjnijaaLocks
import Derived.Maps.Own
import Derived.Maps.OwnOps
import Derived.Maps.OwnSet
import Derived.Maps.Views
import Derived.Maps.Keyed
import Derived.Lib.Hide
set_option linter.unusedVariables false
set_option linter.unusedSimpArgs false
namespace Go.Proofs.Yteonaghjhjnijaa
open Go Go.Maps Go.RowKit Go.RwLone Go.Proofs.YteonaghjhjnijaaW.PrintWords Go.Proofs.YteonaghjhjnijaaW.PrintLast Go.Proofs.Yteonaghjhjnijaa.QK
theorem law31 : Keyed Try.prog 31 := string_keyed Try.underlying31
theorem key31 (s : ByteArray) (hs : s.size ≤ 1000) : keyOf Try.prog 31 (.string s) = some (.string (L s)) := Go.WideMaps.keyOf_string_mk Try.underlying31 (by unfold maxLen; omega)
abbrev Owns (w : World) (b n : Nat) (D : DataW Unit) : Prop := w.ownsMap Try.prog 31 (plainElem Try.prog 9) b n D
theorem pe (s : ByteArray) (hs : s.size ≤ 1000) : plainElem (H := Unit) Try.prog 9 (.string s) = some (.lit (.string (L s)), []) := plainElem_string Try.underlying9 (by unfold maxLen; omega)
/-- the codes of the first k texts -/
def Keys (a : ByteArray) (l : List ByteArray) (n : Nat) (D : DataW Unit) (k : Nat) : Prop := ∀ j, j < k → ∀ z, D.atKey (.string (L (dig a (val l j)))) z = .lit (.string (L (codeF a l n j)))
/-- one entry, read -/
def EN (a : ByteArray) (l : List ByteArray) (S : Nat) (A : Option Addr) (c : Nat) (W : World) : Prop := W.cell? ⟨S, 6, none⟩ = some (.slice A l.length c) ∧ ∀ i, i < l.length → ∃ ad p, A = some ad ∧ W.cell? (ad.add i) = some (.pointer (some ⟨p, 0, none⟩)) ∧ W.cell? ⟨p, 0, none⟩ = some (.string a) ∧ W.cell? ⟨p, 1, none⟩ = some (.string (val l i)) ∧ W.cell? ⟨p, 2, none⟩ = some (.string (dig a (val l i)))
theorem cell_far {w : World} {x y : Addr} {v u u' : Value} (h : w.cell? x = some v) (hy : w.cell? y = some u) (hne : v ≠ u) : (w.setCell y u').cell? x = some v := by
  rw [World.cell?_setCell_other w y x u' (fun e => hne (by rw [e] at hy; rw [h] at hy; exact Option.some.inj hy))]
  exact h
theorem en_set {a : ByteArray} {l : List ByteArray} {S : Nat} {A : Option Addr} {c : Nat} {W : World} (h : EN a l S A c W) (y : Addr) (x : Int) (u' : Value) (hy : W.cell? y = some (.int .i32 x)) : EN a l S A c (W.setCell y u') :=
  ⟨cell_far h.1 hy (by simp), fun i hi => by
    obtain ⟨ad, p, h0, h1, h2, h3, h4⟩ := h.2 i hi
    exact ⟨ad, p, h0, cell_far h1 hy (by simp), cell_far h2 hy (by simp), cell_far h3 hy (by simp), cell_far h4 hy (by simp)⟩⟩
theorem en_on {a : ByteArray} {l : List ByteArray} {S : Nat} {A : Option Addr} {c : Nat} {W W' : World} (h : EN a l S A c W) (hb : Below W.heap.size W W') : EN a l S A c W' :=
  ⟨cell_on hb h.1, fun i hi => by
    obtain ⟨ad, p, h0, h1, h2, h3, h4⟩ := h.2 i hi
    exact ⟨ad, p, h0, cell_on hb h1, cell_on hb h2, cell_on hb h3, cell_on hb h4⟩⟩
theorem own_on {W W' : World} {B k N : Nat} {D : DataW Unit} (h : Owns W B k D) (hb : Below W.heap.size W W') : Owns W' B k D :=
  h.kept (row := none) ⟨hb.os, hb.tape, hb.output, hb.size, fun j hj _ => hb.block j hj⟩ (by simp)
theorem keys_put {a : ByteArray} {l : List ByteArray} {n i : Nat} {D : DataW Unit} {s : ByteArray} (h : Keys a l n D i) (hc : codeF a l n i = s) (hm : IsMap D) (hk : ∀ j, j < i → (Lit.string (L (dig a (val l j))) : Lit) ≠ .string (L (dig a (val l i)))) : Keys a l n (D.put (.string (L (dig a (val l i)))) (.lit (.string (L s)))) (i + 1) := by
  intro j hj z
  by_cases hlt : j < i
  · rw [atKey_put_other (hk j hlt)]
    exact h j hlt z
  · obtain rfl : j = i := by omega
    rw [atKey_put_same hm (by unfold WideAt.IsKeyLit; trivial), hc]
/-- one entry, read while the inner loop runs -/
abbrev EJ (a : ByteArray) (l : List ByteArray) (S : Nat) (ad : Addr) (c p j : Nat) (xj : Int) (w W : World) : Prop := W.cell? ⟨S, 6, none⟩ = some (.slice (some ad) l.length c) ∧ W.cell? (ad.add xj.toNat) = some (.pointer (some ⟨p, 0, none⟩)) ∧ W.cell? ⟨p, 0, none⟩ = some (.string a) ∧ W.cell? ⟨p, 1, none⟩ = some (.string (val l j)) ∧ Hid (Below w.heap.size w W)
theorem ej_on {a : ByteArray} {l : List ByteArray} {S : Nat} {ad : Addr} {c p j : Nat} {xj : Int} {w W W' : World} (hb : Below W.heap.size W W') (h : EJ a l S ad c p j xj w W) : EJ a l S ad c p j xj w W' :=
  ⟨cell_on hb h.1, cell_on hb h.2.1, cell_on hb h.2.2.1, cell_on hb h.2.2.2.1, Lib.hid (bl_on h.2.2.2.2.out hb)⟩
theorem hmm27 (n : Int) (w : World) : (Instr.makeMap 27 (some (.int .i64 n))).run Try.prog w = .ok (.map (some w.heap.size)) (w.alloc (.map #[] 0)) := by
  simp [Instr.makeMap, run_underlying Try.underlying27, asInt, asIntOf, Result.andThen]
/-- the set's cells while it is read -/
def setC1 (v : Value) : Array Value := #[.int .i32 0, .int .u32 0, .int .u32 0, .int .u32 0, .int .i32 (wrap32 (0 + 1)), .int .i32 0, v]
theorem wrap32_1 : ¬ wrap32 (0 + 1) < 0 := by unfold wrap32; omega
theorem wrap32_0 : ¬ wrap32 (wrap32 (0 + 1) + -1) < 0 := by unfold wrap32; omega
set_option maxHeartbeats 8000000 in
set_option maxRecDepth 100000 in
theorem table9 (a : ByteArray) (l : List ByteArray) (S : Nat) (A : Option Addr) (c n : Nat) (w0 w : World) (hS : w.heap[S]? = some (.cells (setC (.slice A l.length c)) 48 (0, 0))) (hE : EN a l S A c w) (hw : Below w0.heap.size w0 w) (hS0 : w0.heap.size ≤ S) (hl : l.length ≤ 40) (ha : a.size ≤ 50) (hs : ∀ i, i < l.length → (val l i).size ≤ 200) (hn : n ≤ 200) (hd : ∀ i j, i < l.length → j < l.length → i ≠ j → val l i ≠ val l j) :
    Calls Try.prog 9 #[.pointer (some ⟨S, 0, none⟩), .int .i64 (n : Int)] w fun e w' => ∃ B k D, e = .returned (.map (some B)) ∧ w0.heap.size ≤ B ∧ Owns w' B k D ∧ Keys a l n D l.length ∧ Below w0.heap.size w0 w' := by
  have c0 : w.cell? ⟨S, 0, none⟩ = some (.int .i32 0) := cellsOf hS 0
  have c3 : w.cell? ⟨S, 3, none⟩ = some (.int .u32 0) := cellsOf hS 3
  have c4 : w.cell? ⟨S, 4, none⟩ = some (.int .i32 0) := cellsOf hS 4
  have f4 := frozenOf hS 4
  have HS1 : Aside0 ((w.setCell ⟨S, 4, none⟩ (.int .i32 (wrap32 (0 + 1)))).heap[S]? = some (.cells (setC1 (.slice A l.length c)) 48 (0, 0))) := ⟨blk_set hS 4 _⟩
  have HE1 := Aside0.mk (en_set hE _ _ (.int .i32 (wrap32 (0 + 1))) c4)
  have HB1 := Aside0.mk (bl_set hw (p := ⟨S, 4, none⟩) hS0 (.int .i32 (wrap32 (0 + 1))))
  have HR := Aside0.mk (rlock_open Try.rwRLib S 0 0 _ _ w c0 c3 c4 f4 wrap32_1)
  have HS0 := Aside0.mk hS0
  have HL := Aside0.mk hl
  have HA := Aside0.mk ha
  have HZ := Aside0.mk hs
  have HN := Aside0.mk hn
  have HD := Aside0.mk hd
  have hm := hmm27
  clear hS hE hw hS0 hl ha hs hn hd c0 c3 c4 f4
  go_enter_defers Try.func9, Try.ntmps9
  go_wp2_with (go_at_call 12; refine HR.out.mono ?_; rintro e w' ⟨rfl, rfl⟩; have z6 := HE1.out.1; generalize w.setCell ⟨S, 4, none⟩ (.int .i32 (wrap32 (0 + 1))) = W1 at HS1 HE1 HB1 z6 ⊢)
  go_loopg [6, 7, 8] (l.length + 1) (fun g v6 v7 v8 w' => ∃ (i k q r : Nat) (xi xq xr : Int) (D : DataW Unit), v6 = .int .i64 xq ∧ v7 = .int .i64 xr ∧ v8 = .int .i64 xi ∧ Aside0 (xi = (i : Int) ∧ xq = (q : Int) ∧ xr = (r : Int)) ∧ Aside0 (stF a l n i = (q, r)) ∧ Aside0 (i ≤ l.length ∧ g + i = l.length + 1) ∧ Aside0 (Owns w' W1.heap.size k D) ∧ Aside0 (k ≤ i) ∧ Aside0 (Keys a l n D i) ∧ Aside0 (Below W1.heap.size W1 w'))
  case atStart => exact ⟨0, 0, n, 0, 0, (n : Int), 0, .map [], rfl, rfl, rfl, ⟨rfl, rfl, rfl⟩, ⟨rfl⟩, ⟨by omega, by omega⟩, ⟨World.ownsMap_made _ _ _ _⟩, ⟨Nat.le_refl _⟩, ⟨fun j hj => absurd hj (Nat.not_lt_zero _)⟩, ⟨bl_alloc (Below.refl _ _) _⟩⟩
  case round =>
    obtain ⟨i, k, q, r, xi, xq, xr, D, rfl, rfl, rfl, HXI, HST, HI, HO, HK, HKS, HB⟩ := hrel
    clear z6
    have z6 := (en_on HE1.out HB.out).1
    by_cases hlt : i < l.length
    · have c1 : decide (xi < (l.length : Int)) = true := decide_eq_true (by have h := HXI.out.1; omega)
      have HLT := Aside0.mk hlt
      obtain ⟨ad, p, hA, e1, e2, e3, e4⟩ := (en_on HE1.out HB.out).2 i hlt
      subst hA
      clear e1 e2 e3 e4
      have p0 : (0 ≤ xi) = True := eq_true (by have h := HXI.out.1; omega)
      have p1 : (xi < (l.length : Int)) = True := eq_true (by have h := HXI.out.1; omega)
      have hbq : q ≤ 200 ∧ r ≤ l.length := by have h := st_bounds a l n HN.out HZ.out i (by omega); rw [HST.out] at h; exact h
      have HBQ := Aside0.mk hbq
      obtain ⟨E, HE⟩ : ∃ E, Aside0 (E = extF a l i 201 q r) := ⟨_, ⟨rfl⟩⟩
      clear hlt hbq
      go_wp2
      go_loopg [6, 7, 9, 10] 202 (fun g v6 v7 v9 v10 w' => ∃ (q1 r1 : Nat) (xq xr : Int) (s : ByteArray) (x : Bool), v6 = .int .i64 xq ∧ v7 = .int .i64 xr ∧ v9 = .string s ∧ v10 = .bool x ∧ Aside0 (xq = (q1 : Int) ∧ xr = (r1 : Int)) ∧ Aside0 (x = true → ∃ f, f < g ∧ 1 ≤ f ∧ (val l i).size < f + q1 ∧ extF a l i f q1 r1 = E) ∧ Aside0 (x = false → E = (s, q1, r1)) ∧ Aside0 (q1 ≤ 200 ∧ r1 ≤ l.length) ∧ Aside0 (Below wr.heap.size wr w'))
      case atStart => exact ⟨q, r, xq, xr, _, true, rfl, rfl, rfl, rfl, ⟨HXI.out.2⟩, ⟨fun _ => ⟨201, by decide, by decide, by have := HZ.out i HLT.out; omega, HE.out.symm⟩⟩, ⟨fun h => absurd h (by decide)⟩, HBQ, ⟨Below.refl _ _⟩⟩
      case round =>
        clear z6
        obtain ⟨q1, r1, xq1, xr1, s, x, rfl, rfl, rfl, rfl, HXQ, HX, HY, HQ, HBm⟩ := hrel
        obtain ⟨p, y1, y2, ya, y0, z6⟩ : ∃ p, wr.cell? (ad.add xi.toNat) = some (.pointer (some ⟨p, 0, none⟩)) ∧ wr.cell? ⟨p, 0, none⟩ = some (.string a) ∧ wr.cell? ⟨p, 1, none⟩ = some (.string (val l i)) ∧ wr.cell? ⟨p, 2, none⟩ = some (.string (dig a (val l i))) ∧ wr.cell? ⟨S, 6, none⟩ = some (.slice (some ad) l.length c) := by
          have h := en_on (en_on HE1.out HB.out) HBm.out
          obtain ⟨ad', p, h0, h1, h2, h3, h4⟩ := h.2 i HLT.out
          obtain rfl : ad = ad' := Option.some.inj h0
          rw [HXI.out.1, Int.toNat_natCast]
          exact ⟨p, h1, h2, h3, h4, h.1⟩
        cases x
        · -- the code is found
          have hEE := HY.out rfl
          have HEE := Aside0.mk hEE
          have HKEY := Aside0.mk (key31 (dig a (val l i)) (by unfold dig; rw [ByteArray.size_append, ByteArray.size_append]; have h1 := HA.out; have h2 := HZ.out i HLT.out; show a.size + 1 + _ ≤ _; omega))
          clear HX HY hEE
          have HSZ := Aside0.mk (show s.size ≤ 1000 by have h := ext_size a l i 201 q r; rw [← HE.out, HEE.out] at h; have h1 := HA.out; have h2 := HZ.out i HLT.out; exact Nat.le_trans h (by omega))
          have HNX := Aside0.mk (st_next a l n i q r q1 r1 s HST.out (HE.out.symm.trans HEE.out))
          have HK2 := Aside0.mk (show k < maxLen by have h1 := HK.out; have h2 := HLT.out; have h3 := HL.out; unfold maxLen; omega)
          have HO2 := Aside0.mk (own_on (N := 0) HO.out HBm.out)
          have HBw := Aside0.mk (bl_on HB.out HBm.out)
          have HIM := Aside0.mk (show wr.heap.size ≤ wr.heap.size from Nat.le_refl _)
          have HWI : Aside0 (wrap64 (xi + 1) = ((i + 1 : Nat) : Int)) := ⟨by rw [HXI.out.1]; have h1 := HLT.out; have h2 := HL.out; unfold wrap64; omega⟩
          have HKN : Aside0 (∀ j, j < i → (Lit.string (L (dig a (val l j))) : Lit) ≠ .string (L (dig a (val l i)))) := ⟨fun j hj he => by
            have h1 : L (dig a (val l j)) = L (dig a (val l i)) := by injection he
            unfold dig at h1
            rw [L_app, L_app, L_app] at h1
            have h2 := List.append_cancel_left h1
            exact HD.out j i (by have := HLT.out; omega) HLT.out (by omega) (L_ext h2)⟩
          by_cases hge : r1 ≤ i
          · have c3 : decide (xi ≥ xr1) = true := decide_eq_true (by have h1 := HXI.out.1; have h2 := HXQ.out.2; omega)
            have HGE := Aside0.mk hge
            clear hge
            go_wp2_with (at_mapUpdate; refine wpList_mapUpdate_own _ rfl _ _ _ 27 rfl 31 9 law31 Try.underlying27 _ W1.heap.size k D rfl HO2.out HK2.out _ _ _ rfl rfl HKEY.out _ [] (pe s HSZ.out) ?_; intro w5 ho hg; have HO5 := Aside0.mk ho; have HB5 := Aside0.mk (HBw.out.grown hg HBw.out.size (fun j hj => by cases hj; exact Nat.le_refl _)); clear ho hg)
            go_roundg (l.length - i)
            case measure => have h1 := HI.out; have h2 := HLT.out; omega
            case rel => exact ⟨i + 1, k + 1, n, r1, _, _, xr1, _, rfl, rfl, rfl, ⟨HWI.out, rfl, HXQ.out.2⟩, ⟨by rw [HNX.out.1, if_pos HGE.out]⟩, ⟨by have h1 := HLT.out; omega, by have h1 := HLT.out; omega⟩, HO5, ⟨by have h1 := HK.out; omega⟩, ⟨keys_put HKS.out HNX.out.2 (World.ownsMap.isMap HO2.out) HKN.out⟩, HB5⟩
          · have c3 : decide (xi ≥ xr1) = false := decide_eq_false (by have h1 := HXI.out.1; have h2 := HXQ.out.2; omega)
            have HGE := Aside0.mk hge
            clear hge
            go_wp2_with (at_mapUpdate; refine wpList_mapUpdate_own _ rfl _ _ _ 27 rfl 31 9 law31 Try.underlying27 _ W1.heap.size k D rfl HO2.out HK2.out _ _ _ rfl rfl HKEY.out _ [] (pe s HSZ.out) ?_; intro w5 ho hg; have HO5 := Aside0.mk ho; have HB5 := Aside0.mk (HBw.out.grown hg HBw.out.size (fun j hj => by cases hj; exact Nat.le_refl _)); clear ho hg)
            go_roundg (l.length - i)
            case measure => have h1 := HI.out; have h2 := HLT.out; omega
            case rel => exact ⟨i + 1, k + 1, q1, r1, _, xq1, xr1, _, rfl, rfl, rfl, ⟨HWI.out, HXQ.out.1, HXQ.out.2⟩, ⟨by rw [HNX.out.1, if_neg HGE.out]⟩, ⟨by have h1 := HLT.out; omega, by have h1 := HLT.out; omega⟩, HO5, ⟨by have h1 := HK.out; omega⟩, ⟨keys_put HKS.out HNX.out.2 (World.ownsMap.isMap HO2.out) HKN.out⟩, HB5⟩
        · -- one round more
          obtain ⟨f, hf1, hf2, hf3, hfE⟩ := HX.out rfl
          have HFE := Aside0.mk (show f < gk ∧ 1 ≤ f ∧ (val l i).size < f + q1 ∧ extF a l i f q1 r1 = E from ⟨hf1, hf2, hf3, hfE⟩)
          clear HX HY hf1 hf2 hf3 hfE
          by_cases hsz : (val l i).size ≤ q1
          · have c2 : decide (((val l i).size : Int) ≤ xq1) = true := decide_eq_true (by have h := HXQ.out.1; omega)
            have HSZ := Aside0.mk hsz
            clear hsz
            go_wp2_with (first | (go_at_call 14; (with_reducible refine (godigest_Digest_String.calls (dig a (val l i)) _ _ rfl).mono ?_); rintro e w3 ⟨rfl, hb⟩; have HB3 := Aside0.mk hb.below; clear hb) | go_in)
            go_roundg f
            case measure => exact HFE.out.1
            case rel => exact ⟨q1, r1, xq1, xr1, _, false, rfl, rfl, rfl, rfl, HXQ, ⟨fun h => absurd h (by decide)⟩, ⟨fun _ => by have h2 := HFE.out; rw [← h2.2.2.2]; exact ext_whole a l i f q1 r1 h2.2.1 HSZ.out⟩, HQ, ⟨bl_on HBm.out HB3.out⟩⟩
          · have c2 : decide (((val l i).size : Int) ≤ xq1) = false := decide_eq_false (by have h := HXQ.out.1; omega)
            have HNS := Aside0.mk hsz
            have q0 : (0 ≤ xq1) = True := eq_true (by have h := HXQ.out.1; omega)
            have q2 : (xq1 ≤ ((val l i).size : Int)) = True := eq_true (by have h := HXQ.out.1; omega)
            obtain ⟨sh, HSH⟩ : ∃ sh, Aside0 (sh = (val l i).extract 0 q1) := ⟨_, ⟨rfl⟩⟩
            have hsh : (val l i).extract 0 xq1.toNat = sh := by rw [HSH.out, HXQ.out.1, Int.toNat_natCast]
            obtain ⟨m, HM⟩ : ∃ m, Aside0 (m = reachF l ((val l i).extract 0 q1) 40 (i + 1)) := ⟨_, ⟨rfl⟩⟩
            have HWI : Aside0 (wrap64 (xi + 1) = ((i + 1 : Nat) : Int)) := ⟨by rw [HXI.out.1]; have h1 := HLT.out; have h2 := HL.out; unfold wrap64; omega⟩
            clear hsz
            go_wp2
            clear q0 q2 hsh y1 y2 ya y0 z6
            go_loopg [7, 10, 11] (l.length - i) (fun g v7 v10 v11 w' => ∃ (j fj r2 : Nat) (xj xr2 : Int) (e : Bool), v7 = .int .i64 xr2 ∧ v10 = .bool e ∧ v11 = .int .i64 xj ∧ Aside0 (xj = (j : Int) ∧ xr2 = (r2 : Int)) ∧ Aside0 (reachF l sh fj j = m ∧ l.length ≤ fj + j) ∧ Aside0 (i + 1 ≤ j ∧ j ≤ l.length ∧ g + j = l.length + 1) ∧ Aside0 ((j = i + 1 ∧ r2 = r1 ∧ e = false) ∨ (i + 1 < j ∧ r2 = max r1 (j - 1) ∧ e = true)) ∧ Aside0 (Below wr.heap.size wr w'))
            case atStart => exact ⟨i + 1, 40, r1, _, xr1, false, rfl, rfl, rfl, ⟨HWI.out, HXQ.out.2⟩, ⟨by rw [HSH.out]; exact HM.out.symm, by have := HL.out; omega⟩, ⟨Nat.le_refl _, HLT.out, by have := HLT.out; omega⟩, ⟨Or.inl ⟨rfl, rfl, rfl⟩⟩, ⟨Below.refl _ _⟩⟩
            case round =>
              obtain ⟨j, fj, r2, xj, xr2, e, rfl, rfl, rfl, HXJ, HRE, HJ, HE2, HBj⟩ := hrel
              have z6 := (en_on (en_on (en_on HE1.out HB.out) HBm.out) HBj.out).1
              by_cases hjl : j < l.length
              · have c4 : decide (xj < (l.length : Int)) = true := decide_eq_true (by have h := HXJ.out.1; omega)
                obtain ⟨pj, HEJ⟩ : ∃ pj, Aside0 (EJ a l S ad c pj j xj wr wr) := by
                  have h := en_on (en_on (en_on HE1.out HB.out) HBm.out) HBj.out
                  obtain ⟨ad', p, h0, h1, h2, h3, h4⟩ := h.2 j hjl
                  obtain rfl : ad = ad' := Option.some.inj h0
                  exact ⟨p, ⟨h.1, by rw [HXJ.out.1, Int.toNat_natCast]; exact h1, h2, h3, Lib.hid (Below.refl _ _)⟩⟩
                have p2 : (0 ≤ xj) = True := eq_true (by have h := HXJ.out.1; omega)
                have p3 : (xj < (l.length : Int)) = True := eq_true (by have h := HXJ.out.1; omega)
                have HJL := Aside0.mk hjl
                clear hjl
                cases hbg : bg (val l j) sh
                · have HBG := Aside0.mk hbg
                  go_upto_region 19 with fail
                  clear z6
                  first | go_region_held3 (fun W => EJ a l S ad c pj j xj wr W) (first | assumption | exact ej_on (bl_drew (Below.refl _ _)) HEJ.out | exact ej_on hb5 (by assumption) | fail) (first | (go_at_call 15; (with_reducible refine (digestset_checkShortMatch.calls a (val l j) ⟨#[]⟩ sh false _ (by rw [csm, HBG.out])).mono ?_); rintro e w5 ⟨rfl, hd5⟩; have hb5 := hd5.below; clear hd5)) | fail
                  rename_i hH
                  have HBk := Aside0.mk (bl_on HBj.out hH.2.2.2.2.out)
                  clear hH
                  have hjm : j = m := by rw [← HRE.out.1]; exact (reach_stop l sh fj j (fun h => absurd (HBG.out.symm.trans h.2) (by decide))).symm
                  have HJM := Aside0.mk hjm
                  cases e
                  · have HF2 : Aside0 (E = ((val l i).extract 0 q1, q1, r1)) := ⟨by have h1 := HE2.out; have h2 := HFE.out; rw [← h2.2.2.2]; refine ext_found a l i f q1 r1 h2.2.1 HNS.out ?_; rw [← HM.out, ← hjm]; exact h1.elim (fun h => h.1) (fun h => absurd h.2.2 (by decide))⟩
                    have HR2 : Aside0 (r2 = r1) := ⟨HE2.out.elim (fun h => h.2.1) (fun h => absurd h.2.2 (by decide))⟩
                    clear hjm
                    go_wp2
                    go_roundg f
                    case measure => exact HFE.out.1
                    case rel => exact ⟨q1, r1, xq1, xr2, _, false, rfl, rfl, rfl, rfl, ⟨HXQ.out.1, by have h := HXJ.out.2; rw [HR2.out] at h; exact h⟩, ⟨fun h => absurd h (by decide)⟩, ⟨fun _ => by rw [HSH.out]; exact HF2.out⟩, HQ, ⟨bl_on HBm.out HBk.out⟩⟩
                  · have HE3 : Aside0 (i + 1 < j ∧ r2 = max r1 (j - 1)) := ⟨HE2.out.elim (fun h => absurd h.2.2 (by decide)) (fun h => ⟨h.1, h.2.1⟩)⟩
                    have HF2 : Aside0 (extF a l i (f - 1) (q1 + 1) r2 = E) := ⟨by have h2 := HFE.out; rw [← h2.2.2.2, HE3.out.2, hjm]; exact (ext_on a l i f q1 r1 m h2.2.1 HNS.out HM.out.symm (by have := HE3.out.1; omega)).symm⟩
                    have HWQ : Aside0 (wrap64 (xq1 + 1) = ((q1 + 1 : Nat) : Int)) := ⟨by rw [HXQ.out.1]; have h := HQ.out.1; unfold wrap64; omega⟩
                    clear hjm
                    go_wp2
                    go_roundg f
                    case measure => exact HFE.out.1
                    case rel => exact ⟨q1 + 1, r2, _, xr2, _, true, rfl, rfl, rfl, rfl, ⟨HWQ.out, HXJ.out.2⟩, ⟨fun _ => ⟨f - 1, by have h := HFE.out; omega, by have h := HFE.out; have h1 := HNS.out; omega, by have h := HFE.out; have h1 := HNS.out; omega, HF2.out⟩⟩, ⟨fun h => absurd h (by decide)⟩, ⟨by have h := HQ.out; have h1 := HNS.out; have h2 := HZ.out i HLT.out; omega, by have h := HQ.out; have h1 := HE3.out; have h2 := HJ.out; omega⟩, ⟨bl_on HBm.out HBk.out⟩⟩
                · have HBG := Aside0.mk hbg
                  obtain ⟨f2, hre1, hre2⟩ := reach_step l sh fj j m HJL.out hbg HRE.out.1 HRE.out.2
                  have HRE2 := Aside0.mk (show reachF l sh f2 (j + 1) = m ∧ l.length ≤ f2 + (j + 1) from ⟨hre1, hre2⟩)
                  clear hre1 hre2
                  have HWJ : Aside0 (wrap64 (xj + 1) = ((j + 1 : Nat) : Int)) := ⟨by rw [HXJ.out.1]; have h1 := HJL.out; have h2 := HL.out; unfold wrap64; omega⟩
                  go_upto_region 19 with fail
                  clear z6
                  first | go_region_held3 (fun W => EJ a l S ad c pj j xj wr W) (first | assumption | exact ej_on (bl_drew (Below.refl _ _)) HEJ.out | exact ej_on hb5 (by assumption) | fail) (first | (go_at_call 15; (with_reducible refine (digestset_checkShortMatch.calls a (val l j) ⟨#[]⟩ sh true _ (by rw [csm, HBG.out])).mono ?_); rintro e w5 ⟨rfl, hd5⟩; have hb5 := hd5.below; clear hd5)) | fail
                  rename_i hH
                  have HBk := Aside0.mk (bl_on HBj.out hH.2.2.2.2.out)
                  clear hH
                  by_cases hrj : r2 < j
                  · have c5 : decide (xr2 < xj) = true := decide_eq_true (by have h := HXJ.out; omega)
                    have HRJ := Aside0.mk hrj
                    clear hrj
                    go_wp2
                    go_roundg (l.length - j)
                    case measure => have h1 := HJ.out; omega
                    case rel => exact ⟨j + 1, f2, j, _, xj, true, rfl, rfl, rfl, ⟨HWJ.out, HXJ.out.1⟩, HRE2, ⟨by have h1 := HJ.out; omega, HJL.out, by have h1 := HJL.out; omega⟩, ⟨Or.inr ⟨by have h1 := HJ.out; omega, by have h1 := HE2.out; have h2 := HRJ.out; have h3 := HJ.out; rcases h1 with h1 | h1 <;> omega, rfl⟩⟩, HBk⟩
                  · have c5 : decide (xr2 < xj) = false := decide_eq_false (by have h := HXJ.out; omega)
                    have HRJ := Aside0.mk hrj
                    clear hrj
                    go_wp2
                    go_roundg (l.length - j)
                    case measure => have h1 := HJ.out; omega
                    case rel => exact ⟨j + 1, f2, r2, _, xr2, true, rfl, rfl, rfl, ⟨HWJ.out, HXJ.out.2⟩, HRE2, ⟨by have h1 := HJ.out; omega, HJL.out, by have h1 := HJL.out; omega⟩, ⟨Or.inr ⟨by have h1 := HJ.out; omega, by have h1 := HE2.out; have h2 := HRJ.out; have h3 := HJ.out; rcases h1 with h1 | h1 <;> omega, rfl⟩⟩, HBk⟩
              · have c4 : decide (xj < (l.length : Int)) = false := decide_eq_false (by have h := HXJ.out.1; omega)
                have HJLN := Aside0.mk hjl
                have hjm : j = m := by rw [← HRE.out.1]; exact (reach_stop l sh fj j (fun h => HJLN.out h.1)).symm
                have HJM := Aside0.mk hjm
                cases e
                · have HF2 : Aside0 (E = ((val l i).extract 0 q1, q1, r1)) := ⟨by have h1 := HE2.out; have h2 := HFE.out; rw [← h2.2.2.2]; refine ext_found a l i f q1 r1 h2.2.1 HNS.out ?_; rw [← HM.out, ← hjm]; exact h1.elim (fun h => h.1) (fun h => absurd h.2.2 (by decide))⟩
                  have HR2 : Aside0 (r2 = r1) := ⟨HE2.out.elim (fun h => h.2.1) (fun h => absurd h.2.2 (by decide))⟩
                  clear hjm
                  go_wp2
                  go_roundg f
                  case measure => exact HFE.out.1
                  case rel => exact ⟨q1, r1, xq1, xr2, _, false, rfl, rfl, rfl, rfl, ⟨HXQ.out.1, by have h := HXJ.out.2; rw [HR2.out] at h; exact h⟩, ⟨fun h => absurd h (by decide)⟩, ⟨fun _ => by rw [HSH.out]; exact HF2.out⟩, HQ, ⟨bl_on HBm.out HBj.out⟩⟩
                · have HE3 : Aside0 (i + 1 < j ∧ r2 = max r1 (j - 1)) := ⟨HE2.out.elim (fun h => absurd h.2.2 (by decide)) (fun h => ⟨h.1, h.2.1⟩)⟩
                  have HF2 : Aside0 (extF a l i (f - 1) (q1 + 1) r2 = E) := ⟨by have h2 := HFE.out; rw [← h2.2.2.2, HE3.out.2, hjm]; exact (ext_on a l i f q1 r1 m h2.2.1 HNS.out HM.out.symm (by have := HE3.out.1; omega)).symm⟩
                  have HWQ : Aside0 (wrap64 (xq1 + 1) = ((q1 + 1 : Nat) : Int)) := ⟨by rw [HXQ.out.1]; have h := HQ.out.1; unfold wrap64; omega⟩
                  clear hjm
                  go_wp2
                  go_roundg f
                  case measure => exact HFE.out.1
                  case rel => exact ⟨q1 + 1, r2, _, xr2, _, true, rfl, rfl, rfl, rfl, ⟨HWQ.out, HXJ.out.2⟩, ⟨fun _ => ⟨f - 1, by have h := HFE.out; omega, by have h := HFE.out; have h1 := HNS.out; omega, by have h := HFE.out; have h1 := HNS.out; omega, HF2.out⟩⟩, ⟨fun h => absurd h (by decide)⟩, ⟨by have h := HQ.out; have h1 := HNS.out; have h2 := HZ.out i HLT.out; omega, by have h := HQ.out; have h1 := HE3.out; have h2 := HJ.out; omega⟩, ⟨bl_on HBm.out HBj.out⟩⟩
    · have c1 : decide (xi < (l.length : Int)) = false := decide_eq_false (by have h := HXI.out.1; omega)
      have HIE : Aside0 (i = l.length) := ⟨by have h := HI.out.1; omega⟩
      have HSf := Aside0.mk (heap_on HB.out HS1.out)
      clear hlt
      go_wp2
      have HLTS := Aside0.mk (blk_lt HS1.out)
      refine leaves_cons (f := 13) (args := #[.pointer (some ⟨S, 0, none⟩)]) (by simp) (by simp [go_sem]) ?_
      refine (runlock_deferred Try.rwRLib S 0 (wrap32 (0 + 1)) (.int .i32 0) (.int .u32 0) .returning _ (cellsOf HSf.out 0) (cellsOf HSf.out 2) (cellsOf HSf.out 4) (frozenOf HSf.out 4) wrap32_0).mono ?_
      rintro e u' w'' ⟨rfl, rfl, rfl⟩
      exact ⟨_, results_tmp rfl _ _ _, ⟨W1.heap.size, k, D, rfl, HB1.out.size, HO.out.setCell (a := ⟨S, 0 + 4, none⟩) (by have h := HLTS.out; show W1.heap.size ≠ S; omega) _, by rw [← HIE.out]; exact HKS.out, bl_set (bl_on HB1.out HB.out) HS0.out _⟩⟩
end Go.Proofs.Yteonaghjhjnijaa
