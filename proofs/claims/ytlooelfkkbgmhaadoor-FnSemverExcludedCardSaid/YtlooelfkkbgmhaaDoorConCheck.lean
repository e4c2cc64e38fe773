/-
  The check of constraints: lists of terms, each list by its terms in order.
-/
import Derived.Test.YtlooelfkkbgmhaaDoorConLists
set_option linter.unusedVariables false
set_option linter.unusedSimpArgs false
namespace Go.Proofs.YtlooelfkkbgmhaaDoor
open Go Go.RowKit Go.Proofs.YtlooelfkkbgmhaaDoorW.PrintWords Go.Proofs.YtlooelfkkbgmhaaDoorW.PrintLast
open Go.Proofs.YtlooelfkkbgmhaaDoor.QS (S36 k36 rd_T36 rd_L6)

theorem at_C {w0 w : World} {A : Option Addr} {n : Nat} {xs : List S36} (h : Kd.C (coK w0) w A n xs) (i : Int) (h0 : 0 ≤ i) (h1 : i < n) : ∃ ad z q, A = some ad ∧ w.heap[z]? = some (.cells (conC (rd_T36 xs i) q) 125 (0, 0)) ∧ w0.heap[q]? = some (.cells (verC (rd_T36 xs i)) 70 (0, 0)) ∧ w.cell? (ad.add i.toNat) = some (.pointer (some ⟨z, 0, none⟩)) := by
  obtain ⟨ad, c, e, _, hK, hc0⟩ := Kd.C_get h QS.z36 i h0 h1
  have hc : ∀ j u, c[j]? = some u → w.cell? (ad.add (i.toNat * 1 + j)) = some u := hc0
  obtain ⟨z, q, rfl, hz, hq⟩ := hK
  exact ⟨ad, z, q, e, hz, hq, by have hq := hc 0 _ rfl; rwa [Nat.mul_one, Nat.add_zero] at hq⟩
theorem at_CL {w0 w : World} {A : Option Addr} {n : Nat} {xs : List (List S36)} (h : Kd.C (Kd.slice 110 (coK w0)) w A n xs) (i : Int) (h0 : 0 ≤ i) (h1 : i < n) : ∃ ad A0 c0, A = some ad ∧ w.cell? (ad.add i.toNat) = some (.slice A0 (rd_L6 xs i).length c0) ∧ (rd_L6 xs i).length ≤ c0 ∧ (coK w0).C w A0 (rd_L6 xs i).length (rd_L6 xs i) := by
  obtain ⟨ad, c, e, _, hK, hc0⟩ := Kd.C_get h ([] : List S36) i h0 h1
  have hc : ∀ j u, c[j]? = some u → w.cell? (ad.add (i.toNat * 1 + j)) = some u := hc0
  obtain ⟨A0, c0, rfl, l0, g0⟩ := hK
  exact ⟨ad, A0, c0, e, by have hq := hc 0 _ rfl; rwa [Nat.mul_one, Nat.add_zero] at hq, l0, g0⟩
theorem at_B {w : World} {A : Option Addr} {n : Nat} {xs : List Bool} (h : Kd.C Kd.bool w A n xs) (i : Int) (h0 : 0 ≤ i) (h1 : i < n) : ∃ ad, A = some ad ∧ w.cell? (ad.add i.toNat) = some (.bool (xs.getD i.toNat false)) := by
  obtain ⟨ad, c, e, _, hK, hc0⟩ := Kd.C_get h false i h0 h1
  have hc : ∀ j u, c[j]? = some u → w.cell? (ad.add (i.toNat * 1 + j)) = some u := hc0
  obtain rfl : c = [.bool (xs.getD i.toNat false)] := hK
  exact ⟨ad, e, by have hq := hc 0 _ rfl; rwa [Nat.mul_one, Nat.add_zero] at hq⟩

/-- what one term says of a version -/
abbrev tHolds (k : Nat) (a b c : Int) (s m : ByteArray) (pre : Bool) (t : S36) : Option Bool := impl_TermHolds.f k t.f0 t.f1 t.f2 t.f3 t.f4 t.f5 a b c s m pre
/-- what a list says: all its terms, in order -/
def lHolds (k : Nat) (a b c : Int) (s m : ByteArray) (pre : Bool) : List S36 → Option Bool
  | [] => some true
  | t :: l => (tHolds k a b c s m pre t).bind fun x => if x = true then lHolds k a b c s m pre l else some false
/-- what lists say: one of them -/
def cHolds (k : Nat) (a b c : Int) (s m : ByteArray) (pre : Bool) : List (List S36) → Option Bool
  | [] => some false
  | ts :: l => (lHolds k a b c s m (pre || hasPre ts) ts).bind fun x => if x = true then some true else cHolds k a b c s m pre l

theorem check_tm (k : Nat) (p q z : Nat) (t : S36) (a b c : Int) (s m o : ByteArray) (w : World) (hv : IsVer w p a b c s m o) (hp : Blk w p) (hG : GlobE w)
    (hz : w.heap[z]? = some (.cells (conC t q) 125 (0, 0))) (hq : w.heap[q]? = some (.cells (verC t) 70 (0, 0))) (hpq : p ≠ q) (pre x : Bool) (h : tHolds k a b c s m pre t = some x) :
    Calls Tryd.prog 134 #[.pointer (some ⟨z, 0, none⟩), .pointer (some ⟨p, 0, none⟩), .bool pre] w (Says w x) := by
  unfold tHolds impl_TermHolds.f at h
  by_cases hc : 0 ≤ t.f1 ∧ t.f1 ≤ 3 ∧ 0 ≤ t.f0 ∧ t.f0 < 8
  · rw [if_pos hc] at h
    obtain ⟨r, hr, h⟩ := Option.bind_eq_some_iff.1 h
    obtain rfl := Option.some.inj h
    refine check_any p q z a b c t.f2 t.f3 t.f4 s m o t.f5 ⟨#[]⟩ ⟨#[]⟩ ⟨#[]⟩ _ _ _ t.f0 hc.2.2.1 hc.2.2.2 hpq pre w ⟨hv, ?_, ?_, hp, ⟨_, _, hq⟩, hG, Below.refl _ _⟩ k r hr
    · exact ⟨(blk_cell hq 0).trans rfl, (blk_cell hq 1).trans rfl, (blk_cell hq 2).trans rfl, (blk_cell hq 3).trans rfl, (blk_cell hq 4).trans rfl, (blk_cell hq 5).trans rfl⟩
    · exact ⟨(blk_cell hz 0).trans rfl, (blk_cell hz 1).trans rfl, (blk_cell hz 2).trans rfl, (blk_cell hz 3).trans rfl, (blk_cell hz 4).trans rfl, (blk_cell hz 5).trans rfl⟩
  · rw [if_neg hc] at h; cases h

theorem drop_next {α : Type} (z : α) (l : List α) (y : Int) (h0 : 0 ≤ y) (h1 : y < (l.length : Int)) : l.drop y.toNat = l.getD y.toNat z :: l.drop (y + 1).toNat := by
  have e : (y + 1).toNat = y.toNat + 1 := by omega
  have h : y.toNat < l.length := by omega
  rw [e, List.drop_eq_getElem_cons h, List.getD_eq_getElem?_getD, List.getElem?_eq_getElem h]
  rfl
theorem map_getD (l : List (List S36)) (y : Int) (h0 : 0 ≤ y) (h1 : y < (l.length : Int)) : (l.map hasPre).getD y.toNat false = hasPre (l.getD y.toNat []) := by
  have h : y.toNat < l.length := by omega
  simp [List.getD_eq_getElem?_getD, h]

set_option maxHeartbeats 8000000 in
set_option maxRecDepth 100000 in
theorem checks_any (k : Nat) (A1 A2 : Option Addr) (c1 c2 : Nat) (tss : List (List S36)) (pre : Bool) (p : Nat) (a b c : Int) (s m o : ByteArray) (w0 w : World) (hv : IsVer w p a b c s m o) (hp : Blk w p) (hG : GlobE w) (h0 : Below w0.heap.size w0 w) (hp0 : w0.heap.size ≤ p)
    (hr : Kd.C (Kd.slice 110 (coK w0)) w A1 tss.length tss) (hu : Kd.C Kd.bool w A2 tss.length (tss.map hasPre)) (hn : tss.length ≤ 2147483647) (hok : ∀ l ∈ tss, l.length ≤ 2147483647) (r : Bool) (h : cHolds k a b c s m pre tss = some r) :
    Calls Tryd.prog 102 #[.agg #[.slice A1 tss.length c1, .slice A2 tss.length c2, .bool pre], .pointer (some ⟨p, 0, none⟩)] w fun e w' => e = .returned (.bool r) ∧ Below w.heap.size w w' := by
  have HR := Aside0.mk hr
  have HU := Aside0.mk hu
  have HN := Aside0.mk hn
  have HK := Aside0.mk hok
  have H := Aside0.mk h
  have HV := Aside0.mk hv
  have HP := Aside0.mk hp
  have HG := Aside0.mk hG
  have H0 := Aside0.mk h0
  have HP0 := Aside0.mk hp0
  clear hr hok hn hu h hv hp hG h0 hp0
  go_enter Tryd.func102, Tryd.ntmps102
  go_wp2
  have K := Aside0.mk (show (w.alloc (.cells #[.slice A1 tss.length c1, .slice A2 tss.length c2, .bool pre] 96)).heap[w.heap.size]? = some (.cells #[.slice A1 tss.length c1, .slice A2 tss.length c2, .bool pre] 96 (0, 0)) from heap_new0 _ _ _ rfl)
  have HB := Aside0.mk (show Below w.heap.size w (w.alloc (.cells #[.slice A1 tss.length c1, .slice A2 tss.length c2, .bool pre] 96)) from bl_alloc (Below.refl _ _) _)
  generalize hW : w.alloc (.cells #[.slice A1 tss.length c1, .slice A2 tss.length c2, .bool pre] 96) = W at K HB ⊢
  clear hW
  go_loopg [15] (tss.length + 1) (fun g v15 w' => ∃ x : Int, v15 = .int .i64 x ∧ Aside0 (0 ≤ x ∧ x ≤ tss.length ∧ g + x.toNat = tss.length + 1) ∧ Aside0 (cHolds k a b c s m pre (tss.drop x.toNat) = some r) ∧ Aside0 (Below W.heap.size W w'))
  case atStart => exact ⟨0, rfl, ⟨by omega, by omega, by simp⟩, ⟨by simpa using H.out⟩, ⟨Below.refl _ _⟩⟩
  case round =>
    clear H
    obtain ⟨x, rfl, HI, H, HB2⟩ := hrel
    by_cases hlt : x < (tss.length : Int)
    · have c1' : decide (x < (tss.length : Int)) = true := decide_eq_true hlt
      have p0 : 0 ≤ x := HI.out.1
      have p1 : x < (tss.length : Int) := hlt
      obtain ⟨ad, A0, c0, e0, hx, hl, hi⟩ := at_CL HR.out x p0 p1
      obtain ⟨adb, eb, hxb⟩ := at_B HU.out x p0 p1
      cases e0
      cases eb
      have HBw := Aside0.mk (bl_on HB.out HB2.out)
      replace hx := (HBw.out.cell (World.block_lt_of_cell? w _ hx)).trans hx
      have HX := Aside0.mk hi
      have hc := H.out
      rw [drop_next ([] : List S36) tss x p0 p1] at hc
      rw [map_getD tss x p0 p1] at hxb
      obtain ⟨ts, hts⟩ : ∃ ts, ts = tss.getD x.toNat [] := ⟨_, rfl⟩
      rw [show rd_L6 tss x = ts from hts.symm] at HX hx
      rw [← hts] at hc hxb
      have HS := Aside0.mk (HK.out ts (by rw [hts]; exact getD_mem _ _ _ p0 p1))
      have F1 := Aside0.mk (wrap_next HI.out.1 p1 HN.out)
      simp only [cHolds] at hc
      obtain ⟨bl, hbl, hc⟩ := Option.bind_eq_some_iff.1 hc
      have HL := Aside0.mk hbl
      have HC := Aside0.mk hc
      have HXB := Aside0.mk hxb
      clear hl hi hlt hts hbl hc hxb H
      replace p0 := eq_true p0
      replace p1 := eq_true p1
      obtain ⟨wo, rfl⟩ : ∃ wo : World, wo = wr := ⟨_, rfl⟩
      obtain ⟨go, rfl⟩ : ∃ g : Nat, g = gk := ⟨_, rfl⟩
      go_wp2
      go_loopg [7, 22] (ts.length + 1) (fun g v7 v22 w' => ∃ y : Int, v22 = .int .i64 y ∧ v7 = .bool true ∧ Aside0 (0 ≤ y ∧ y ≤ ts.length ∧ g + y.toNat = ts.length + 1) ∧ Aside0 (lHolds k a b c s m (pre || hasPre ts) (ts.drop y.toNat) = some bl) ∧ Aside0 (Below wo.heap.size wo w'))
      case atStart => exact ⟨0, rfl, rfl, ⟨by omega, by omega, by simp⟩, ⟨by simpa using HL.out⟩, ⟨Below.refl _ _⟩⟩
      case round =>
        clear HL
        obtain ⟨y, rfl, rfl, HI2, HL, HB3⟩ := hrel
        by_cases hlt2 : y < (ts.length : Int)
        · have c3 : decide (y < (ts.length : Int)) = true := decide_eq_true hlt2
          have p2 : 0 ≤ y := HI2.out.1
          have p3 : y < (ts.length : Int) := hlt2
          obtain ⟨ad2, z, q, e2, gz, gq, g0⟩ := at_C HX.out y p2 p3
          cases e2
          have HB4 := Aside0.mk (bl_on HBw.out HB3.out)
          replace g0 := (HB4.out.cell (World.block_lt_of_cell? w _ g0)).trans g0
          have hl := HL.out
          rw [drop_next QS.z36 ts y p2 p3] at hl
          obtain ⟨tm, htm⟩ : ∃ tm, tm = ts.getD y.toNat QS.z36 := ⟨_, rfl⟩
          rw [show rd_T36 ts y = tm from htm.symm] at gz gq
          rw [← htm] at hl
          simp only [lHolds] at hl
          obtain ⟨xb, hxb2, hl⟩ := Option.bind_eq_some_iff.1 hl
          have HT := Aside0.mk hxb2
          have HL2 := Aside0.mk hl
          have E1 := Aside0.mk (wrap_next p2 p3 HS.out)
          have GZ := Aside0.mk (blk_below gz HB4.out)
          have GQ := Aside0.mk (blk_below gq (bl_on H0.out HB4.out))
          have HPQ : Aside0 (p ≠ q) := ⟨fun e => by have h1 := blk_lt gq; have h2 := HP0.out; omega⟩
          have K5 := Aside0.mk (blk_below K.out (bl_on HB2.out HB3.out))
          have f1 : wr.cell? ⟨w.heap.size, 1, none⟩ = some (.slice (some adb) tss.length c2) := (blk_cell K5.out 1).trans rfl
          have f2 : wr.cell? ⟨w.heap.size, 2, none⟩ = some (.bool pre) := (blk_cell K5.out 2).trans rfl
          have f3 : wr.cell? (adb.add x.toNat) = some (.bool (hasPre ts)) := (HB4.out.cell (World.block_lt_of_cell? w _ HXB.out)).trans HXB.out
          have VV := Aside0.mk (HV.out.below HB4.out)
          have VB := Aside0.mk (kblk_below HP.out HB4.out)
          have VG := Aside0.mk (globE_below HG.out HB4.out)
          clear htm hlt2 gq gz hl hxb2 HL
          replace p2 := eq_true p2
          replace p3 := eq_true p3
          cases pre <;> cases xb
          all_goals go_wp2_with ((go_at_call 134; (with_reducible refine (check_tm k p q z tm a b c s m o _ VV.out VB.out VG.out GZ.out GQ.out HPQ.out _ _ (by first | exact HT.out | (simpa using HT.out))).mono ?_); rintro e w3 ⟨⟨x3, rfl⟩, hb3⟩; have HB5 := Aside0.mk (bl_on HB3.out hb3); clear hb3))
          · skip
            · go_roundg (go - 1)
              case measure => have h1 := HI.out; have h2 := of_eq_true p1; omega
              case rel =>
                have hbl : bl = false := by have := HL2.out; simpa using this.symm
                subst hbl
                exact ⟨wrap64 (x + 1), rfl, ⟨by rw [F1.out]; have h1 := HI.out; have h2 := of_eq_true p1; omega⟩, ⟨by rw [F1.out]; simpa using HC.out⟩, ⟨bl_on HB2.out HB5.out⟩⟩
          · skip
            · go_roundg (gk - 1)
              case measure => have h1 := HI2.out; have h2 := of_eq_true p3; omega
              case rel => exact ⟨wrap64 (y + 1), rfl, rfl, ⟨by rw [E1.out]; have h1 := HI2.out; have h2 := of_eq_true p3; omega⟩, ⟨by rw [E1.out]; simpa using HL2.out⟩, HB5⟩
          · skip
            · go_roundg (go - 1)
              case measure => have h1 := HI.out; have h2 := of_eq_true p1; omega
              case rel =>
                have hbl : bl = false := by have := HL2.out; simpa using this.symm
                subst hbl
                exact ⟨wrap64 (x + 1), rfl, ⟨by rw [F1.out]; have h1 := HI.out; have h2 := of_eq_true p1; omega⟩, ⟨by rw [F1.out]; simpa using HC.out⟩, ⟨bl_on HB2.out HB5.out⟩⟩
          · skip
            · go_roundg (gk - 1)
              case measure => have h1 := HI2.out; have h2 := of_eq_true p3; omega
              case rel => exact ⟨wrap64 (y + 1), rfl, rfl, ⟨by rw [E1.out]; have h1 := HI2.out; have h2 := of_eq_true p3; omega⟩, ⟨by rw [E1.out]; simpa using HL2.out⟩, HB5⟩
        · have c3 : decide (y < (ts.length : Int)) = false := decide_eq_false hlt2
          have hl := HL.out
          rw [List.drop_of_length_le (by have h1 := HI2.out; omega)] at hl
          obtain rfl : true = bl := Option.some.inj hl
          have hc : some true = some r := by simpa using HC.out
          obtain rfl := Option.some.inj hc
          clear hl hc hlt2
          go_wp2
          go_ret
          exact ⟨rfl, bl_on HBw.out HB3.out⟩
    · have c1' : decide (x < (tss.length : Int)) = false := decide_eq_false hlt
      have hc := H.out
      rw [List.drop_of_length_le (by have h1 := HI.out; omega)] at hc
      obtain rfl : false = r := Option.some.inj hc
      clear hc hlt
      go_wp2
      go_ret
      exact ⟨rfl, bl_on HB.out HB2.out⟩

abbrev Box1 (w : World) (a b c : Int) (s m : ByteArray) (W : World) : Prop := W.cell? ⟨w.heap.size, 0, none⟩ = some (.int .u64 a) ∧ W.cell? ⟨w.heap.size, 1, none⟩ = some (.int .u64 b) ∧ W.cell? ⟨w.heap.size, 2, none⟩ = some (.int .u64 c) ∧ W.cell? ⟨w.heap.size, 3, none⟩ = some (.string s) ∧ W.cell? ⟨w.heap.size, 4, none⟩ = some (.string m) ∧ Hid (Below w.heap.size w W)
theorem box1_on {w : World} {a b c : Int} {s m : ByteArray} {W W' : World} (hb : Below W.heap.size W W') (h : Box1 w a b c s m W) : Box1 w a b c s m W' := by
  obtain ⟨h6, h7, h8, h9, h10, hh⟩ := h
  exact ⟨cell_on hb h6, cell_on hb h7, cell_on hb h8, cell_on hb h9, cell_on hb h10, Lib.hid (bl_on hh.out hb)⟩
theorem box1_start (w : World) (a b c : Int) (s m : ByteArray) : Box1 w a b c s m (w.alloc (.cells #[.int .u64 a, .int .u64 b, .int .u64 c, .string s, .string m] 24)) := by
  refine ⟨?_, ?_, ?_, ?_, ?_, Lib.hid ?_⟩
  all_goals first | (go_simp; done) | (repeat (first | exact Below.refl _ _ | apply bl_alloc))
def tmB (t : S36) : Bool := decide (0 ≤ t.f1 ∧ t.f1 ≤ 3 ∧ 0 ≤ t.f0 ∧ t.f0 < 8)
/-- of which lists we speak -/
def tssB (tss : List (List S36)) : Bool := decide (tss.length ≤ 2147483647) && tss.all fun l => decide (l.length ≤ 2147483647) && l.all tmB
theorem tssB_iff {tss : List (List S36)} (h : tssB tss = true) : tss.length ≤ 2147483647 ∧ ∀ l ∈ tss, l.length ≤ 2147483647 ∧ ∀ t ∈ l, tmOk t := by
  simp only [tssB, Bool.and_eq_true, decide_eq_true_eq, List.all_eq_true] at h
  exact ⟨h.1, fun l hl => ⟨(h.2 l hl).1, fun t ht => by have := (h.2 l hl).2 t ht; simpa [tmB, tmOk] using this⟩⟩
set_option maxHeartbeats 4000000 in
set_option maxRecDepth 100000 in
theorem TermsHold_any (k : Nat) (A : Option Addr) (cc : Nat) (tss : List (List S36)) (a b c : Int) (s m : ByteArray) (pre r : Bool) (w : World) (hG : GlobE w) (hr : Kd.C (Kd.slice 36 k36) w A tss.length tss) (hc : tss.length ≤ cc) (hok : tssB tss = true) (h : cHolds k a b c s m pre tss = some r) :
    Calls Tryd.prog 55 #[.slice A tss.length cc, .agg #[.int .u64 a, .int .u64 b, .int .u64 c, .string s, .string m], .bool pre] w fun e w' => e = .returned (.bool r) ∧ Below w.heap.size w w' := by
  have HR := Aside0.mk hr
  have HC := Aside0.mk hc
  have HK := Aside0.mk (tssB_iff hok)
  have H := Aside0.mk h
  have HG := Lib.hid hG
  have HB := Lib.hid (box1_start w a b c s m)
  clear hr hG hc hok h
  go_enter Tryd.func55, Tryd.ntmps55
  go_wp2_with fail
  first | go_region_held3 (fun W => W.cell? ⟨w.heap.size, 0, none⟩ = some (.int .u64 a) ∧ W.cell? ⟨w.heap.size, 1, none⟩ = some (.int .u64 b) ∧ W.cell? ⟨w.heap.size, 2, none⟩ = some (.int .u64 c) ∧ W.cell? ⟨w.heap.size, 3, none⟩ = some (.string s) ∧ W.cell? ⟨w.heap.size, 4, none⟩ = some (.string m) ∧ Hid (Below w.heap.size w W)) (first | assumption | exact box1_on (drew_below _) HB.out | (apply box1_on <;> first | assumption | exact box1_on (drew_below _) HB.out)) (first
    | (go_at_call 101; refine (terms_any A cc tss _ (Kd.C_below HR.out (by repeat (first | exact Below.refl _ _ | apply bl_drew | apply bl_alloc))) HC.out HK.out.1 HK.out.2).mono ?_; rintro e w1 ⟨A', c', rfl, hc', hC, hb1⟩)
    | (go_at_call 100; refine (lists_any A' c' tss pre _ hC HK.out.1 (fun l hl => (HK.out.2 l hl).1)).mono ?_; rintro e w2 ⟨A1, c1, A2, c2, rfl, hC1, hC2, hb2⟩)
    | (go_at_call 66; refine (version_laid _ _ _ _ _ _).mono ?_; rintro e w3 ⟨p, rfl, hM⟩; have hMb := hM.bel)
    | (go_at_call 102; refine (checks_any k A1 A2 c1 c2 tss pre p a b c s m ⟨#[]⟩ w1 _ hM.v hM.b (globE_below HG.out (bl_on (bl_on (bl_on (by repeat (first | exact Below.refl _ _ | apply bl_drew | apply bl_alloc)) hb1) hb2) hM.bel)) (bl_on hb2 hM.bel) (Nat.le_trans hb2.size hM.new) (Kd.C_below hC1 hM.bel) (Kd.C_below hC2 hM.bel) HK.out.1 (fun l hl => (HK.out.2 l hl).1) r H.out).mono ?_; rintro e w' ⟨rfl, hb⟩)) | fail
  rename_i hH
  have HH := Lib.hid hH.2.2.2.2.2.out
  clear hH
  go_wp2_with fail
  go_ret
  exact ⟨rfl, HH.out⟩

/-- what the lists say; asked of good operators alone -/
def impl_TermsHold.f (k : Nat) (tss : List (List S36)) (a b c : Int) (s m : ByteArray) (pre : Bool) : Option Bool := if tssB tss = true then cHolds k a b c s m pre tss else none
theorem lHolds_mono (k : Nat) (a b c : Int) (s m : ByteArray) (pre : Bool) : ∀ l : List S36, LeO (lHolds k a b c s m pre l) (lHolds (k + 1) a b c s m pre l)
  | [] => LeO.refl _
  | t :: l => LeO.bind (impl_TermHolds.mono _ _ _ _ _ _ _ _ _ _ _ _ k) (fun _ => leO_if (lHolds_mono k a b c s m pre l) (LeO.refl _))
theorem cHolds_mono (k : Nat) (a b c : Int) (s m : ByteArray) (pre : Bool) : ∀ l : List (List S36), LeO (cHolds k a b c s m pre l) (cHolds (k + 1) a b c s m pre l)
  | [] => LeO.refl _
  | ts :: l => LeO.bind (lHolds_mono k a b c s m _ ts) (fun _ => leO_if (LeO.refl _) (cHolds_mono k a b c s m pre l))
theorem impl_TermsHold.mono : ∀ tss a b c s m pre k, LeO (impl_TermsHold.f k tss a b c s m pre) (impl_TermsHold.f (k + 1) tss a b c s m pre) := fun tss a b c s m pre k => leO_if (cHolds_mono k a b c s m pre tss) (LeO.refl _)
theorem impl_TermsHold.calls (k : Nat) (A0 : Option Addr) (c0 : Nat) (l0 : List (List S36)) (a b c : Int) (s m : ByteArray) (pre : Bool) (r : Bool) (w : World) (hr0 : Kd.C (Kd.slice 36 k36) w A0 l0.length l0) (hc0 : l0.length ≤ c0) (hGE : GlobE w) (h : impl_TermsHold.f k l0 a b c s m pre = some r) :
    Calls Tryd.prog 55 #[.slice A0 l0.length c0, .agg #[.int .u64 a, .int .u64 b, .int .u64 c, .string s, .string m], .bool pre] w fun e w' => e = .returned (.bool r) ∧ Below w.heap.size w w' := by
  unfold impl_TermsHold.f at h
  by_cases hc : tssB l0 = true
  · rw [if_pos hc] at h
    exact TermsHold_any k A0 c0 l0 a b c s m pre r w hGE hr0 hc0 hc h
  · rw [if_neg hc] at h; cases h
end Go.Proofs.YtlooelfkkbgmhaaDoor
