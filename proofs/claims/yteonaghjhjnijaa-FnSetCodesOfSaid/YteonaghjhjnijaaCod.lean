/-
  SetCodes: the codes of the texts, in their order.
-/
import Derived.Test.YteonaghjhjnijaaTab
import Derived.Maps.StringElems
set_option linter.unusedVariables false
set_option linter.unusedSimpArgs false
namespace Go.Proofs.Yteonaghjhjnijaa
open Go Go.Maps Go.RowKit Go.Proofs.YteonaghjhjnijaaW.PrintWords Go.Proofs.YteonaghjhjnijaaW.PrintLast Go.Proofs.Yteonaghjhjnijaa.QK
theorem inf9 : (Try.prog.info? 9).map (fun i => (i.zero, i.size, i.bytes)) = some (some (.string ⟨#[]⟩), 1, 16) := by kernel_rfl
theorem zero9 (w : World) : (zeroValue 9).run Try.prog w = .ok (.string ⟨#[]⟩) w := by kernel_rfl
theorem look27 {w : World} {ops : Array Oper} {rest : List Oper} {o : Oper} {a : Act} {Q : Exit → Act → World → Prop} (hg : o.guard = none) (m x : Operand) (hop : o.op = Op.lookup 27 m x false) (b k : Nat) (D : DataW Unit) (hm : a.eval m = .map (some b)) (hown : Owns w b k D) (key : ByteArray) (hx : a.eval x = .string key) (hs : key.size ≤ 1000) (s : ByteArray) (hat : ∀ z, D.atKey (.string (L key)) z = .lit (.string (L s)))
    (hK : wpList Try.prog ops Q rest (a.put o.dst (.string s)) w) : wpList Try.prog ops Q (o :: rest) a w := by
  refine wpList_plain hg fun K' hK' => ?_
  obtain ⟨v, ps, hrun, hv⟩ := hown.lookup law31 Try.underlying27 (zero9 w) (plainElem_string Try.underlying9 (by decide)) (key31 key hs)
  rw [hat] at hv
  obtain ⟨s', rfl, h1, _⟩ := plainElem_string_inv Try.underlying9 hv
  obtain rfl : s = s' := by
    have h2 := congrArg Prod.fst h1
    injection h2 with h3
    injection h3 with h4
    exact L_ext h4
  unfold Oper.wp
  simp [execOp, hop, hm, hx, hrun, Result.andThen]
  exact hK' _ _ hK
theorem en_of {a : ByteArray} {l : List ByteArray} {S : Nat} {A : Option Addr} {c : Nat} {W : World} {ps : List Nat} (hS : W.heap[S]? = some (.cells (setC (.slice A l.length c)) 48 (0, 0))) (hC : Kd.C ptK W A l.length ps) (hH : Hold W a ps l) : EN a l S A c W :=
  ⟨cellsOf hS 6, fun i hi => by
    obtain ⟨ad, h0, h1⟩ := ReadsOf.at_ (Kd.reads_of_C (enc := fun q => .pointer (some ⟨q, 0, none⟩)) (d := (0 : Nat)) (h1 := fun _ => rfl) hC) (i : Int) (by omega) (by omega)
    have h2 := hH.2 i hi
    refine ⟨ad, ps.getD i 0, h0, ?_, cellsOf h2 0, cellsOf h2 1, cellsOf h2 2⟩
    rw [Int.toNat_natCast] at h1
    exact h1⟩
theorem own_grown {W w1 : World} {B k base : Nat} {D : DataW Unit} {v : Value} {xs : List ByteArray} (h : Owns W B k D) (hR : Kd.R Kd.string 9 W base (fun _ => True) v xs) (hg : W.grownBy w1 v.ownBlock) : Owns w1 B k D := by
  refine h.kept hg (fun he => ?_)
  obtain ⟨cells, hc⟩ := Kd.R_typed hR B he.symm
  obtain ⟨es, clock, hb, _⟩ := h
  rw [hb] at hc
  injection hc with h2
  cases h2
/-- what is asked of the arguments -/
def Asked (a : ByteArray) (l : List ByteArray) (x : Int) : Prop := l.length ≤ 40 ∧ a.size ≤ 50 ∧ (∀ i, i < l.length → (val l i).size ≤ 200) ∧ (0 ≤ x ∧ x ≤ 200) ∧ ∀ i, i < l.length → ∀ j, j < l.length → i ≠ j → val l i ≠ val l j
def askedDec (a : ByteArray) (l : List ByteArray) (x : Int) : Decidable (Asked a l x) := by
  unfold Asked
  infer_instance
def codesL (a : ByteArray) (l : List ByteArray) (n i : Nat) : List ByteArray := (List.range i).map (codeF a l n)
theorem codes_next (a : ByteArray) (l : List ByteArray) (n i : Nat) : codesL a l n (i + 1) = codesL a l n i ++ [codeF a l n i] := by
  unfold codesL
  rw [List.range_succ, List.map_append]
  rfl
theorem codes_len (a : ByteArray) (l : List ByteArray) (n i : Nat) : (codesL a l n i).length = i := by unfold codesL; simp
set_option maxHeartbeats 8000000 in
set_option maxRecDepth 100000 in
theorem codes7 (a : ByteArray) (A : Option Addr) (c : Nat) (l : List ByteArray) (n : Nat) (w : World) (hr : Kd.C Kd.string w A l.length l) (hq : Asked a l (n : Int)) :
    Calls Try.prog 7 #[.string a, .slice A l.length c, .int .i64 (n : Int)] w fun e w' => ∃ v, e = .returned v ∧ Kd.R Kd.string 9 w' w.heap.size (fun _ => True) v (codesL a l n l.length) ∧ Below w.heap.size w w' := by
  have HR := Aside0.mk hr
  have HQ := Aside0.mk hq
  have HZ := Aside0.mk (zzset10 a A c l w hr hq.1 hq.2.1 hq.2.2.1)
  have s1 : (9223372036854775807 < a.size + 1) = False := eq_false (by have := hq.2.1; omega)
  have HN : Aside0 (n ≤ 200) := ⟨by have := hq.2.2.2.1; omega⟩
  clear hr hq
  go_enter Try.func7, Try.ntmps7
  go_wp2_with (first
    | (go_at_call 10; (refine HZ.out.mono ?_; rintro e w2 ⟨S, v, ps, rfl, hS0, hS, hv, hH, hb⟩; have hps : ps.length = l.length := hH.1; obtain ⟨A1, c1, rfl, _, hC⟩ := Kd.R_reads hv; rw [hps] at hC hS hv; have HEN := Aside0.mk (en_of hS hC hH); have HS0 := Aside0.mk hS0; have HS := Aside0.mk hS; have HB2 := Aside0.mk hb; clear hv hC hH hps hS0 hS hb))
    | (go_at_call 9; (refine (table9 a l S A1 c1 n w w2 HS.out HEN.out HB2.out HS0.out HQ.out.1 HQ.out.2.1 HQ.out.2.2.1 HN.out (fun i j hi hj => HQ.out.2.2.2.2 i hi j hj)).mono ?_); rintro e w3 ⟨B, k, D, rfl, hB0, ho, hk, hb⟩; have HO := Aside0.mk ho; have HK := Aside0.mk hk; have HB3 := Aside0.mk hb; clear hB0 ho hk hb))
  go_loopg [8, 18] (l.length + 1) (fun g v8 v18 w' => ∃ (x : Int) (i : Nat), v18 = .int .i64 x ∧ Aside0 (x = (i : Int) ∧ i ≤ l.length ∧ g + i = l.length + 1) ∧ Aside0 (Kd.R Kd.string 9 w' w.heap.size (fun _ => True) v8 (codesL a l n i)) ∧ Aside0 (Owns w' B k D) ∧ Aside0 (Below w.heap.size w w'))
  case atStart => exact ⟨0, 0, rfl, ⟨rfl, Nat.zero_le _, rfl⟩, ⟨Kd.R_nil _ _ _ _ _⟩, HO, HB3⟩
  case round =>
    clear HO HB3
    obtain ⟨x, i, rfl, HI, HC, HO, HB⟩ := hrel
    by_cases hlt : i < l.length
    · have c1 : decide (x < (l.length : Int)) = true := decide_eq_true (by have := HI.out.1; omega)
      have p0 : 0 ≤ x := by have := HI.out.1; omega
      have p1 : x < (l.length : Int) := by have := HI.out.1; omega
      obtain ⟨ad, e0, g0⟩ := Kd.at_string HR.out x p0 p1
      cases e0
      replace g0 := cell_on HB.out g0
      obtain ⟨tm, htm⟩ : ∃ tm, tm = val l i := ⟨_, rfl⟩
      have hx : rdOf ByteArray.empty l x = tm := by rw [htm, HI.out.1]; rfl
      rw [hx] at g0
      have hts : tm.size ≤ 200 := by rw [htm]; exact HQ.out.2.2.1 i hlt
      have s2 : (9223372036854775807 < a.size + 1 + tm.size) = False := eq_false (by have := HQ.out.2.1; omega)
      have HKE : Aside0 (∀ z, D.atKey (.string (L (a ++ ⟨#[58]⟩ ++ tm))) z = .lit (.string (L (codeF a l n i)))) := ⟨by rw [htm]; exact HK.out i hlt⟩
      have HKS : Aside0 ((a ++ ⟨#[58]⟩ ++ tm).size ≤ 1000) := ⟨by rw [ByteArray.size_append, ByteArray.size_append]; have h1 := HQ.out.2.1; show a.size + 1 + _ ≤ _; omega⟩
      have HW : Aside0 (wrap64 (x + 1) = ((i + 1 : Nat) : Int)) := ⟨by rw [HI.out.1]; have := HQ.out.1; unfold wrap64; omega⟩
      have HLT := Aside0.mk hlt
      obtain ⟨s, HSS⟩ : ∃ s, Aside0 (s = codeF a l n i) := ⟨_, ⟨rfl⟩⟩
      have HKE2 : Aside0 (∀ z, D.atKey (.string (L (a ++ ⟨#[58]⟩ ++ tm))) z = .lit (.string (L s))) := ⟨by rw [HSS.out]; exact HKE.out⟩
      clear htm hx hts hlt HKE
      replace p0 := eq_true p0
      replace p1 := eq_true p1
      go_wp2_with (first
        | (at_lookup; refine look27 rfl _ _ rfl B k D rfl HO.out _ rfl HKS.out s HKE2.out ?_)
        | (at_builtin; refine Kd.R_append Kd.string (w0 := w) w.heap.size rfl (.tmp 22) (.tmp 29) 22 9 (.string ⟨#[]⟩) 16 rfl Try.underlying22 inf9 rfl (by decide) (by omega) u8 (codesL a l n i) s [.string s] (fun _ => True) (fun _ => False) rfl rfl ?aP ?aK (fun _ _ => trivial) HC.out HB.out HB.out.size ?aL ?_; (case aP => exact rfl); (case aK => exact fun _ h => h.elim); (case aL => rw [codes_len]; have h1 := HI.out.2.1; have h2 := HQ.out.1; omega); intro v1 w1 hR1 hB1 hg1 _; have HR1 := Aside0.mk hR1; have HB1 := Aside0.mk hB1; have HO1 := Aside0.mk (own_grown HO.out HC.out hg1); clear hR1 hB1 hg1))
      go_roundg (l.length - i)
      case measure => have h1 := HI.out; have h2 := HLT.out; omega
      case rel => exact ⟨_, i + 1, rfl, ⟨HW.out, HLT.out, by have h2 := HLT.out; omega⟩, ⟨by rw [codes_next, ← HSS.out]; exact HR1.out⟩, HO1, HB1⟩
    · have c1 : decide (x < (l.length : Int)) = false := decide_eq_false (by have := HI.out.1; omega)
      have HIE : Aside0 (i = l.length) := ⟨by have := HI.out; omega⟩
      clear hlt
      go_wp2
      go_ret
      exact ⟨_, rfl, by rw [← HIE.out]; exact HC.out, HB.out⟩
end Go.Proofs.Yteonaghjhjnijaa
namespace Go.Proofs.Yteonaghjhjnijaa.QW
open Go Go.RowKit Go.Proofs.YteonaghjhjnijaaW.PrintWords Go.Proofs.YteonaghjhjnijaaW.PrintLast Go.Proofs.Yteonaghjhjnijaa
/-- what SetCodes gives, where it is asked -/
def impl_SetCodes.f (a : ByteArray) (l : List ByteArray) (x : Int) : Option (List ByteArray) := @ite _ (Asked a l x) (askedDec a l x) (some (codesL a l x.toNat l.length)) none
theorem impl_SetCodes.f_pos {a : ByteArray} {l : List ByteArray} {x : Int} (h : Asked a l x) : impl_SetCodes.f a l x = some (codesL a l x.toNat l.length) := by
  unfold impl_SetCodes.f
  rw [if_pos h]
theorem impl_SetCodes.calls (a0 : ByteArray) (A0 : Option Addr) (c0 : Nat) (l1 : List ByteArray) (a2 : Int) (r : List ByteArray) (w : World) (hr1 : Kd.C Kd.string w A0 l1.length l1) (hc1 : l1.length ≤ c0) (h : impl_SetCodes.f a0 l1 a2 = some r) :
    Calls Try.prog 7 #[.string a0, .slice A0 l1.length c0, .int .i64 a2] w fun e w' => ∃ v0_ : Value, e = .returned (v0_) ∧ Kd.R Kd.string 9 w' w.heap.size (fun _ => True) v0_ r ∧ Below w.heap.size w w' := by
  by_cases hq : Asked a0 l1 a2
  · rw [impl_SetCodes.f_pos hq] at h
    obtain rfl := Option.some.inj h
    obtain ⟨n, rfl⟩ : ∃ n : Nat, a2 = n := ⟨a2.toNat, by have := hq.2.2.2.1; omega⟩
    exact codes7 a0 A0 c0 l1 n w hr1 hq
  · unfold impl_SetCodes.f at h
    rw [if_neg hq] at h
    cases h
end Go.Proofs.Yteonaghjhjnijaa.QW
