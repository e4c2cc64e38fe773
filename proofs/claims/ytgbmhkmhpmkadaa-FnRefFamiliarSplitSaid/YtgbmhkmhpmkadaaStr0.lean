/-
  Searches in plain texts and small letters, walked; the inner making of familiar names.
-/
import Derived.Test.YtgbmhkmhpmkadaaQWx1
import Derived.Deep.Cut
import Derived.Lib.Hide
import Derived.Lib.OthersKept
import Derived.LoopTactic
import Derived.Deep.LoopGhost
import Derived.Outline
set_option linter.unusedVariables false
set_option linter.unusedSimpArgs false
namespace Go.Proofs.Ytgbmhkmhpmkadaa
open Go Go.RowKit Go.Proofs.YtgbmhkmhpmkadaaW.PrintWords Go.Proofs.YtgbmhkmhpmkadaaW.PrintLast

theorem bl_alloc {w W : World} (h : Below w.heap.size w W) (o : Obj) : Below w.heap.size w (W.alloc o) := h.alloc h.size o
theorem bl_drew {B : Nat} {w W : World} (h : Below B w W) : Below B w W.drew := ⟨h.os, h.tape, h.output, h.size, h.block⟩
theorem bl_on {w W W1 : World} (h : Below w.heap.size w W) (h1 : Below W.heap.size W W1) : Below w.heap.size w W1 := h.trans (h1.mono h.size)
theorem bl_iter (w : World) (s : ByteArray) (pos : Nat) : Below w.heap.size w (w.iter s pos) := bl_alloc (Below.refl _ _) _
/-- all bytes are plain -/
def Plain (s : ByteArray) : Prop := ∀ b ∈ s.data.toList, b.toNat < 128
theorem plain_at {s : ByteArray} (h : Plain s) (i : Nat) (hi : i < s.size) : (s[i]'hi).toNat < 128 := h _ (by rw [← Array.mem_def]; exact Array.getElem_mem hi)
/-- none of the first bytes is of the kind -/
def NoneIn (p : UInt8 → Bool) (s : ByteArray) (n : Nat) : Prop := ∀ i, ∀ h : i < s.size, i < n → p (s[i]'h) = false
theorem noneIn_zero (p : UInt8 → Bool) (s : ByteArray) : NoneIn p s 0 := fun i _ h => absurd h (Nat.not_lt_zero i)
theorem noneIn_succ {p : UInt8 → Bool} {s : ByteArray} {n : Nat} (h : NoneIn p s n) (hn : n < s.size) (hp : p (s[n]'hn) = false) : NoneIn p s (n + 1) := fun i hi hlt => by
  by_cases he : i = n
  · subst he; exact hp
  · exact h i hi (by omega)
def anyB (p : UInt8 → Bool) (s : ByteArray) : Bool := s.data.toList.any p
theorem any_none {p : UInt8 → Bool} {s : ByteArray} (h : NoneIn p s s.size) : anyB p s = false := by
  unfold anyB
  rw [List.any_eq_false]
  intro b hb
  obtain ⟨i, hi, rfl⟩ := List.mem_iff_getElem.1 hb
  have hi' : i < s.size := by rw [Array.length_toList] at hi; exact hi
  intro h2
  have h3 : p (s[i]'hi') = true := h2
  rw [h i hi' hi'] at h3
  cases h3
theorem any_hit {p : UInt8 → Bool} {s : ByteArray} {i : Nat} (hi : i < s.size) (hp : p (s[i]'hi) = true) : anyB p s = true := by
  unfold anyB
  rw [List.any_eq_true]
  exact ⟨s[i]'hi, by rw [← Array.mem_def]; exact Array.getElem_mem hi, hp⟩
set_option maxHeartbeats 4000000 in
set_option maxRecDepth 100000 in
theorem indexRune_any (s : ByteArray) (hp : Plain s) (w : World) :
    Calls Try.prog 24 #[.string s, .int .i32 47] w fun e w' => ∃ v : Int, e = .returned (.int .i64 v) ∧ decide (0 ≤ v) = anyB (· == 47) s ∧ Below w.heap.size w w' := by
  have HP := Aside0.mk hp
  clear hp
  go_enter Try.func24, Try.ntmps24
  go_wp2
  go_loopg [5] (s.size + 1) (fun g v5 w' => ∃ pos : Nat, w' = w.iter s pos ∧ Aside0 (pos ≤ s.size ∧ g + pos = s.size + 1) ∧ Aside0 (NoneIn (· == 47) s pos))
  case atStart => exact ⟨0, rfl, ⟨by omega, by omega⟩, ⟨noneIn_zero _ _⟩⟩
  case round =>
    obtain ⟨pos, rfl, HI, HZ⟩ := hrel
    by_cases hlt : pos < s.size
    · obtain ⟨x, hx⟩ : ∃ x : UInt8, s[pos]'hlt = x := ⟨_, rfl⟩
      have hx128 : x.toNat < 128 := by rw [← hx]; exact plain_at HP.out pos hlt
      have hnx := fun ty => run_next_ascii (P := Try.prog) w s pos ty hlt (by rw [hx]; exact hx128)
      rw [hx] at hnx
      by_cases h47 : x = 47
      · subst h47
        have HY := Aside0.mk (any_hit (p := (· == 47)) hlt (by rw [hx]; rfl))
        clear hx hlt hx128
        go_wp2
        go_ret
        exact ⟨pos, rfl, by rw [HY.out]; simp, bl_iter _ _ _⟩
      · have HY := Aside0.mk (noneIn_succ HZ.out hlt (by rw [hx]; exact beq_eq_false_iff_ne.2 h47))
        have c1 : ((x.toNat : Int) == 47) = false := beq_eq_false_iff_ne.2 (fun h => h47 (UInt8.toNat.inj (by simpa using (Int.ofNat.inj h : x.toNat = 47))))
        have HL := Aside0.mk hlt
        clear hx hlt hx128 h47
        go_wp2
        go_roundg (gk - 1)
        case measure => have h1 := HI.out; have h2 := HL.out; omega
        case rel => exact ⟨pos + 1, rfl, ⟨by have h1 := HI.out; have h2 := HL.out; omega⟩, HY⟩
    · have hnx := fun ty => run_next_end (P := Try.prog) w s pos ty hlt
      have HY := Aside0.mk (any_none (p := (· == 47)) (by have h1 := HI.out; have h2 : pos = s.size := by omega
                                                          rw [← h2]; exact HZ.out))
      clear hlt
      go_wp2
      go_ret
      exact ⟨-1, rfl, by rw [HY.out]; rfl, bl_iter _ _ _⟩
theorem containsRune_any (s : ByteArray) (hp : Plain s) (w : World) :
    Calls Try.prog 18 #[.string s, .int .i32 47] w fun e w' => e = .returned (.bool (anyB (· == 47) s)) ∧ Below w.heap.size w w' := by
  have HP := Aside0.mk hp
  clear hp
  go_enter Try.func18, Try.ntmps18
  go_wp2_with (go_at_call 24; (with_reducible refine (indexRune_any s HP.out _).mono ?_); rintro e w1 ⟨v, rfl, hv, hb⟩; have HV := Aside0.mk hv; have HB := Aside0.mk hb; clear hv hb)
  go_ret
  exact ⟨by rw [← HV.out]; rfl, HB.out⟩
def isDot (b : UInt8) : Bool := b == 46 || b == 58
theorem dots0 (W : World) : ∀ ty, (Instr.next (.pointer (some ⟨W.heap.size, 0, none⟩)) true ty).run Try.prog (W.iter ⟨#[46, 58]⟩ 0) = .ok (.tuple #[.bool true, .int .i64 0, .int .i32 46]) (W.iter ⟨#[46, 58]⟩ 1) := fun ty => run_next_ascii (P := Try.prog) W ⟨#[46, 58]⟩ 0 ty (by decide) (by decide)
theorem dots1 (W : World) : ∀ ty, (Instr.next (.pointer (some ⟨W.heap.size, 0, none⟩)) true ty).run Try.prog (W.iter ⟨#[46, 58]⟩ 1) = .ok (.tuple #[.bool true, .int .i64 1, .int .i32 58]) (W.iter ⟨#[46, 58]⟩ 2) := fun ty => run_next_ascii (P := Try.prog) W ⟨#[46, 58]⟩ 1 ty (by decide) (by decide)
theorem dots2 (W : World) : ∀ ty, (Instr.next (.pointer (some ⟨W.heap.size, 0, none⟩)) true ty).run Try.prog (W.iter ⟨#[46, 58]⟩ 2) = .ok (.tuple #[.bool false]) (W.iter ⟨#[46, 58]⟩ 2) := fun ty => run_next_end (P := Try.prog) W ⟨#[46, 58]⟩ 2 ty (by decide)
theorem byte_beq (x : UInt8) (n : Nat) (hn : n < 256) : ((x.toNat : Int) == (n : Int)) = (x == UInt8.ofNat n) := by
  rw [Bool.eq_iff_iff, beq_iff_eq, beq_iff_eq]
  constructor
  · intro h
    have h1 : x.toNat = n := by omega
    rw [← h1]; simp
  · intro h
    rw [h]; simp; omega
set_option maxHeartbeats 8000000 in
set_option maxRecDepth 100000 in
theorem indexAny_any (s : ByteArray) (hp : Plain s) (w : World) :
    Calls Try.prog 26 #[.string s, .string ⟨#[46, 58]⟩] w fun e w' => ∃ v : Int, e = .returned (.int .i64 v) ∧ decide (0 ≤ v) = anyB isDot s ∧ Below w.heap.size w w' := by
  have HP := Aside0.mk hp
  clear hp
  go_enter Try.func26, Try.ntmps26
  go_wp2
  go_loopg [5] (s.size + 1) (fun g v5 w' => ∃ pos : Nat, Aside0 (w'.heap[w.heap.size]? = some (.stringIter s pos)) ∧ Aside0 (pos ≤ s.size ∧ g + pos = s.size + 1) ∧ Aside0 (NoneIn isDot s pos) ∧ Aside0 (Below w.heap.size w w'))
  case atStart => exact ⟨0, ⟨World.iter_heap _ _ _⟩, ⟨by omega, by omega⟩, ⟨noneIn_zero _ _⟩, ⟨bl_iter _ _ _⟩⟩
  case round =>
    obtain ⟨pos, HT, HI, HZ, HB⟩ := hrel
    by_cases hlt : pos < s.size
    · obtain ⟨x, hx⟩ : ∃ x : UInt8, s[pos]'hlt = x := ⟨_, rfl⟩
      have hx128 : x.toNat < 128 := by rw [← hx]; exact plain_at HP.out pos hlt
      have hnx := fun ty => Lib.run_next_ascii_at (P := Try.prog) wr w.heap.size s pos ty HT.out hlt (by rw [hx]; exact hx128)
      rw [hx] at hnx
      have HX := Aside0.mk (show ∃ h : pos < s.size, s[pos]'h = x from ⟨hlt, hx⟩)
      have H2 := Aside0.mk (Lib.iterAt_heap wr w.heap.size s pos (pos + 1) HT.out)
      have HB2 := Aside0.mk (Lib.below_iterAt HB.out (Nat.le_refl _) s (pos + 1))
      clear hx hx128 hlt
      go_wp2
      clear hnx
      have hsz : (wr.iterAt w.heap.size s (pos + 1)).heap.size = wr.heap.size := Lib.iterAt_size _ _ _ _
      generalize wr.iterAt w.heap.size s (pos + 1) = W2 at H2 HB2 hsz ⊢
      obtain ⟨g0, hg0⟩ : ∃ g0, g0 = gk := ⟨_, rfl⟩
      rw [← hg0] at HI
      clear hsz
      go_loopg [8] 3 (fun g v8 w' => ∃ j : Nat, w' = W2.iter ⟨#[46, 58]⟩ j ∧ Aside0 (j ≤ 2 ∧ g + j = 3) ∧ Aside0 ((x = 46 → j = 0) ∧ (x = 58 → j ≤ 1)))
      case atStart => exact ⟨0, rfl, ⟨by omega, by omega⟩, ⟨fun _ => rfl, fun _ => by omega⟩⟩
      case round =>
        obtain ⟨j, rfl, HJ, HK⟩ := hrel
        have hj : j = 0 ∨ j = 1 ∨ j = 2 := by have h1 := HJ.out; omega
        rcases hj with rfl | rfl | rfl
        · have hn := dots0 W2
          by_cases h46 : x = 46
          · have c1 : ((x.toNat : Int) == 46) = true := by rw [h46]; rfl
            have HY : Aside0 (anyB isDot s = true) := ⟨by obtain ⟨h, e⟩ := HX.out; exact any_hit h (by rw [e, h46]; rfl)⟩
            clear h46
            go_wp2
            go_ret
            exact ⟨pos, rfl, by rw [HY.out]; simp, bl_on HB2.out (bl_iter _ _ _)⟩
          · have c1 : ((x.toNat : Int) == 46) = false := by rw [show (46 : Int) = ((46 : Nat) : Int) from rfl, byte_beq x 46 (by decide)]; exact beq_eq_false_iff_ne.2 h46
            have HY := Aside0.mk h46
            clear h46
            go_wp2
            go_roundg (gk - 1)
            case measure => have h1 := HJ.out; omega
            case rel => exact ⟨1, rfl, ⟨by have h1 := HJ.out; omega⟩, ⟨fun h => absurd h HY.out, fun _ => Nat.le_refl 1⟩⟩
        · have hn := dots1 W2
          by_cases h58 : x = 58
          · have c1 : ((x.toNat : Int) == 58) = true := by rw [h58]; rfl
            have HY : Aside0 (anyB isDot s = true) := ⟨by obtain ⟨h, e⟩ := HX.out; exact any_hit h (by rw [e, h58]; rfl)⟩
            clear h58
            go_wp2
            go_ret
            exact ⟨pos, rfl, by rw [HY.out]; simp, bl_on HB2.out (bl_iter _ _ _)⟩
          · have c1 : ((x.toNat : Int) == 58) = false := by rw [show (58 : Int) = ((58 : Nat) : Int) from rfl, byte_beq x 58 (by decide)]; exact beq_eq_false_iff_ne.2 h58
            have HY := Aside0.mk h58
            clear h58
            go_wp2
            go_roundg (gk - 1)
            case measure => have h1 := HJ.out; omega
            case rel => exact ⟨2, rfl, ⟨by have h1 := HJ.out; omega⟩, ⟨fun h => absurd (HK.out.1 h) (by decide), fun h => absurd h HY.out⟩⟩
        · have hn := dots2 W2
          have HY : Aside0 (NoneIn isDot s (pos + 1)) := ⟨by
            obtain ⟨h, e⟩ := HX.out
            refine noneIn_succ HZ.out h ?_
            have h1 : ¬ x = 46 := fun h => absurd (HK.out.1 h) (by decide)
            have h2 : ¬ x = 58 := fun h => absurd (HK.out.2 h) (by decide)
            rw [e]
            simp [isDot, h1, h2]⟩
          go_wp2
          go_roundg (g0 - 1)
          case measure => have h1 := HI.out; obtain ⟨h, _⟩ := HX.out; omega
          case rel => exact ⟨pos + 1, ⟨((bl_iter W2 _ _).block _ (Array.getElem?_eq_some_iff.1 H2.out).1).trans H2.out⟩, ⟨by have h1 := HI.out; obtain ⟨h, _⟩ := HX.out; omega⟩, HY, ⟨bl_on HB2.out (bl_iter _ _ _)⟩⟩
    · have hnx := fun ty => Lib.run_next_end_at (P := Try.prog) wr w.heap.size s pos ty HT.out hlt
      have HY := Aside0.mk (any_none (p := isDot) (by have h1 := HI.out; have h2 : pos = s.size := by omega
                                                      rw [← h2]; exact HZ.out))
      clear hlt
      go_wp2
      go_ret
      exact ⟨-1, rfl, by rw [HY.out]; rfl, HB.out⟩
theorem containsAny_any (s : ByteArray) (hp : Plain s) (w : World) :
    Calls Try.prog 20 #[.string s, .string ⟨#[46, 58]⟩] w fun e w' => e = .returned (.bool (anyB isDot s)) ∧ Below w.heap.size w w' := by
  have HP := Aside0.mk hp
  clear hp
  go_enter Try.func20, Try.ntmps20
  go_wp2_with (go_at_call 26; (with_reducible refine (indexAny_any s HP.out _).mono ?_); rintro e w1 ⟨v, rfl, hv, hb⟩; have HV := Aside0.mk hv; have HB := Aside0.mk hb; clear hv hb)
  go_ret
  exact ⟨by rw [← HV.out]; rfl, HB.out⟩
def lowI (n : Int) : Int := if 65 ≤ n ∧ n ≤ 90 then n + 32 else n
def lowL (s : ByteArray) (n : Nat) : List Int := (s.data.toList.take n).map fun b => lowI b.toNat
theorem lowL_length (s : ByteArray) (n : Nat) : (lowL s n).length ≤ s.size := by
  unfold lowL
  rw [List.length_map, List.length_take, Array.length_toList]
  exact Nat.min_le_right _ _
theorem lowL_succ {s : ByteArray} {n : Nat} {x : UInt8} (h : ∃ h : n < s.size, s[n]'h = x) : lowL s (n + 1) = lowL s n ++ [lowI x.toNat] := by
  obtain ⟨h, e⟩ := h
  unfold lowL
  rw [List.take_succ_eq_append_getElem (show n < s.data.toList.length from h), List.map_append]
  congr 2
  rw [← e]
  rfl
theorem info5 : (Try.prog.info? 5).map (fun i => (i.zero, i.size, i.bytes)) = some (some (.int .u8 0), 1, 1) := by kernel_rfl
set_option maxHeartbeats 8000000 in
set_option maxRecDepth 100000 in
theorem lower_any (s : ByteArray) (hp : Plain s) (hn : s.size ≤ 2147483647) (w : World) :
    Calls Try.prog 21 #[.string s] w fun e w' => e = .returned (.string (strOfNums (lowL s s.size))) ∧ Below w.heap.size w w' := by
  have HP := Aside0.mk hp
  have HN := Aside0.mk hn
  clear hp hn
  go_enter Try.func21, Try.ntmps21
  go_wp2
  obtain ⟨q0, hq0⟩ : ∃ q0, q0 = w.heap.size := ⟨_, rfl⟩
  go_loopg [3] (s.size + 1) (fun g v3 w' => ∃ pos : Nat, Aside0 (w'.heap[w.heap.size]? = some (.stringIter s pos)) ∧ Aside0 (pos ≤ s.size ∧ g + pos = s.size + 1) ∧ Aside0 (Kd.R (Kd.int .u8) 5 w' (w.heap.size + 1) (fun k => w.heap.size + 1 ≤ k) v3 (lowL s pos)) ∧ Aside0 (Below w.heap.size w w'))
  case atStart => exact ⟨0, ⟨World.iter_heap _ _ _⟩, ⟨by omega, by omega⟩, ⟨Kd.R_nil _ _ _ _ _⟩, ⟨bl_iter _ _ _⟩⟩
  case round =>
    obtain ⟨pos, HT, HI, HO, HB⟩ := hrel
    by_cases hlt : pos < s.size
    · obtain ⟨x, hx⟩ : ∃ x : UInt8, s[pos]'hlt = x := ⟨_, rfl⟩
      have hx128 : x.toNat < 128 := by rw [← hx]; exact plain_at HP.out pos hlt
      have hnx := fun ty => Lib.run_next_ascii_at (P := Try.prog) wr w.heap.size s pos ty HT.out hlt (by rw [hx]; exact hx128)
      rw [hx] at hnx
      have HX := Aside0.mk (show ∃ h : pos < s.size, s[pos]'h = x from ⟨hlt, hx⟩)
      have HX1 := Aside0.mk hx128
      have H2 := Aside0.mk (Lib.iterAt_heap wr w.heap.size s pos (pos + 1) HT.out)
      have HB2 := Aside0.mk (Lib.below_iterAt HB.out (Nat.le_refl _) s (pos + 1))
      have HO2 : Aside0 (Kd.R (Kd.int .u8) 5 (wr.iterAt w.heap.size s (pos + 1)) (w.heap.size + 1) (fun k => w.heap.size + 1 ≤ k) u3 (lowL s pos)) := ⟨Kd.R_step HO.out (fun k ho _ => Lib.iterAt_other wr w.heap.size k s (pos + 1) (by have h1 : w.heap.size + 1 ≤ k := ho; omega))⟩
      have HS2 := Aside0.mk (Lib.iterAt_size wr w.heap.size s (pos + 1))
      have HS1 : Aside0 (w.heap.size + 1 ≤ wr.heap.size) := ⟨(Array.getElem?_eq_some_iff.1 HT.out).1⟩
      clear hx hx128 hlt
      have HW : Aside0 (∀ v1 w1, Kd.R (Kd.int .u8) 5 w1 (w.heap.size + 1) (fun k => w.heap.size + 1 ≤ k) v1 (lowL s pos ++ [lowI x.toNat]) → Below (w.heap.size + 1) (wr.iterAt w.heap.size s (pos + 1)) w1 → w1.heap[w.heap.size]? = some (.stringIter s (pos + 1)) ∧ Kd.R (Kd.int .u8) 5 w1 (w.heap.size + 1) (fun k => w.heap.size + 1 ≤ k) v1 (lowL s (pos + 1)) ∧ Below w.heap.size w w1) := ⟨fun v1 w1 hR hB => ⟨(hB.block _ (Nat.lt_succ_self _)).trans H2.out, by rw [lowL_succ HX.out]; exact hR, HB2.out.trans (hB.mono (Nat.le_succ _))⟩⟩
      have HL := Aside0.mk (lowL_length s pos)
      have HM : Aside0 (w.heap.size + 1 ≤ (wr.iterAt w.heap.size s (pos + 1)).heap.size) := ⟨by rw [HS2.out]; exact HS1.out⟩
      have henc : Utf8.encode (x.toNat : Int) = ⟨#[x]⟩ := by
        have h1 := HX1.out
        have hv : Utf8.valid (x.toNat : Int) = true := by simp [Utf8.valid]; omega
        unfold Utf8.encode
        rw [if_pos hv]
        simp [h1]
      have HEN := Aside0.mk (show bytesOf ⟨#[x]⟩ = [(x.toNat : Int)] from rfl)
      by_cases hu : 65 ≤ (x.toNat : Int) ∧ (x.toNat : Int) ≤ 90
      · have c1 : decide (65 ≤ (x.toNat : Int)) = true := decide_eq_true hu.1
        have c2 : decide ((x.toNat : Int) ≤ 90) = true := decide_eq_true hu.2
        have HU : Aside0 (lowI x.toNat = wrap32 (wrap32 ((x.toNat : Int) - 65) + 97) % 256) := ⟨by unfold lowI wrap32; rw [if_pos hu]; omega⟩
        clear hu henc
        go_wp2_with (at_builtin; refine Kd.R_append (Kd.int .u8) (w0 := wr.iterAt w.heap.size s (pos + 1)) (w.heap.size + 1) rfl (.tmp 22) (.tmp 27) 29 5 (.int .u8 0) 1 rfl Try.underlying29 info5 rfl Nat.one_pos (by omega) u3 (lowL s pos) (wrap32 (wrap32 ((x.toNat : Int) - 65) + 97) % 256) [.int .u8 (wrap32 (wrap32 ((x.toNat : Int) - 65) + 97) % 256)] (fun k => w.heap.size + 1 ≤ k) (fun _ => False) rfl rfl rfl (fun _ h => h.elim) (fun k hk => Nat.le_trans HM.out hk) HO2.out (Below.refl _ _) HM.out (by have h1 := HL.out; have h2 := HN.out; omega) ?_; intro v1 w1 hR1 hB1 _ _; have HR1 := Aside0.mk hR1; have HB1 := Aside0.mk hB1; clear hR1 hB1)
        go_roundg (gk - 1)
        case measure => have h1 := HI.out; obtain ⟨h, _⟩ := HX.out; omega
        case rel =>
          obtain ⟨h1, h2, h3⟩ := HW.out v1 w1 (by rw [HU.out]; exact HR1.out) HB1.out
          exact ⟨pos + 1, ⟨h1⟩, ⟨by have h1 := HI.out; obtain ⟨h, _⟩ := HX.out; omega⟩, ⟨h2⟩, ⟨h3⟩⟩
      · have c3 : ((x.toNat : Int) == 304) = false := beq_eq_false_iff_ne.2 (by have h1 := HX1.out; omega)
        have c4 : ((x.toNat : Int) == 8490) = false := beq_eq_false_iff_ne.2 (by have h1 := HX1.out; omega)
        have HU : Aside0 (lowI x.toNat = (x.toNat : Int)) := ⟨by unfold lowI; rw [if_neg hu]⟩
        have hu2 : decide (65 ≤ (x.toNat : Int)) = false ∨ (decide (65 ≤ (x.toNat : Int)) = true ∧ decide ((x.toNat : Int) ≤ 90) = false) := by
          by_cases h : 65 ≤ (x.toNat : Int)
          · exact Or.inr ⟨decide_eq_true h, decide_eq_false (fun h2 => hu ⟨h, h2⟩)⟩
          · exact Or.inl (decide_eq_false h)
        clear hu
        rcases hu2 with c1 | ⟨c1, c2⟩
        all_goals
          go_wp2_with (at_builtin; refine print_append_str (w0 := wr.iterAt w.heap.size s (pos + 1)) (w.heap.size + 1) rfl (.tmp 11) (.tmp 13) 29 9 5 rfl Try.underlying29 Try.underlying9 info5 u3 (lowL s pos) ⟨#[x]⟩ rfl rfl (Kd.own_of_R HO2.out) (Below.refl _ _) HM.out (by have h1 := HL.out; have h2 := HN.out; show _ + 1 ≤ _; omega) ?_; intro v1 w1 hR1 hB1 _; have HR1 := Aside0.mk hR1; have HB1 := Aside0.mk hB1; clear hR1 hB1)
          go_roundg (gk - 1)
          case measure => have h1 := HI.out; obtain ⟨h, _⟩ := HX.out; omega
          case rel =>
            have hr := HR1.out
            rw [HEN.out] at hr
            obtain ⟨h1, h2, h3⟩ := HW.out v1 w1 (by rw [HU.out]; exact Kd.R_of_own hr (fun k hk => own_base hr k hk)) HB1.out
            exact ⟨pos + 1, ⟨h1⟩, ⟨by have h1 := HI.out; obtain ⟨h, _⟩ := HX.out; omega⟩, ⟨h2⟩, ⟨h3⟩⟩
    · have hnx := fun ty => Lib.run_next_end_at (P := Try.prog) wr w.heap.size s pos ty HT.out hlt
      have HY : Aside0 (lowL s pos = lowL s s.size) := ⟨by have h1 := HI.out; have h2 : pos = s.size := by omega
                                                           rw [← h2]⟩
      have hcv := own_string (P := Try.prog) Try.underlying29 Try.underlying5 Try.underlying9 (Kd.own_of_R HO.out)
      clear hlt
      go_wp2
      go_ret
      exact ⟨by rw [HY.out]; rfl, HB.out⟩

def hub : ByteArray := ⟨#[100, 111, 99, 107, 101, 114, 46, 105, 111]⟩
def lib : ByteArray := ⟨#[108, 105, 98, 114, 97, 114, 121, 47]⟩
/-- does the text begin with the official prefix? -/
def hasLib (s : ByteArray) : Bool := decide (8 ≤ s.size) && (s.extract 0 8).toList == [108, 105, 98, 114, 97, 114, 121, 47]
set_option maxHeartbeats 4000000 in
set_option maxRecDepth 100000 in
theorem hasPrefix22 (s : ByteArray) (w : World) : Calls Try.prog 22 #[.string s, .string ⟨#[108, 105, 98, 114, 97, 114, 121, 47]⟩] w fun e w' => e = .returned (.bool (hasLib s)) ∧ Below w.heap.size w w' := by
  by_cases h8 : 8 ≤ s.size
  · have c1 : decide (8 ≤ (s.size : Int)) = true := decide_eq_true (by omega)
    have c2 : (8 ≤ (s.size : Int)) = True := eq_true (by omega)
    have c3 : (8 ≤ s.size) = True := eq_true h8
    have HH : Aside0 (hasLib s = ((s.extract 0 8).toList == [108, 105, 98, 114, 97, 114, 121, 47])) := ⟨by unfold hasLib; rw [decide_eq_true h8, Bool.true_and]⟩
    clear h8
    go_enter Try.func22, Try.ntmps22
    go_wp2
    go_ret
    exact ⟨by rw [HH.out]; rfl, by first | exact Below.refl _ _ | exact bl_drew (Below.refl _ _)⟩
  · have c1 : decide (8 ≤ (s.size : Int)) = false := decide_eq_false (by omega)
    have HH : Aside0 (hasLib s = false) := ⟨by unfold hasLib; rw [decide_eq_false h8, Bool.false_and]⟩
    clear h8
    go_enter Try.func22, Try.ntmps22
    go_wp2
    go_ret
    exact ⟨by rw [HH.out]; rfl, by first | exact Below.refl _ _ | exact bl_drew (Below.refl _ _)⟩
end Go.Proofs.Ytgbmhkmhpmkadaa
