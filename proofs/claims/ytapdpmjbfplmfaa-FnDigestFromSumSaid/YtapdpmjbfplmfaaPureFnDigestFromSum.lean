/-
  A digest of any algorithm (up to 100 bytes) and the bytes of a sum (up to 500) is the algorithm, a colon, and two hexadecimal digits with small letters for each byte. No condition beyond the law's own.
-/
import Derived.Test.YtapdpmjbfplmfaaQDigestx2
namespace Go.Proofs.Ytapdpmjbfplmfaa.Pure
open Go.RowKit Go.Proofs.Ytapdpmjbfplmfaa.QDigest Go.Proofs.YtapdpmjbfplmfaaW.PrintWords Go.Proofs.YtapdpmjbfplmfaaW.PrintLast

theorem same (k : Nat) : ∀ x xs n i, spec_DigestHex.l0 k x xs n i = godigest_Algorithm_Encode.l0 k x xs n i := by
  induction k with
  | zero => intros; rfl
  | succ k ih =>
    intro x xs n i
    simp only [spec_DigestHex.l0, godigest_Algorithm_Encode.l0, ih]

theorem rd_mem (xs : List Int) (i : Int) (h0 : 0 ≤ i) (h1 : i < xs.length) : rd xs i ∈ xs := by
  unfold rd
  rw [List.getD_eq_getElem?_getD, List.getElem?_eq_getElem (show i.toNat < xs.length by omega), Option.getD_some]
  exact List.getElem_mem _

theorem tells (xs : List Int) (hb : ∀ x ∈ xs, 0 ≤ x ∧ x ≤ 255) (hn : xs.length ≤ 500) (d : Nat) : ∀ (k : Nat) (x : List Int) (i : Nat), i + d = xs.length → x.length = 2 * i → d < k →
    ∃ r, godigest_Algorithm_Encode.l0 k x xs xs.length i = some r ∧ r.size ≤ 1000 := by
  induction d with
  | zero =>
    intro k x i hi hx hk
    obtain ⟨k, rfl⟩ : ∃ m, k = m + 1 := ⟨k - 1, by omega⟩
    simp only [godigest_Algorithm_Encode.l0]
    rw [if_neg (by omega)]
    exact ⟨_, rfl, by simp [strOfNums, ByteArray.size]; omega⟩
  | succ d ih =>
    intro k x i hi hx hk
    obtain ⟨k, rfl⟩ : ∃ m, k = m + 1 := ⟨k - 1, by omega⟩
    have hm := hb _ (rd_mem xs i (by omega) (by omega))
    simp only [godigest_Algorithm_Encode.l0]
    rw [u8_and15 _ hm.1 (by omega)]
    rw [if_pos (by omega), if_pos (by omega), if_pos (by omega), if_pos (by omega), if_pos (by omega), if_pos (by omega), if_pos (by omega), Option.bind_some, if_pos (by simp; omega)]
    rw [show wrap64 ((i : Int) + 1) = ((i + 1 : Nat) : Int) from by unfold wrap64; omega]
    exact ih k _ (i + 1) (by omega) (by simp; omega) (by omega)

theorem FnDigestFromSum : laws_FnDigestFromSum.Pure := by
  intro a l ha hl _ hw
  have hb : ∀ x ∈ l, 0 ≤ x ∧ x ≤ 255 := by
    intro x hx
    simpa [Lit.wf, IntKind.min, IntKind.max, IntKind.signed, IntKind.bits] using hw x hx
  unfold laws_FnDigestFromSum.f
  by_cases h1 : (a.size : Int) > 2147483647
  · exact ⟨1, by rw [if_pos h1]; simp [laws_FnDigestFromSum.j0]⟩
  by_cases h2 : (l.length : Int) > 2147483647
  · exact ⟨1, by rw [if_neg h1, decide_eq_true h2]; simp [laws_FnDigestFromSum.j0]⟩
  by_cases h3 : (a.size : Int) > 100
  · exact ⟨1, by rw [if_neg h1, decide_eq_false h2]; simp only [laws_FnDigestFromSum.j0]; rw [if_neg (by simp), if_pos h3]⟩
  by_cases h4 : (l.length : Int) > 500
  · exact ⟨1, by rw [if_neg h1, decide_eq_false h2]; simp only [laws_FnDigestFromSum.j0]; rw [if_neg (by simp), if_neg h3, if_pos h4]⟩
  obtain ⟨r, hr, hs⟩ := tells l hb (by omega) l.length (l.length + 1) [] 0 (by omega) rfl (by omega)
  refine ⟨l.length + 1 + 1, ?_⟩
  rw [if_neg h1, decide_eq_false h2]
  simp only [laws_FnDigestFromSum.j0]
  have e1 : wrap64 (2 * (l.length : Int)) = 2 * (l.length : Int) := by unfold wrap64; omega
  have hh : spec_DigestHex.f (l.length + 1) l = some r := by
    unfold spec_DigestHex.f
    rw [e1, if_pos (by omega), if_pos (by omega), same]
    exact hr
  have hc : (a ++ (⟨#[58]⟩ : ByteArray)).size = a.size + 1 := by rw [ByteArray.size_append]; rfl
  have he : impl_DigestFromSum.f (l.length + 1) a l = some ((a ++ (⟨#[58]⟩ : ByteArray)) ++ r) := by
    unfold impl_DigestFromSum.f godigest_NewDigestFromBytes.f godigest_Algorithm_Encode.f
    rw [show ((0 : Int)) = ((0 : Nat) : Int) from rfl, hr]
    simp only [Option.bind_some]
    unfold godigest_NewDigestFromEncoded.f
    rw [if_pos (by omega), if_pos (by rw [hc]; omega)]
    rfl
  rw [if_neg (by simp), if_neg h3, if_neg h4, he, hh]
  simp only [Option.bind_some]
  rw [if_pos (by omega), if_pos (by rw [hc]; omega)]
  simp

end Go.Proofs.Ytapdpmjbfplmfaa.Pure
