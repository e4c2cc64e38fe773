/-
  A run of increments, as a plain recursion: what it adds up to, and what laws.svRun gives.
-/
import Derived.Test.YtlooelfkkbgmhaaDoorEvs
import Derived.Test.YtlooelfkkbgmhaaDoorQlawsFnSemverIncRunD
set_option linter.unusedVariables false
set_option linter.unusedSimpArgs false
namespace Go.Proofs.YtlooelfkkbgmhaaDoor
open Go Txt Go.RowKit QS Go.Proofs.YtlooelfkkbgmhaaDoorW.PrintWords Go.Proofs.YtlooelfkkbgmhaaDoorW.PrintLast

def incS (v : S24) (s : Int) : S24 :=
  if s = 0 then ⟨v.f0, v.f1, if v.f3.toList = [] then v.f2 + 1 else v.f2, ⟨#[]⟩, ⟨#[]⟩⟩ else if s = 1 then ⟨v.f0, v.f1 + 1, 0, ⟨#[]⟩, ⟨#[]⟩⟩ else ⟨v.f0 + 1, 0, 0, ⟨#[]⟩, ⟨#[]⟩⟩
/-- the version after i steps -/
def stp (v : S24) (l : List Int) : Nat → S24
  | 0 => v
  | i + 1 => incS (stp v l i) (l.getD i 0)
theorem incS_pre (v : S24) (s : Int) : (incS v s).f3 = ⟨#[]⟩ := by unfold incS; split; rfl; split <;> rfl
theorem incS_meta (v : S24) (s : Int) : (incS v s).f4 = ⟨#[]⟩ := by unfold incS; split; rfl; split <;> rfl
theorem stp_bound (v : S24) (l : List Int) (B : Int) (h0 : 0 ≤ v.f0 ∧ v.f0 ≤ B) (h1 : 0 ≤ v.f1 ∧ v.f1 ≤ B) (h2 : 0 ≤ v.f2 ∧ v.f2 ≤ B) :
    ∀ i : Nat, (0 ≤ (stp v l i).f0 ∧ (stp v l i).f0 ≤ B + i) ∧ (0 ≤ (stp v l i).f1 ∧ (stp v l i).f1 ≤ B + i) ∧ (0 ≤ (stp v l i).f2 ∧ (stp v l i).f2 ≤ B + i)
  | 0 => by simp only [stp]; omega
  | i + 1 => by
    have h := stp_bound v l B h0 h1 h2 i
    simp only [stp]
    unfold incS
    repeat' split
    all_goals simp only
    all_goals omega
/-- one version below another: by the numbers, or by the prerelease of the first alone -/
def below (v x : S24) : Prop := v.f0 < x.f0 ∨ (v.f0 = x.f0 ∧ (v.f1 < x.f1 ∨ (v.f1 = x.f1 ∧ (v.f2 < x.f2 ∨ (v.f2 = x.f2 ∧ v.f3.toList ≠ [] ∧ x.f3.toList = [])))))
theorem below_inc (v : S24) (s : Int) : below v (incS v s) := by
  unfold below incS
  have e : (⟨#[]⟩ : ByteArray).toList = [] := empty_list
  repeat' split
  all_goals simp only [e]
  all_goals first | omega | (simp_all; done) | (simp_all; omega) | grind
theorem below_next (v x : S24) (s : Int) (hx : x.f3.toList = []) (h : below v x) : below v (incS x s) := by
  unfold below incS at *
  have e : (⟨#[]⟩ : ByteArray).toList = [] := empty_list
  rw [if_pos hx]
  repeat' split
  all_goals simp only [e]
  all_goals grind
theorem stp_pre (v : S24) (l : List Int) (i : Nat) : (stp v l (i + 1)).f3.toList = [] := by
  simp only [stp]; rw [incS_pre]; exact empty_list
theorem below_stp (v : S24) (l : List Int) : ∀ i : Nat, below v (stp v l (i + 1))
  | 0 => by simp only [stp]; exact below_inc _ _
  | i + 1 => by
    have h := below_next v (stp v l (i + 1)) (l.getD (i + 1) 0) (stp_pre v l i) (below_stp v l i)
    exact h
theorem cmp_below (v x : S24) (r : Int) (h : below v x) : cmpF v.f0 v.f1 v.f2 x.f0 x.f1 x.f2 v.f3 x.f3 r = -1 := by
  unfold below at h
  unfold cmpF segF
  rcases h with h | ⟨h, h' | ⟨h', h'' | ⟨h'', h3, h4⟩⟩⟩
  · simp [h]
  · rw [h]; simp [h']
  · rw [h, h']; simp [h'']
  · rw [h, h', h'']; simp [h3, h4]
theorem ev_less (v x : S24) (h : below v x) (hv : v.f3.size ≤ 2147483647) (hx : x.f3.size ≤ 2147483647) : Ev (fun k => impl_VersionLess.f k v.f0 v.f1 v.f2 v.f3 v.f4 x.f0 x.f1 x.f2 x.f3 x.f4) true := by
  unfold impl_VersionLess.f
  refine Ev.bind (ev_cmpPre v.f3 x.f3 hv hx) ?_
  rw [cmp_below v x _ h]
  exact Ev.now _
/-- the list of a run -/
def runL (v : S24) (l : List Int) (n : Nat) : List S24 := (List.range (n + 1)).map (stp v l)
theorem runL_succ (v : S24) (l : List Int) (n : Nat) : runL v l (n + 1) = runL v l n ++ [stp v l (n + 1)] := by
  unfold runL; rw [List.range_succ (n := n + 1)]; simp
theorem runL_length (v : S24) (l : List Int) (n : Nat) : (runL v l n).length = n + 1 := by unfold runL; simp
theorem runL_rd (v : S24) (l : List Int) (n i : Nat) (h : i ≤ n) : rd_T24 (runL v l n) (i : Int) = stp v l i := by
  unfold rd_T24 runL
  rw [List.getD_eq_getElem?_getD, Int.toNat_natCast, List.getElem?_map, List.getElem?_range (by omega)]
  rfl
theorem svRun_loop (v : S24) (l : List Int) (hl : l.length ≤ 64) (h0 : 0 ≤ v.f0 ∧ v.f0 ≤ 9223372036854775807) (h1 : 0 ≤ v.f1 ∧ v.f1 ≤ 9223372036854775807) (h2 : 0 ≤ v.f2 ∧ v.f2 ≤ 9223372036854775807) (d : Nat) :
    ∀ i : Nat, i + d = l.length → Ev (fun k => laws_svRun.l0 k (runL v l i) l (l.length : Int) (i : Int) (stp v l i).f0 (stp v l i).f1 (stp v l i).f2 (stp v l i).f3 (stp v l i).f4) (runL v l l.length) := by
  induction d with
  | zero =>
    intro i hi
    obtain rfl : i = l.length := by omega
    refine Ev.succ'' ?_
    simp only [laws_svRun.l0]
    exact Ev.congr (fun k => if_neg (by omega)) (Ev.now _)
  | succ d ih =>
    intro i hi
    have hlt : i < l.length := by omega
    have hb := stp_bound v l 9223372036854775807 h0 h1 h2 i
    have hn := ih (i + 1) (by omega)
    rw [runL_succ] at hn
    have hw : wrap64 ((i : Int) + 1) = ((i + 1 : Nat) : Int) := wr_succ i l.length hlt (by omega)
    have hr : rd l (i : Int) = l.getD i 0 := by unfold rd; rw [Int.toNat_natCast]
    have hlen : (runL v l i).length < 2513169434916 := by rw [runL_length]; omega
    refine Ev.succ'' ?_
    simp only [laws_svRun.l0]
    rw [hw, hr]
    refine Ev.congr (fun k => by rw [if_pos (by omega), if_pos (by omega), if_pos (by omega)]) ?_
    simp only [stp] at hn
    unfold incS at hn
    by_cases s0 : l.getD i 0 = 0
    · refine Ev.congr (fun k => if_pos s0) ?_
      rw [if_pos s0] at hn
      unfold impl_VersionIncPatch.f
      rw [if_pos (by omega)]; simp only [Option.bind_some]
      exact Ev.congr (fun k => if_pos hlen) hn
    · refine Ev.congr (fun k => if_neg s0) ?_
      rw [if_neg s0] at hn
      by_cases s1 : l.getD i 0 = 1
      · refine Ev.congr (fun k => if_pos s1) ?_
        rw [if_pos s1] at hn
        unfold impl_VersionIncMinor.f
        rw [if_pos (by omega)]; simp only [Option.bind_some]
        exact Ev.congr (fun k => if_pos hlen) hn
      · refine Ev.congr (fun k => if_neg s1) ?_
        rw [if_neg s1] at hn
        unfold impl_VersionIncMajor.f
        rw [if_pos (by omega)]; simp only [Option.bind_some]
        exact Ev.congr (fun k => if_pos hlen) hn
theorem ev_svRun (v : S24) (l : List Int) (hl : l.length ≤ 64) (h0 : 0 ≤ v.f0 ∧ v.f0 ≤ 9223372036854775807) (h1 : 0 ≤ v.f1 ∧ v.f1 ≤ 9223372036854775807) (h2 : 0 ≤ v.f2 ∧ v.f2 ≤ 9223372036854775807) :
    Ev (fun k => laws_svRun.f k v.f0 v.f1 v.f2 v.f3 v.f4 l) (runL v l l.length) := by
  have h := svRun_loop v l hl h0 h1 h2 l.length 0 (by omega)
  exact h
end Go.Proofs.YtlooelfkkbgmhaaDoor
