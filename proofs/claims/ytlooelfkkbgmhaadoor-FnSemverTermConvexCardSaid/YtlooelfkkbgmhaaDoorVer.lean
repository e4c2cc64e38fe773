/-
  Two versions compared, as plain numbers and lists: what the code's comparison says of a version and itself, and of terms.
-/
import Derived.Test.YtlooelfkkbgmhaaDoorEvs
import Derived.Test.YtlooelfkkbgmhaaDoorConMost
namespace Go.Proofs.YtlooelfkkbgmhaaDoor
open Go Txt Go.RowKit QS Go.Proofs.YtlooelfkkbgmhaaDoorW.PrintWords Go.Proofs.YtlooelfkkbgmhaaDoorW.PrintLast

theorem segF_self (a : Int) : segF a a = 0 := by unfold segF; rw [if_neg (by omega), if_neg (by omega)]
theorem partF_self (a : List UInt8) : partF a a = 0 := by unfold partF; rw [if_pos rfl]
theorem preS_self (L : List (List UInt8)) : preS L L = 0 := by
  induction L with
  | nil => unfold preS; rfl
  | cons a x ih => unfold preS; rw [if_pos (partF_self a), ih]
theorem cmpF_self (a b c : Int) (s : ByteArray) : cmpF a b c a b c s s (preS (split s.toList) (split s.toList)) = 0 := by
  unfold cmpF
  rw [segF_self, segF_self, segF_self, preS_self]
  by_cases h : s.toList = [] <;> simp [h]

end Go.Proofs.YtlooelfkkbgmhaaDoor
