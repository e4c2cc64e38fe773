/-
  What a reference made of its parts can tell: the contract of impl.RefTells, in the print's form (function 16), for parts whose domain is empty where the path is.
-/
import Derived.Test.YtapdpmjbfplmfaaRows
import Derived.WalkKit
import Derived.ProofKit
import Derived.OpenShut
import Derived.Lib.Hide
import Derived.Stop.Asserts
import Derived.Laws.Strings
namespace Go.Proofs.Ytapdpmjbfplmfaa
open Go.ChangeShapes Go.WideShapes Go.ChangeAt Go.RowKit

theorem name_of (d p : ByteArray) (w : World) : (method 215 85 (Value.agg #[Value.string d, Value.string p]) "Name").run Try.prog w = .ok (69, Value.agg #[Value.string d, Value.string p]) w := by kernel_rfl
theorem joined_not_empty (d p : ByteArray) : (d ++ (⟨#[47]⟩ : ByteArray) ++ p).toList.isEmpty = false := by
  have : (d ++ (⟨#[47]⟩ : ByteArray) ++ p).toList ≠ [] := by
    intro h
    have h2 : (d ++ (⟨#[47]⟩ : ByteArray) ++ p).size = 0 := by
      have := congrArg List.length h
      rw [ByteArray.toList_eq] at this
      simp at this
    rw [ByteArray.size_append, ByteArray.size_append] at h2
    have h3 : (⟨#[47]⟩ : ByteArray).size = 1 := rfl
    omega
  simpa using this
theorem as_85_61 (v : Value) (w : World) : (Instr.typeAssert (.iface 85 v) 58 61 true).run Try.prog w = .ok (.tuple #[.iface 85 v, .bool true]) w := run_typeAssert_hasB Try.underlying61 (by kernel_rfl) v 58 w
theorem as_85_64 (v : Value) (w : World) : (Instr.typeAssert (.iface 85 v) 58 64 true).run Try.prog w = .ok (.tuple #[.nilIface, .bool false]) w := run_typeAssert_lacksB Try.underlying64 (by kernel_rfl) (by kernel_rfl) v 58 w
theorem as_85_67 (v : Value) (w : World) : (Instr.typeAssert (.iface 85 v) 58 67 true).run Try.prog w = .ok (.tuple #[.nilIface, .bool false]) w := run_typeAssert_lacksB Try.underlying67 (by kernel_rfl) (by kernel_rfl) v 58 w
theorem as_89_61 (v : Value) (w : World) : (Instr.typeAssert (.iface 89 v) 58 61 true).run Try.prog w = .ok (.tuple #[.iface 89 v, .bool true]) w := run_typeAssert_hasB Try.underlying61 (by kernel_rfl) v 58 w
theorem as_89_64 (v : Value) (w : World) : (Instr.typeAssert (.iface 89 v) 58 64 true).run Try.prog w = .ok (.tuple #[.iface 89 v, .bool true]) w := run_typeAssert_hasB Try.underlying64 (by kernel_rfl) v 58 w
theorem as_89_67 (v : Value) (w : World) : (Instr.typeAssert (.iface 89 v) 58 67 true).run Try.prog w = .ok (.tuple #[.iface 89 v, .bool true]) w := run_typeAssert_hasB Try.underlying67 (by kernel_rfl) v 58 w
theorem as_93_61 (v : Value) (w : World) : (Instr.typeAssert (.iface 93 v) 58 61 true).run Try.prog w = .ok (.tuple #[.nilIface, .bool false]) w := run_typeAssert_lacksB Try.underlying61 (by kernel_rfl) (by kernel_rfl) v 58 w
theorem as_93_64 (v : Value) (w : World) : (Instr.typeAssert (.iface 93 v) 58 64 true).run Try.prog w = .ok (.tuple #[.nilIface, .bool false]) w := run_typeAssert_lacksB Try.underlying64 (by kernel_rfl) (by kernel_rfl) v 58 w
theorem as_93_67 (v : Value) (w : World) : (Instr.typeAssert (.iface 93 v) 58 67 true).run Try.prog w = .ok (.tuple #[.iface 93 v, .bool true]) w := run_typeAssert_hasB Try.underlying67 (by kernel_rfl) v 58 w
theorem as_95_61 (v : Value) (w : World) : (Instr.typeAssert (.iface 95 v) 58 61 true).run Try.prog w = .ok (.tuple #[.iface 95 v, .bool true]) w := run_typeAssert_hasB Try.underlying61 (by kernel_rfl) v 58 w
theorem as_95_64 (v : Value) (w : World) : (Instr.typeAssert (.iface 95 v) 58 64 true).run Try.prog w = .ok (.tuple #[.nilIface, .bool false]) w := run_typeAssert_lacksB Try.underlying64 (by kernel_rfl) (by kernel_rfl) v 58 w
theorem as_95_67 (v : Value) (w : World) : (Instr.typeAssert (.iface 95 v) 58 67 true).run Try.prog w = .ok (.tuple #[.iface 95 v, .bool true]) w := run_typeAssert_hasB Try.underlying67 (by kernel_rfl) v 58 w
theorem as_97_61 (v : Value) (w : World) : (Instr.typeAssert (.iface 97 v) 58 61 true).run Try.prog w = .ok (.tuple #[.iface 97 v, .bool true]) w := run_typeAssert_hasB Try.underlying61 (by kernel_rfl) v 58 w
theorem as_97_64 (v : Value) (w : World) : (Instr.typeAssert (.iface 97 v) 58 64 true).run Try.prog w = .ok (.tuple #[.iface 97 v, .bool true]) w := run_typeAssert_hasB Try.underlying64 (by kernel_rfl) v 58 w
theorem as_97_67 (v : Value) (w : World) : (Instr.typeAssert (.iface 97 v) 58 67 true).run Try.prog w = .ok (.tuple #[.nilIface, .bool false]) w := run_typeAssert_lacksB Try.underlying67 (by kernel_rfl) (by kernel_rfl) v 58 w
theorem as_nil_61 (w : World) : (Instr.typeAssert .nilIface 58 61 true).run Try.prog w = .ok (.tuple #[.nilIface, .bool false]) w := by kernel_rfl
theorem as_nil_64 (w : World) : (Instr.typeAssert .nilIface 58 64 true).run Try.prog w = .ok (.tuple #[.nilIface, .bool false]) w := by kernel_rfl
theorem as_nil_67 (w : World) : (Instr.typeAssert .nilIface 58 67 true).run Try.prog w = .ok (.tuple #[.nilIface, .bool false]) w := by kernel_rfl
set_option maxHeartbeats 1000000 in
set_option maxRecDepth 100000 in
theorem tells_none (d p t g : ByteArray) (hd : d.toList = []) (hp : p.toList = []) (hg : g.toList = []) (w : World) :
    Calls Try.prog 16 #[.agg #[.string d, .string p, .string t, .string g]] w fun e w' => e = .returned (.int .i64 0) ∧ Below w.heap.size w w' := by
  have hm := name_of d p
  have a61 := as_nil_61
  have a64 := as_nil_64
  have a67 := as_nil_67
  go_enter Try.func16, Try.ntmps16
  go_wp2
  go_ret
  exact ⟨rfl, by repeat (first | exact Below.refl _ _ | refine Below.alloc ?_ (by simp; try omega) _)⟩
set_option maxHeartbeats 1000000 in
set_option maxRecDepth 100000 in
theorem tells_dig (d p t g : ByteArray) (hd : d.toList = []) (hp : p.toList = []) (hg : g.toList.isEmpty = false) (w : World) :
    Calls Try.prog 16 #[.agg #[.string d, .string p, .string t, .string g]] w fun e w' => e = .returned (.int .i64 4) ∧ Below w.heap.size w w' := by
  have hm := name_of d p
  have a61 := as_93_61
  have a64 := as_93_64
  have a67 := as_93_67
  go_enter Try.func16, Try.ntmps16
  go_wp2
  go_ret
  exact ⟨rfl, by repeat (first | exact Below.refl _ _ | refine Below.alloc ?_ (by simp; try omega) _)⟩
set_option maxHeartbeats 1000000 in
set_option maxRecDepth 100000 in
theorem tells_111 (d p t g : ByteArray) (hd : d.toList = []) (hp : p.toList.isEmpty = false) (ht : t.toList = []) (hg : g.toList = []) (w : World) :
    Calls Try.prog 16 #[.agg #[.string d, .string p, .string t, .string g]] w fun e w' => e = .returned (.int .i64 1) ∧ Below w.heap.size w w' := by
  have hm := name_of d p
  have a61 := as_85_61
  have a64 := as_85_64
  have a67 := as_85_67
  go_enter Try.func16, Try.ntmps16
  go_wp2
  go_ret
  exact ⟨rfl, by repeat (first | exact Below.refl _ _ | refine Below.alloc ?_ (by simp; try omega) _)⟩
set_option maxHeartbeats 1000000 in
set_option maxRecDepth 100000 in
theorem tells_110 (d p t g : ByteArray) (hd : d.toList = []) (hp : p.toList.isEmpty = false) (ht : t.toList = []) (hg : g.toList.isEmpty = false) (w : World) :
    Calls Try.prog 16 #[.agg #[.string d, .string p, .string t, .string g]] w fun e w' => e = .returned (.int .i64 5) ∧ Below w.heap.size w w' := by
  have hm := name_of d p
  have a61 := as_95_61
  have a64 := as_95_64
  have a67 := as_95_67
  go_enter Try.func16, Try.ntmps16
  go_wp2
  go_ret
  exact ⟨rfl, by repeat (first | exact Below.refl _ _ | refine Below.alloc ?_ (by simp; try omega) _)⟩
set_option maxHeartbeats 1000000 in
set_option maxRecDepth 100000 in
theorem tells_101 (d p t g : ByteArray) (hd : d.toList = []) (hp : p.toList.isEmpty = false) (ht : t.toList.isEmpty = false) (hg : g.toList = []) (w : World) :
    Calls Try.prog 16 #[.agg #[.string d, .string p, .string t, .string g]] w fun e w' => e = .returned (.int .i64 3) ∧ Below w.heap.size w w' := by
  have hm := name_of d p
  have a61 := as_97_61
  have a64 := as_97_64
  have a67 := as_97_67
  go_enter Try.func16, Try.ntmps16
  go_wp2
  go_ret
  exact ⟨rfl, by repeat (first | exact Below.refl _ _ | refine Below.alloc ?_ (by simp; try omega) _)⟩
set_option maxHeartbeats 1000000 in
set_option maxRecDepth 100000 in
theorem tells_100 (d p t g : ByteArray) (hd : d.toList = []) (hp : p.toList.isEmpty = false) (ht : t.toList.isEmpty = false) (hg : g.toList.isEmpty = false) (w : World) :
    Calls Try.prog 16 #[.agg #[.string d, .string p, .string t, .string g]] w fun e w' => e = .returned (.int .i64 7) ∧ Below w.heap.size w w' := by
  have hm := name_of d p
  have a61 := as_89_61
  have a64 := as_89_64
  have a67 := as_89_67
  go_enter Try.func16, Try.ntmps16
  go_wp2
  go_ret
  exact ⟨rfl, by repeat (first | exact Below.refl _ _ | refine Below.alloc ?_ (by simp; try omega) _)⟩
set_option maxHeartbeats 1000000 in
set_option maxRecDepth 100000 in
theorem tells_011 (d p t g : ByteArray) (hd : d.toList.isEmpty = false) (ht : t.toList = []) (hg : g.toList = []) (hz : d.size + p.size ≤ 65536) (w : World) :
    Calls Try.prog 16 #[.agg #[.string d, .string p, .string t, .string g]] w fun e w' => e = .returned (.int .i64 1) ∧ Below w.heap.size w w' := by
  have hj := joined_not_empty d p
  have hm := name_of d p
  have a61 := as_85_61
  have a64 := as_85_64
  have a67 := as_85_67
  go_enter Try.func16, Try.ntmps16
  go_wp2
  go_ret
  exact ⟨rfl, by repeat (first | exact Below.refl _ _ | refine Below.alloc ?_ (by simp; try omega) _)⟩
set_option maxHeartbeats 1000000 in
set_option maxRecDepth 100000 in
theorem tells_010 (d p t g : ByteArray) (hd : d.toList.isEmpty = false) (ht : t.toList = []) (hg : g.toList.isEmpty = false) (hz : d.size + p.size ≤ 65536) (w : World) :
    Calls Try.prog 16 #[.agg #[.string d, .string p, .string t, .string g]] w fun e w' => e = .returned (.int .i64 5) ∧ Below w.heap.size w w' := by
  have hj := joined_not_empty d p
  have hm := name_of d p
  have a61 := as_95_61
  have a64 := as_95_64
  have a67 := as_95_67
  go_enter Try.func16, Try.ntmps16
  go_wp2
  go_ret
  exact ⟨rfl, by repeat (first | exact Below.refl _ _ | refine Below.alloc ?_ (by simp; try omega) _)⟩
set_option maxHeartbeats 1000000 in
set_option maxRecDepth 100000 in
theorem tells_001 (d p t g : ByteArray) (hd : d.toList.isEmpty = false) (ht : t.toList.isEmpty = false) (hg : g.toList = []) (hz : d.size + p.size ≤ 65536) (w : World) :
    Calls Try.prog 16 #[.agg #[.string d, .string p, .string t, .string g]] w fun e w' => e = .returned (.int .i64 3) ∧ Below w.heap.size w w' := by
  have hj := joined_not_empty d p
  have hm := name_of d p
  have a61 := as_97_61
  have a64 := as_97_64
  have a67 := as_97_67
  go_enter Try.func16, Try.ntmps16
  go_wp2
  go_ret
  exact ⟨rfl, by repeat (first | exact Below.refl _ _ | refine Below.alloc ?_ (by simp; try omega) _)⟩
set_option maxHeartbeats 1000000 in
set_option maxRecDepth 100000 in
theorem tells_000 (d p t g : ByteArray) (hd : d.toList.isEmpty = false) (ht : t.toList.isEmpty = false) (hg : g.toList.isEmpty = false) (hz : d.size + p.size ≤ 65536) (w : World) :
    Calls Try.prog 16 #[.agg #[.string d, .string p, .string t, .string g]] w fun e w' => e = .returned (.int .i64 7) ∧ Below w.heap.size w w' := by
  have hj := joined_not_empty d p
  have hm := name_of d p
  have a61 := as_89_61
  have a64 := as_89_64
  have a67 := as_89_67
  go_enter Try.func16, Try.ntmps16
  go_wp2
  go_ret
  exact ⟨rfl, by repeat (first | exact Below.refl _ _ | refine Below.alloc ?_ (by simp; try omega) _)⟩

/-- what can be told, of parts whose domain is empty where the path is, and that are short; nothing is said of other parts -/
def impl_RefTells.f (a0_0 a0_1 a0_2 a0_3 : ByteArray) : Option Int :=
  if a0_0.size + a0_1.size ≤ 65536 then
    if a0_1.toList.isEmpty then (if a0_0.toList.isEmpty then some (if a0_3.toList.isEmpty then 0 else 4) else none)
    else some (1 + (if a0_2.toList.isEmpty then 0 else 2) + (if a0_3.toList.isEmpty then 0 else 4))
  else none

theorem empty_or (s : ByteArray) : s.toList.isEmpty = true ∧ s.toList = [] ∨ s.toList.isEmpty = false := by
  cases h : s.toList with
  | nil => exact .inl ⟨rfl, rfl⟩
  | cons a l => exact .inr rfl

theorem impl_RefTells.calls (a0_0 a0_1 a0_2 a0_3 : ByteArray) (r : Int) (w : World) (h : impl_RefTells.f a0_0 a0_1 a0_2 a0_3 = some r) :
    Calls Try.prog 16 #[.agg #[.string a0_0, .string a0_1, .string a0_2, .string a0_3]] w fun e w' => e = .returned (.int .i64 r) ∧ Below w.heap.size w w' := by
  unfold impl_RefTells.f at h
  by_cases hz : a0_0.size + a0_1.size ≤ 65536
  · rw [if_pos hz] at h
    rcases empty_or a0_1 with ⟨h1, e1⟩ | h1
    · rw [h1, if_pos rfl] at h
      rcases empty_or a0_0 with ⟨h0, e0⟩ | h0
      · rw [h0, if_pos rfl] at h
        rcases empty_or a0_3 with ⟨h3, e3⟩ | h3
        · rw [h3] at h; obtain rfl := Option.some.inj h; exact tells_none _ _ _ _ e0 e1 e3 w
        · rw [h3] at h; obtain rfl := Option.some.inj h; exact tells_dig _ _ _ _ e0 e1 h3 w
      · rw [h0] at h; simp at h
    · rw [h1, if_neg (by simp)] at h
      rcases empty_or a0_0 with ⟨h0, e0⟩ | h0 <;> rcases empty_or a0_2 with ⟨h2, e2⟩ | h2 <;> rcases empty_or a0_3 with ⟨h3, e3⟩ | h3 <;> rw [h2, h3] at h <;> obtain rfl := Option.some.inj h
      · exact tells_111 _ _ _ _ e0 h1 e2 e3 w
      · exact tells_110 _ _ _ _ e0 h1 e2 h3 w
      · exact tells_101 _ _ _ _ e0 h1 h2 e3 w
      · exact tells_100 _ _ _ _ e0 h1 h2 h3 w
      · exact tells_011 _ _ _ _ h0 e2 e3 hz w
      · exact tells_010 _ _ _ _ h0 e2 h3 hz w
      · exact tells_001 _ _ _ _ h0 h2 e3 hz w
      · exact tells_000 _ _ _ _ h0 h2 h3 hz w
  · rw [if_neg hz] at h; simp at h
end Go.Proofs.Ytapdpmjbfplmfaa
