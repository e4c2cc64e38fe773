/-
  What the functions of one constraint find in memory: a version, the constraint's version, and the constraint; and how they leave it.
-/
import Derived.Test.YtlooelfkkbgmhaaDoorCmp
import Derived.Deep.RegionWith
set_option linter.unusedVariables false
set_option linter.unusedSimpArgs false
namespace Go.Proofs.YtlooelfkkbgmhaaDoor
open Go Go.RowKit

/-- six cells of a constraint whose version lies at q -/
def IsCon (w : World) (z q : Nat) (g f : ByteArray) (md dd pd : Bool) : Prop :=
  w.cell? ⟨z, 0, none⟩ = some (.pointer (some ⟨q, 0, none⟩)) ∧ w.cell? ⟨z, 1, none⟩ = some (.string g) ∧ w.cell? ⟨z, 2, none⟩ = some (.string f) ∧ w.cell? ⟨z, 3, none⟩ = some (.bool md) ∧ w.cell? ⟨z, 4, none⟩ = some (.bool dd) ∧ w.cell? ⟨z, 5, none⟩ = some (.bool pd)

theorem IsCon.below {w w' : World} {z q : Nat} {g f : ByteArray} {md dd pd : Bool} (h : IsCon w z q g f md dd pd) (hb : Below w.heap.size w w') : IsCon w' z q g f md dd pd := by
  obtain ⟨h0, h1, h2, h3, h4, h5⟩ := h
  exact ⟨cell_below h0 hb, cell_below h1 hb, cell_below h2 hb, cell_below h3 hb, cell_below h4 hb, cell_below h5 hb⟩

/-- all three, in a world that came out of w -/
structure Tri (w : World) (p q z : Nat) (a b c a' b' c' : Int) (s m o s' m' o' g f : ByteArray) (md dd pd : Bool) (W : World) : Prop where
  v : IsVer W p a b c s m o
  u : IsVer W q a' b' c' s' m' o'
  z : IsCon W z q g f md dd pd
  pb : Blk W p
  qb : Blk W q
  E : GlobE W
  bel : Below w.heap.size w W

theorem kblk_below {w w' : World} {p : Nat} (h : Blk w p) (hb : Below w.heap.size w w') : Blk w' p := by
  obtain ⟨ca, ta, h⟩ := h
  have hlt : p < w.heap.size := (Array.getElem?_eq_some_iff.1 h).1
  exact ⟨ca, ta, (hb.block p hlt).trans h⟩

theorem Tri.on {w W W' : World} {p q z : Nat} {a b c a' b' c' : Int} {s m o s' m' o' g f : ByteArray} {md dd pd : Bool} (h : Tri w p q z a b c a' b' c' s m o s' m' o' g f md dd pd W) (hb : Below W.heap.size W W') : Tri w p q z a b c a' b' c' s m o s' m' o' g f md dd pd W' :=
  ⟨h.v.below hb, h.u.below hb, h.z.below hb, kblk_below h.pb hb, kblk_below h.qb hb, globE_below h.E hb, bl_on h.bel hb⟩

theorem new_any (s : ByteArray) (w : World) : Calls Tryd.prog 139 #[.string s] w fun e w' => (∃ x, e = .returned x) ∧ Below w.heap.size w w' := by
  go_enter Tryd.func139, Tryd.ntmps139
  go_wp2
  go_ret
  exact ⟨⟨_, rfl⟩, by repeat (first | exact Below.refl _ _ | apply bl_drew | apply bl_alloc)⟩

/-- a function of a constraint says so, and changes nothing -/
def Says (w : World) (r : Bool) (e : Ending) (w' : World) : Prop := (∃ x, e = .returned (.tuple #[.bool r, x])) ∧ Below w.heap.size w w'

abbrev All (w : World) (p q z : Nat) (a b c a' b' c' : Int) (s m o s' m' o' g f : ByteArray) (md dd pd : Bool) (W : World) : Prop := W.cell? ⟨p, 0, none⟩ = some (.int .u64 a) ∧ W.cell? ⟨p, 1, none⟩ = some (.int .u64 b) ∧ W.cell? ⟨p, 2, none⟩ = some (.int .u64 c) ∧ W.cell? ⟨p, 3, none⟩ = some (.string s) ∧ W.cell? ⟨p, 4, none⟩ = some (.string m) ∧ W.cell? ⟨p, 5, none⟩ = some (.string o) ∧ W.cell? ⟨q, 0, none⟩ = some (.int .u64 a') ∧ W.cell? ⟨q, 1, none⟩ = some (.int .u64 b') ∧ W.cell? ⟨q, 2, none⟩ = some (.int .u64 c') ∧ W.cell? ⟨q, 3, none⟩ = some (.string s') ∧ W.cell? ⟨q, 4, none⟩ = some (.string m') ∧ W.cell? ⟨q, 5, none⟩ = some (.string o') ∧ W.cell? ⟨z, 0, none⟩ = some (.pointer (some ⟨q, 0, none⟩)) ∧ W.cell? ⟨z, 1, none⟩ = some (.string g) ∧ W.cell? ⟨z, 2, none⟩ = some (.string f) ∧ W.cell? ⟨z, 3, none⟩ = some (.bool md) ∧ W.cell? ⟨z, 4, none⟩ = some (.bool dd) ∧ W.cell? ⟨z, 5, none⟩ = some (.bool pd) ∧ Hid (Tri w p q z a b c a' b' c' s m o s' m' o' g f md dd pd W)
theorem all_of {w : World} {p q z : Nat} {a b c a' b' c' : Int} {s m o s' m' o' g f : ByteArray} {md dd pd : Bool} {W : World} (h : Tri w p q z a b c a' b' c' s m o s' m' o' g f md dd pd W) : All w p q z a b c a' b' c' s m o s' m' o' g f md dd pd W := by
  obtain ⟨h0, h1, h2, h3, h4, h5⟩ := h.v
  obtain ⟨k0, k1, k2, k3, k4, k5⟩ := h.u
  obtain ⟨j0, j1, j2, j3, j4, j5⟩ := h.z
  exact ⟨h0, h1, h2, h3, h4, h5, k0, k1, k2, k3, k4, k5, j0, j1, j2, j3, j4, j5, Lib.hid h⟩
theorem all_on {w : World} {p q z : Nat} {a b c a' b' c' : Int} {s m o s' m' o' g f : ByteArray} {md dd pd : Bool} {W W' : World} (hb : Below W.heap.size W W') (h : All w p q z a b c a' b' c' s m o s' m' o' g f md dd pd W) : All w p q z a b c a' b' c' s m o s' m' o' g f md dd pd W' :=
  all_of (h.2.2.2.2.2.2.2.2.2.2.2.2.2.2.2.2.2.2.out.on hb)
theorem all_tri {w : World} {p q z : Nat} {a b c a' b' c' : Int} {s m o s' m' o' g f : ByteArray} {md dd pd : Bool} {W : World} (h : All w p q z a b c a' b' c' s m o s' m' o' g f md dd pd W) : Tri w p q z a b c a' b' c' s m o s' m' o' g f md dd pd W := h.2.2.2.2.2.2.2.2.2.2.2.2.2.2.2.2.2.2.out

theorem says_of {w : World} {r r' : Bool} {x : Value} {e : Ending} {w' : World} (hr : r' = r) (he : e = .returned (.tuple #[.bool r, x])) (hb : Below w.heap.size w w') : Says w r' e w' := by
  subst hr
  exact ⟨⟨x, he⟩, hb⟩
def gate (s : ByteArray) (pre : Bool) : Bool := !s.toList.isEmpty && !pre
theorem bool_two (x : Bool) : x = false ∨ x = true := by cases x <;> simp
/-- the texts of the operators -/
def opS (op : Int) : ByteArray := if op = 0 then ⟨#[61]⟩ else if op = 1 then ⟨#[33, 61]⟩ else if op = 2 then ⟨#[62]⟩ else if op = 3 then ⟨#[60]⟩ else if op = 4 then ⟨#[62, 61]⟩ else if op = 5 then ⟨#[60, 61]⟩ else if op = 6 then ⟨#[126]⟩ else ⟨#[94]⟩

theorem operator_some (op : Int) (w : World) : Calls Tryd.prog 124 #[.int .i64 op] w fun e w' => (∃ f : ByteArray, e = .returned (.string f)) ∧ w = w' := by
  go_enter Tryd.func124, Tryd.ntmps124
  go_wp2
  all_goals go_ret
  all_goals exact ⟨⟨_, rfl⟩, rfl⟩

theorem zzversion_any (a b c : Int) (s m : ByteArray) (w : World) :
    Calls Tryd.prog 108 #[.int .u64 a, .int .u64 b, .int .u64 c, .string s, .string m] w fun e w' => e = .returned (.pointer (some ⟨w.heap.size, 0, none⟩)) ∧
      w' = w.alloc (.cells #[.int .u64 a, .int .u64 b, .int .u64 c, .string s, .string m, .string ⟨#[]⟩] 70) := by
  go_enter Tryd.func108, Tryd.ntmps108
  go_wp2
  go_ret
  exact ⟨rfl, rfl⟩

theorem inner_any (f : ByteArray) (q : Nat) (dd md pd : Bool) (w : World) :
    Calls Tryd.prog 123 #[.agg #[.string f, .pointer (some ⟨q, 0, none⟩), .bool dd, .bool md, .bool pd]] w fun e w' => e = .returned (.pointer (some ⟨w.heap.size + 1, 0, none⟩)) ∧
      w' = (w.alloc (.cells #[.string f, .pointer (some ⟨q, 0, none⟩), .bool dd, .bool md, .bool pd] 86)).alloc (.cells #[.pointer (some ⟨q, 0, none⟩), .string ⟨#[]⟩, .string f, .bool md, .bool dd, .bool pd] 125) := by
  go_enter Tryd.func123, Tryd.ntmps123
  go_wp2
  go_ret
  exact ⟨rfl, rfl⟩

theorem operator_0 (w : World) : Calls Tryd.prog 124 #[.int .i64 0] w fun e w' => e = .returned (.string ⟨#[61]⟩) ∧ w = w' := by
  go_enter Tryd.func124, Tryd.ntmps124
  go_wp2
  go_ret
  exact ⟨rfl, rfl⟩
theorem operator_1 (w : World) : Calls Tryd.prog 124 #[.int .i64 1] w fun e w' => e = .returned (.string ⟨#[33, 61]⟩) ∧ w = w' := by
  go_enter Tryd.func124, Tryd.ntmps124
  go_wp2
  go_ret
  exact ⟨rfl, rfl⟩
theorem operator_2 (w : World) : Calls Tryd.prog 124 #[.int .i64 2] w fun e w' => e = .returned (.string ⟨#[62]⟩) ∧ w = w' := by
  go_enter Tryd.func124, Tryd.ntmps124
  go_wp2
  go_ret
  exact ⟨rfl, rfl⟩
theorem operator_3 (w : World) : Calls Tryd.prog 124 #[.int .i64 3] w fun e w' => e = .returned (.string ⟨#[60]⟩) ∧ w = w' := by
  go_enter Tryd.func124, Tryd.ntmps124
  go_wp2
  go_ret
  exact ⟨rfl, rfl⟩
theorem operator_4 (w : World) : Calls Tryd.prog 124 #[.int .i64 4] w fun e w' => e = .returned (.string ⟨#[62, 61]⟩) ∧ w = w' := by
  go_enter Tryd.func124, Tryd.ntmps124
  go_wp2
  go_ret
  exact ⟨rfl, rfl⟩
theorem operator_5 (w : World) : Calls Tryd.prog 124 #[.int .i64 5] w fun e w' => e = .returned (.string ⟨#[60, 61]⟩) ∧ w = w' := by
  go_enter Tryd.func124, Tryd.ntmps124
  go_wp2
  go_ret
  exact ⟨rfl, rfl⟩
theorem operator_6 (w : World) : Calls Tryd.prog 124 #[.int .i64 6] w fun e w' => e = .returned (.string ⟨#[126]⟩) ∧ w = w' := by
  go_enter Tryd.func124, Tryd.ntmps124
  go_wp2
  go_ret
  exact ⟨rfl, rfl⟩
theorem operator_7 (w : World) : Calls Tryd.prog 124 #[.int .i64 7] w fun e w' => e = .returned (.string ⟨#[94]⟩) ∧ w = w' := by
  go_enter Tryd.func124, Tryd.ntmps124
  go_wp2
  go_ret
  exact ⟨rfl, rfl⟩

theorem operator_any (op : Int) (w : World) : Calls Tryd.prog 124 #[.int .i64 op] w fun e w' => (∃ f : ByteArray, e = .returned (.string f) ∧ (0 ≤ op → op < 8 → f = opS op)) ∧ w = w' := by
  by_cases h : 0 ≤ op ∧ op < 8
  · have h8 : op = 0 ∨ op = 1 ∨ op = 2 ∨ op = 3 ∨ op = 4 ∨ op = 5 ∨ op = 6 ∨ op = 7 := by omega
    rcases h8 with rfl | rfl | rfl | rfl | rfl | rfl | rfl | rfl
    · exact (operator_0 w).mono fun e w' ⟨h1, h2⟩ => ⟨⟨_, h1, fun _ _ => rfl⟩, h2⟩
    · exact (operator_1 w).mono fun e w' ⟨h1, h2⟩ => ⟨⟨_, h1, fun _ _ => rfl⟩, h2⟩
    · exact (operator_2 w).mono fun e w' ⟨h1, h2⟩ => ⟨⟨_, h1, fun _ _ => rfl⟩, h2⟩
    · exact (operator_3 w).mono fun e w' ⟨h1, h2⟩ => ⟨⟨_, h1, fun _ _ => rfl⟩, h2⟩
    · exact (operator_4 w).mono fun e w' ⟨h1, h2⟩ => ⟨⟨_, h1, fun _ _ => rfl⟩, h2⟩
    · exact (operator_5 w).mono fun e w' ⟨h1, h2⟩ => ⟨⟨_, h1, fun _ _ => rfl⟩, h2⟩
    · exact (operator_6 w).mono fun e w' ⟨h1, h2⟩ => ⟨⟨_, h1, fun _ _ => rfl⟩, h2⟩
    · exact (operator_7 w).mono fun e w' ⟨h1, h2⟩ => ⟨⟨_, h1, fun _ _ => rfl⟩, h2⟩
  · exact (operator_some op w).mono fun e w' ⟨⟨f, h1⟩, h2⟩ => ⟨⟨f, h1, fun a b => absurd ⟨a, b⟩ h⟩, h2⟩

/-- a version that was laid in a block of its own, and all else as it was -/
structure Laid (w w' : World) (q : Nat) (a b c : Int) (s : ByteArray) : Prop where
  v : IsVer w' q a b c s ⟨#[]⟩ ⟨#[]⟩
  b : Blk w' q
  new : w.heap.size ≤ q
  bel : Below w.heap.size w w'

set_option maxHeartbeats 4000000 in
set_option maxRecDepth 100000 in
theorem term_any (op gv a b c : Int) (s : ByteArray) (w : World) (h0 : 0 ≤ gv) (h3 : gv ≤ 3) :
    Calls Tryd.prog 85 #[.agg #[.int .i64 op, .int .i64 gv, .int .u64 a, .int .u64 b, .int .u64 c, .string s]] w fun e w' =>
      ∃ f q, e = .returned (.agg #[.string f, .pointer (some ⟨q, 0, none⟩), .bool (decide (gv < 3)), .bool (gv == 1), .bool (gv == 2)]) ∧ (0 ≤ op → op < 8 → f = opS op) ∧ Laid w w' q a b c s := by
  go_enter Tryd.func85, Tryd.ntmps85
  go_wp2_with fail
  first | go_region_held3 (fun W => W.cell? ⟨w.heap.size, 0, none⟩ = some (.int .i64 op) ∧ W.cell? ⟨w.heap.size, 1, none⟩ = some (.int .i64 gv) ∧ W.cell? ⟨w.heap.size, 2, none⟩ = some (.int .u64 a) ∧ W.cell? ⟨w.heap.size, 3, none⟩ = some (.int .u64 b) ∧ W.cell? ⟨w.heap.size, 4, none⟩ = some (.int .u64 c) ∧ W.cell? ⟨w.heap.size, 5, none⟩ = some (.string s)) (first | (go_simp; done) | go_keep) (first | (go_at_call 124; refine (operator_any _ _).mono ?_; rintro e w' ⟨⟨f, rfl, hf⟩, rfl⟩) | (go_at_call 108; refine (zzversion_any _ _ _ _ _ _).mono ?_; rintro e w' ⟨rfl, rfl⟩)) | fail
  go_wp2_with fail
  refine bodyPost_ret (v := .agg #[.string f, .pointer (some ⟨w.heap.size + 1 + 1, 0, none⟩), .bool (decide (gv < 3)), .bool (gv == 1), .bool (gv == 2)]) (by simp [results, Tryd.results85, go_sem]) rfl ⟨f, _, rfl, hf, ?_, ?_, ?_, ?_⟩
  · unfold IsVer; go_simp
  · exact kblk_drew (kblk_new (by simp))
  · omega
  · repeat (first | exact Below.refl _ _ | apply bl_drew | apply bl_alloc)
section
open Go.Proofs.YtlooelfkkbgmhaaDoorW.PrintWords

theorem con_new (W : World) (q : Nat) (f : ByteArray) (md dd pd : Bool) (p : Nat) {a b c a' b' c' : Int} {s m o s' m' o' : ByteArray} (cs : Array Value) (t : TypeId) (cs1 : Array Value) (t1 : TypeId) (hv : IsVer W p a b c s m o) (hu : IsVer W q a' b' c' s' m' o') (hp : Blk W p) (hq : Blk W q) (hG : GlobE W) (W' : World)
    (hW : W' = ((W.alloc (.cells cs t)).alloc (.cells cs1 t1)).alloc (.cells #[.pointer (some ⟨q, 0, none⟩), .string ⟨#[]⟩, .string f, .bool md, .bool dd, .bool pd] 125)) :
    Tri W' p q (W.heap.size + 1 + 1) a b c a' b' c' s m o s' m' o' ⟨#[]⟩ f md dd pd W' := by
  have hb : Below W.heap.size W W' := by subst hW; repeat (first | exact Below.refl _ _ | apply bl_alloc)
  refine ⟨hv.below hb, hu.below hb, ?_, kblk_below hp hb, kblk_below hq hb, globE_below hG hb, Below.refl _ _⟩
  subst hW
  unfold IsCon
  go_simp

abbrev Boxes (w : World) (op gv a' b' c' : Int) (s' : ByteArray) (a b c : Int) (s m : ByteArray) (W : World) : Prop := W.cell? ⟨w.heap.size, 0, none⟩ = some (.int .i64 op) ∧ W.cell? ⟨w.heap.size, 1, none⟩ = some (.int .i64 gv) ∧ W.cell? ⟨w.heap.size, 2, none⟩ = some (.int .u64 a') ∧ W.cell? ⟨w.heap.size, 3, none⟩ = some (.int .u64 b') ∧ W.cell? ⟨w.heap.size, 4, none⟩ = some (.int .u64 c') ∧ W.cell? ⟨w.heap.size, 5, none⟩ = some (.string s') ∧ W.cell? ⟨w.heap.size + 1, 0, none⟩ = some (.int .u64 a) ∧ W.cell? ⟨w.heap.size + 1, 1, none⟩ = some (.int .u64 b) ∧ W.cell? ⟨w.heap.size + 1, 2, none⟩ = some (.int .u64 c) ∧ W.cell? ⟨w.heap.size + 1, 3, none⟩ = some (.string s) ∧ W.cell? ⟨w.heap.size + 1, 4, none⟩ = some (.string m) ∧ Hid (Below w.heap.size w W)
theorem boxes_on {w : World} {op gv a' b' c' : Int} {s' : ByteArray} {a b c : Int} {s m : ByteArray} {W W' : World} (hb : Below W.heap.size W W') (h : Boxes w op gv a' b' c' s' a b c s m W) : Boxes w op gv a' b' c' s' a b c s m W' := by
  obtain ⟨h0, h1, h2, h3, h4, h5, h6, h7, h8, h9, h10, hh⟩ := h
  exact ⟨cell_on hb h0, cell_on hb h1, cell_on hb h2, cell_on hb h3, cell_on hb h4, cell_on hb h5, cell_on hb h6, cell_on hb h7, cell_on hb h8, cell_on hb h9, cell_on hb h10, Lib.hid (bl_on hh.out hb)⟩
theorem boxes_start (w : World) (op gv a' b' c' : Int) (s' : ByteArray) (a b c : Int) (s m : ByteArray) : Boxes w op gv a' b' c' s' a b c s m ((w.alloc (.cells #[.int .i64 op, .int .i64 gv, .int .u64 a', .int .u64 b', .int .u64 c', .string s'] 36)).alloc (.cells #[.int .u64 a, .int .u64 b, .int .u64 c, .string s, .string m] 24)) := by
  refine ⟨?_, ?_, ?_, ?_, ?_, ?_, ?_, ?_, ?_, ?_, ?_, Lib.hid ?_⟩
  all_goals first | (go_simp; done) | (repeat (first | exact Below.refl _ _ | apply bl_alloc))

/-- a version that was laid in a block of its own -/
structure LaidV (w w' : World) (p : Nat) (a b c : Int) (s m : ByteArray) : Prop where
  v : IsVer w' p a b c s m ⟨#[]⟩
  b : Blk w' p
  new : w.heap.size ≤ p
  bel : Below w.heap.size w w'
theorem version_laid (a b c : Int) (s m : ByteArray) (w : World) :
    Calls Tryd.prog 66 #[.agg #[.int .u64 a, .int .u64 b, .int .u64 c, .string s, .string m]] w fun e w' => ∃ p, e = .returned (.pointer (some ⟨p, 0, none⟩)) ∧ LaidV w w' p a b c s m := by
  refine (version_any a b c s m w).mono fun e w' ⟨h1, h2⟩ => ⟨_, h1, ?_, ?_, ?_, ?_⟩
  · subst h2; unfold IsVer; go_simp
  · subst h2; exact kblk_new (by simp)
  · omega
  · subst h2; repeat (first | exact Below.refl _ _ | apply bl_alloc)
theorem laid_ne {w w1 w2 : World} {p q : Nat} {a b c a' b' c' : Int} {s m s' : ByteArray} (h : Laid w w1 q a' b' c' s') (h2 : LaidV w1 w2 p a b c s m) : p ≠ q := by
  obtain ⟨ca, ta, hq⟩ := h.b
  have h1 : q < w1.heap.size := (Array.getElem?_eq_some_iff.1 hq).1
  have h3 := h2.new
  omega

theorem leO_if {α : Type} {p : Prop} [Decidable p] {x y x' y' : Option α} (h1 : LeO x x') (h2 : LeO y y') : LeO (if p then x else y) (if p then x' else y') := by
  by_cases h : p
  · rw [if_pos h, if_pos h]; exact h1
  · rw [if_neg h, if_neg h]; exact h2
end
end Go.Proofs.YtlooelfkkbgmhaaDoor
