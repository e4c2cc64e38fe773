/-
  Texts of versions as lists of bytes: two ways to part them, and that they are one. Plain: no program in sight.
-/
import Derived.Below
namespace Go.Proofs.YtmbdpkaplnjopaaDoor.Gram

abbrev BL := List UInt8
/-- parts a text at the first of a byte -/
def cut (c : UInt8) : BL → Option (BL × BL)
  | [] => none
  | x :: l => if x = c then some ([], l) else (cut c l).map fun p => (x :: p.1, p.2)
theorem cut_some {c : UInt8} : ∀ {l a b : BL}, cut c l = some (a, b) ↔ l = a ++ c :: b ∧ c ∉ a
  | [], a, b => by
    constructor
    · intro h; cases h
    · rintro ⟨h, _⟩
      cases a <;> cases h
  | x :: l, a, b => by
    unfold cut
    by_cases hx : x = c
    · rw [if_pos hx]
      constructor
      · intro h
        simp only [Option.some.injEq, Prod.mk.injEq] at h
        obtain ⟨rfl, rfl⟩ := h
        exact ⟨by rw [hx]; rfl, by simp⟩
      · rintro ⟨h, hn⟩
        cases a with
        | nil => simp only [List.nil_append, List.cons.injEq] at h; rw [h.2]
        | cons y a =>
          simp only [List.cons_append, List.cons.injEq] at h
          exact absurd (by rw [← h.1, hx]; exact List.mem_cons_self) hn
    · rw [if_neg hx]
      constructor
      · intro h
        obtain ⟨p, hp, e⟩ := Option.map_eq_some_iff.1 h
        simp only [Prod.mk.injEq] at e
        obtain ⟨rfl, rfl⟩ := e
        obtain ⟨h1, h2⟩ := cut_some.1 (show cut c l = some (p.1, p.2) from hp)
        refine ⟨by rw [h1]; rfl, ?_⟩
        intro hm
        rcases List.mem_cons.1 hm with h | h
        · exact hx h.symm
        · exact h2 h
      · rintro ⟨h, hn⟩
        cases a with
        | nil => simp only [List.nil_append, List.cons.injEq] at h; exact absurd h.1 hx
        | cons y a =>
          simp only [List.cons_append, List.cons.injEq] at h
          obtain ⟨rfl, h2⟩ := h
          have h3 := cut_some.2 (show l = a ++ c :: b ∧ c ∉ a from ⟨h2, fun hm => hn (List.mem_cons_of_mem _ hm)⟩)
          rw [h3]
          rfl
theorem cut_none {c : UInt8} : ∀ {l : BL}, cut c l = none ↔ c ∉ l
  | [] => by simp [cut]
  | x :: l => by
    unfold cut
    by_cases hx : x = c
    · rw [if_pos hx]; simp [hx]
    · rw [if_neg hx, Option.map_eq_none_iff, cut_none, List.mem_cons]
      constructor
      · intro h h2
        rcases h2 with h2 | h2
        · exact hx h2.symm
        · exact h h2
      · intro h h2
        exact h (Or.inr h2)
/-- the identifiers between the dots -/
def dots : BL → List BL
  | [] => [[]]
  | x :: l => if x = 46 then [] :: dots l else match dots l with | [] => [[x]] | h :: t => (x :: h) :: t
theorem dots_ne : ∀ l : BL, dots l ≠ []
  | [] => by simp [dots]
  | x :: l => by
    unfold dots
    by_cases hx : x = 46
    · rw [if_pos hx]; simp
    · rw [if_neg hx]
      split <;> simp
theorem dots_none : ∀ {l : BL}, 46 ∉ l → dots l = [l]
  | [], _ => rfl
  | x :: l, h => by
    unfold dots
    rw [if_neg (fun e => h (by rw [e]; exact List.mem_cons_self)), dots_none (fun hm => h (List.mem_cons_of_mem _ hm))]
theorem dots_cut : ∀ {a b : BL}, 46 ∉ a → dots (a ++ 46 :: b) = a :: dots b
  | [], b, _ => by simp [dots]
  | x :: a, b, h => by
    rw [List.cons_append, dots, if_neg (fun e => h (by rw [e]; exact List.mem_cons_self)), dots_cut (fun hm => h (List.mem_cons_of_mem _ hm))]
theorem dots_single {l a : BL} (h : dots l = [a]) : l = a ∧ 46 ∉ a := by
  cases hc : cut 46 l with
  | none =>
    rw [cut_none] at hc
    rw [dots_none hc] at h
    simp only [List.cons.injEq, and_true] at h
    exact ⟨h, by rw [← h]; exact hc⟩
  | some p =>
    obtain ⟨e, hn⟩ := cut_some.1 (show cut 46 l = some (p.1, p.2) from hc)
    rw [e, dots_cut hn] at h
    simp only [List.cons.injEq] at h
    exact absurd h.2 (dots_ne _)
theorem dots_more {l a : BL} {t : List BL} (ht : t ≠ []) (h : dots l = a :: t) : ∃ r, l = a ++ 46 :: r ∧ 46 ∉ a ∧ dots r = t := by
  cases hc : cut 46 l with
  | none =>
    rw [cut_none] at hc
    rw [dots_none hc] at h
    simp only [List.cons.injEq] at h
    exact absurd h.2.symm ht
  | some p =>
    obtain ⟨e, hn⟩ := cut_some.1 (show cut 46 l = some (p.1, p.2) from hc)
    rw [e, dots_cut hn] at h
    simp only [List.cons.injEq] at h
    exact ⟨p.2, by rw [e, h.1], by rw [← h.1]; exact hn, h.2⟩
def isD (b : UInt8) : Bool := decide (48 ≤ b.toNat) && decide (b.toNat ≤ 57)
def isA (b : UInt8) : Bool := (decide (65 ≤ b.toNat) && decide (b.toNat ≤ 90)) || (decide (97 ≤ b.toNat) && decide (b.toNat ≤ 122))
def isId (b : UInt8) : Bool := isD b || isA b || b == 45
def lead (l : BL) : Bool := match l with | x :: _ :: _ => x == 48 | _ => false
def okId (l : BL) : Bool := !l.isEmpty && l.all isId
def okMeta (l : BL) : Bool := (dots l).all okId
def okPre (l : BL) : Bool := (dots l).all fun id => okId id && !(id.all isD && lead id)
/-- a text cut at a byte, if it has one -/
def part (c : UInt8) (l : BL) : BL × Option BL := match cut c l with | some (a, b) => (a, some b) | none => (l, none)
/-- what stands behind the three numbers -/
def tl (c : UInt8) : Option BL → BL
  | some z => c :: z
  | none => []
def tail (pre mt : Option BL) : BL := tl 45 pre ++ tl 43 mt
theorem part_of {c : UInt8} {x : BL} (y : Option BL) (h : c ∉ x) : part c (x ++ tl c y) = (x, y) := by
  unfold part
  cases y with
  | none => rw [tl, List.append_nil, cut_none.2 h]
  | some z => rw [tl, cut_some.2 ⟨rfl, h⟩]
theorem part_inv {c : UInt8} {l x : BL} {y : Option BL} (h : part c l = (x, y)) : l = x ++ tl c y ∧ c ∉ x := by
  unfold part at h
  cases hc : cut c l with
  | none =>
    rw [hc] at h
    simp only [Prod.mk.injEq] at h
    obtain ⟨rfl, rfl⟩ := h
    exact ⟨by rw [tl, List.append_nil], cut_none.1 hc⟩
  | some p =>
    rw [hc] at h
    simp only [Prod.mk.injEq] at h
    obtain ⟨rfl, rfl⟩ := h
    exact cut_some.1 hc
/-- three rows of digits, a valid prerelease or none, valid metadata or none -/
def Whole (l a b c : BL) (pre mt : Option BL) : Prop :=
  l = a ++ 46 :: (b ++ 46 :: (c ++ tail pre mt)) ∧ (a.all isD = true ∧ b.all isD = true ∧ c.all isD = true) ∧ (∀ p, pre = some p → okPre p = true) ∧ (∀ m, mt = some m → okMeta m = true)
theorem isD_ne {x : UInt8} (h : isD x = true) : x ≠ 46 ∧ x ≠ 43 ∧ x ≠ 45 := by
  unfold isD at h
  rw [Bool.and_eq_true] at h
  have h1 := of_decide_eq_true h.1
  refine ⟨?_, ?_, ?_⟩ <;> (rintro rfl; revert h1; decide)
theorem all_not {l : BL} {c : UInt8} (h : l.all isD = true) (hc : c = 46 ∨ c = 43 ∨ c = 45) : c ∉ l := by
  intro hm
  have h1 := isD_ne (List.all_eq_true.1 h c hm)
  rcases hc with rfl | rfl | rfl
  · exact h1.1 rfl
  · exact h1.2.1 rfl
  · exact h1.2.2 rfl
theorem mem_dots : ∀ {l : BL} {x : UInt8}, x ∈ l → x ≠ 46 → ∃ id ∈ dots l, x ∈ id
  | [], x, h, _ => by simp at h
  | y :: l, x, h, hx => by
    unfold dots
    by_cases hy : y = 46
    · rw [if_pos hy]
      rcases List.mem_cons.1 h with h | h
      · exact absurd (h.trans hy) hx
      · obtain ⟨id, h1, h2⟩ := mem_dots h hx
        exact ⟨id, List.mem_cons_of_mem _ h1, h2⟩
    · rw [if_neg hy]
      rcases List.mem_cons.1 h with h | h
      · split
        · exact ⟨[y], by simp, by rw [h]; simp⟩
        · rename_i hd tl _
          exact ⟨y :: hd, by simp, by rw [h]; simp⟩
      · obtain ⟨id, h1, h2⟩ := mem_dots h hx
        split
        · rename_i hd
          exact absurd hd (dots_ne l)
        · rename_i hd tl he
          rw [he] at h1
          rcases List.mem_cons.1 h1 with h1 | h1
          · exact ⟨y :: hd, by simp, by rw [← h1]; exact List.mem_cons_of_mem _ h2⟩
          · exact ⟨id, List.mem_cons_of_mem _ h1, h2⟩
theorem isId_plus {x : UInt8} (h : isId x = true) : x ≠ 43 := by
  rintro rfl
  revert h
  decide
/-- a valid prerelease has no plus sign -/
theorem pre_plus {p : BL} (h : okPre p = true) : (43 : UInt8) ∉ p := by
  intro hm
  obtain ⟨id, h1, h2⟩ := mem_dots hm (by decide)
  have h3 := List.all_eq_true.1 h id h1
  rw [Bool.and_eq_true] at h3
  have h4 := h3.1
  unfold okId at h4
  rw [Bool.and_eq_true] at h4
  exact isId_plus (List.all_eq_true.1 h4.2 43 h2) rfl
/-- as the program parts a text: dots first -/
def byDots (l : BL) : Option (BL × BL × BL × Option BL × Option BL) :=
  match cut 46 l with
  | none => none
  | some (a, r) => match cut 46 r with
    | none => none
    | some (b, c0) =>
      let pm := part 43 c0
      let pp := part 45 pm.1
      if (∀ m, pm.2 = some m → okMeta m = true) ∧ (∀ p, pp.2 = some p → okPre p = true) ∧ a.all isD = true ∧ b.all isD = true ∧ pp.1.all isD = true then some (a, b, pp.1, pp.2, pm.2) else none
/-- as the grammar parts it: the tails first -/
def byTails (l : BL) : Option (BL × BL × BL × Option BL × Option BL) :=
  let pm := part 43 l
  let pp := part 45 pm.1
  if (∀ m, pm.2 = some m → okMeta m = true) ∧ (∀ p, pp.2 = some p → okPre p = true) then
    match dots pp.1 with
    | [a, b, c] => if a.all isD = true ∧ b.all isD = true ∧ c.all isD = true then some (a, b, c, pp.2, pm.2) else none
    | _ => none
  else none
theorem byDots_whole {l a b c : BL} {pre mt : Option BL} : byDots l = some (a, b, c, pre, mt) ↔ Whole l a b c pre mt := by
  unfold byDots
  constructor
  · intro h
    cases h1 : cut 46 l with
    | none => rw [h1] at h; cases h
    | some q =>
      obtain ⟨a1, r⟩ := q
      rw [h1] at h
      simp only [] at h
      cases h2 : cut 46 r with
      | none => rw [h2] at h; cases h
      | some q2 =>
        obtain ⟨b1, c0⟩ := q2
        rw [h2] at h
        simp only [] at h
        split at h
        · rename_i hc
          simp only [Option.some.injEq, Prod.mk.injEq] at h
          obtain ⟨rfl, rfl, e1, e2, e3⟩ := h
          obtain ⟨p1, hp1⟩ := part_inv (c := 43) (l := c0) (x := (part 43 c0).1) (y := (part 43 c0).2) rfl
          obtain ⟨p2, hp2⟩ := part_inv (c := 45) (l := (part 43 c0).1) (x := (part 45 (part 43 c0).1).1) (y := (part 45 (part 43 c0).1).2) rfl
          rw [e1, e2] at p2
          rw [p2, e3] at p1
          rw [e1, e2, e3] at hc
          refine ⟨?_, ⟨hc.2.2.1, hc.2.2.2.1, hc.2.2.2.2⟩, hc.2.1, hc.1⟩
          rw [(cut_some.1 h1).1, (cut_some.1 h2).1, p1, tail, List.append_assoc]
        · cases h
  · rintro ⟨e, ⟨ha, hb, hc⟩, hp, hm⟩
    have h1 : cut 46 l = some (a, b ++ 46 :: (c ++ tail pre mt)) := cut_some.2 ⟨e, all_not ha (Or.inl rfl)⟩
    have h2 : cut 46 (b ++ 46 :: (c ++ tail pre mt)) = some (b, c ++ tail pre mt) := cut_some.2 ⟨rfl, all_not hb (Or.inl rfl)⟩
    have n1 : (43 : UInt8) ∉ c ++ tl 45 pre := by
      intro hx
      rcases List.mem_append.1 hx with hx | hx
      · exact all_not hc (Or.inr (Or.inl rfl)) hx
      · cases pre with
        | none => simp [tl] at hx
        | some p =>
          rcases List.mem_cons.1 hx with hx | hx
          · revert hx; decide
          · exact pre_plus (hp p rfl) hx
    have h3 : part 43 (c ++ tail pre mt) = (c ++ tl 45 pre, mt) := by rw [tail, ← List.append_assoc]; exact part_of mt n1
    have h4 : part 45 (c ++ tl 45 pre) = (c, pre) := part_of pre (all_not hc (Or.inr (Or.inr rfl)))
    rw [h1]
    simp only [h2, h3, h4]
    rw [if_pos ⟨hm, hp, ha, hb, hc⟩]
theorem byTails_whole {l a b c : BL} {pre mt : Option BL} : byTails l = some (a, b, c, pre, mt) ↔ Whole l a b c pre mt := by
  unfold byTails
  constructor
  · intro h
    simp only [] at h
    split at h
    · rename_i hc
      split at h
      · rename_i a1 b1 c1 hd
        split at h
        · rename_i hall
          simp only [Option.some.injEq, Prod.mk.injEq] at h
          obtain ⟨rfl, rfl, rfl, e2, e3⟩ := h
          obtain ⟨p1, hp1⟩ := part_inv (c := 43) (l := l) (x := (part 43 l).1) (y := (part 43 l).2) rfl
          obtain ⟨p2, hp2⟩ := part_inv (c := 45) (l := (part 43 l).1) (x := (part 45 (part 43 l).1).1) (y := (part 45 (part 43 l).1).2) rfl
          obtain ⟨r, d1, d2, d3⟩ := dots_more (by simp) hd
          obtain ⟨r2, d4, d5, d6⟩ := dots_more (by simp) d3
          obtain ⟨d7, d8⟩ := dots_single d6
          rw [e2] at p2 hc
          rw [e3] at p1 hc
          refine ⟨?_, hall, hc.2, hc.1⟩
          rw [p1, p2, d1, d4, d7, tail]
          simp
        · cases h
      · cases h
    · cases h
  · rintro ⟨e, ⟨ha, hb, hc⟩, hp, hm⟩
    have e1 : l = (a ++ 46 :: (b ++ 46 :: c) ++ tl 45 pre) ++ tl 43 mt := by rw [e, tail]; simp
    have n0 : ∀ x : UInt8, x = 43 ∨ x = 45 → x ∉ a ++ 46 :: (b ++ 46 :: c) := by
      intro x hx hm
      have h46 : x ≠ 46 := by rcases hx with rfl | rfl <;> decide
      have hx' : x = 46 ∨ x = 43 ∨ x = 45 := Or.inr hx
      simp only [List.mem_append, List.mem_cons] at hm
      rcases hm with h | h | h | h | h
      · exact all_not ha hx' h
      · exact h46 h
      · exact all_not hb hx' h
      · exact h46 h
      · exact all_not hc hx' h
    have n1 : (43 : UInt8) ∉ a ++ 46 :: (b ++ 46 :: c) ++ tl 45 pre := by
      intro hx
      rcases List.mem_append.1 hx with hx | hx
      · exact n0 43 (Or.inl rfl) hx
      · cases pre with
        | none => simp [tl] at hx
        | some p =>
          rcases List.mem_cons.1 hx with hx | hx
          · revert hx; decide
          · exact pre_plus (hp p rfl) hx
    have h3 : part 43 l = (a ++ 46 :: (b ++ 46 :: c) ++ tl 45 pre, mt) := by rw [e1]; exact part_of mt n1
    have h4 : part 45 (a ++ 46 :: (b ++ 46 :: c) ++ tl 45 pre) = (a ++ 46 :: (b ++ 46 :: c), pre) := part_of pre (n0 45 (Or.inr rfl))
    have h5 : dots (a ++ 46 :: (b ++ 46 :: c)) = [a, b, c] := by
      rw [dots_cut (all_not ha (Or.inl rfl)), dots_cut (all_not hb (Or.inl rfl)), dots_none (all_not hc (Or.inl rfl))]
    simp only [h3, h4, h5]
    rw [if_pos ⟨hm, hp⟩, if_pos ⟨ha, hb, hc⟩]
/-- both ways part a text alike -/
theorem byDots_byTails (l : BL) : byDots l = byTails l := by
  cases h : byDots l with
  | some q =>
    obtain ⟨a, b, c, p, m⟩ := q
    rw [byDots_whole] at h
    exact (byTails_whole.2 h).symm
  | none =>
    cases h2 : byTails l with
    | none => rfl
    | some q =>
      obtain ⟨a, b, c, p, m⟩ := q
      rw [byTails_whole] at h2
      rw [byDots_whole.2 h2] at h
      cases h
end Go.Proofs.YtmbdpkaplnjopaaDoor.Gram
