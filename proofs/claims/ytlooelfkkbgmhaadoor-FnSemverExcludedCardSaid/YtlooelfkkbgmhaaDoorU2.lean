-- the print's words (print.sh), put together by a program of mine (wip/tools/shrink.py), less those that this claim does not use. Not trusted: Lean checks it.
import Derived.Below
import Derived.Deep.Draws
import Derived.Deep.AppendLies
import Derived.Maps.AppendAt
import Derived.OwnWalk
import Derived.Laws.BytesArg
import Derived.Laws.MakeOwn
import Derived.Laws.OwnMore
import Derived.Deep.OwnRows
import Derived.Tactics
import Derived.Lib.ConvBytes
import Derived.Laws.Slices
import Derived.WalkKit
import Derived.KernelRfl
import Derived.RowKit3
import Derived.Deep.LoopGhost
import Derived.Deep.QuietTactic
import Derived.BigQuiet
import Derived.WideLaws
import Derived.Deep.DeepCutAuto
import Derived.Deep.CutBlock
import Derived.Deep.RegionHeld3
import Derived.Laws.Rows
import Derived.Lib.AppendStr
import Derived.ArgAppend
import Derived.Laws.IdiomCopy
import Derived.RowKit
import Derived.OrdersHeld
import Derived.Laws.BitsLemmas
import Derived.Laws.StructEq
import Derived.Test.YtlooelfkkbgmhaaDoorU
import Derived.Test.YtlooelfkkbgmhaaDoorUHeap
section
-- PRINTED WORDS (module Derived/Print/Words.lean): go-wishes' parts 1 to 38 and go-gate-2's additions: AI agents of Go's test side, Mon Nov 16 2026; no person has read them. Plain theorems and definitions: no macro, no elab, no axiom.
set_option linter.unusedVariables false
set_option linter.unusedSimpArgs false
namespace Go.Proofs.YtlooelfkkbgmhaaDoorW.PrintWords
open Go.RowKit

/-! ### 1. Values and lists -/
/-! ### 2. The world -/
/-! ### 3. A slice of whole numbers that is read; nil, empty and other slices alike -/
/-! ### 4. A row of the call's own -/
/-! ### 5. append(v, x): behind 'at_builtin'; the goal's world is 'W.alloc' of the variadic's box -/
section
variable {P : Program} {ops : Array Oper} {rest : List Oper} {o : Oper} {a : Act} {Q : Exit → Act → World → Prop}

end

/-! ### 6. make([]T, n), n an Int; a literal -/
section
variable {P : Program}
end
/-! ### 7. v[i] read and v[i] = x, v a row of the call's own: 'obtain ⟨g, cap, rfl, hgb, hgl⟩ := HO.out.form (by omega)' first -/
/-! ### 8. append(v, ys...): ys a slice that is read, nil let in; behind 'at_builtin' -/
section
variable {P : Program} {ops : Array Oper} {rest : List Oper} {o : Oper} {a : Act} {Q : Exit → Act → World → Prop}
end

/-! ### 9. []byte(s): a slice that is read (its row bears a conversion's mark: no row of one's own); cuts of a slice that is read -/
/-! ### 10. Rounds: more rounds give the same answer; what ends gives a number of rounds -/
/-- Two that come to their answers, each at rounds of its own, come to them at one number. -/
theorem together {α β : Type} {g : Nat → Option α} {f : Nat → Option β} (hg : ∀ k, LeO (g k) (g (k + 1))) (hf : ∀ k, LeO (f k) (f (k + 1))) {r : α} {q : β} (h : ∃ k, g k = some r) (h' : ∃ k, f k = some q) : ∃ k, g k = some r ∧ f k = some q := by
  obtain ⟨k, hk⟩ := h
  obtain ⟨k', hk'⟩ := h'
  exact ⟨max k k', at_rounds hg (Nat.le_max_left _ _) hk, at_rounds hf (Nat.le_max_right _ _) hk'⟩
/-! ### 11. Rows of elements of several cells (structs): read, made. R: what an element's cells say ('RepItem w': printed for each type) -/
section
variable {P : Program} {ops : Array Oper} {rest : List Oper} {o : Oper} {a : Act} {Q : Exit → Act → World → Prop}
end

/-! ### 12. A block of one's own that is a state: its cells, what a store leaves -/
/-! ### 13. Two states at once: what a call on the state at block g (its row before: 'row') has turned -/
/-! ### 10b. From some number of rounds on -/
/-! ### 14. append as_ one step of a region that draws its order: for 'go_region_law' (and a region walked by hand) -/
section
variable {P : Program} {ops : Array Oper} {o : Oper} {a : Act} {Q : Exit → Act → World → Prop} {K : Act → World → Prop}
end
/-! ### 15. A row's base may be lowered -/
/-! ### 16. Parts 3 to 9 for ANY element of one cell: 'enc' (Value.int k, Value.string, Value.bool), a default 'd' -/
section
variable {α : Type} {enc : α → Value} {d : α}
end
section
variable {α : Type} {P : Program} {ops : Array Oper} {rest : List Oper} {o : Oper} {a : Act} {Q : Exit → Act → World → Prop}
end

/-! ### 17. Rows of one element type held at once: no two share a block -/
/-! ### 18. A block behind a new one; behind a draw -/
/-! ### 19. Results that lie in memory beside others -/
section
variable {P : Program}
end
/-! ### 20. Rows of elements of any kind: R is what an element's cells say -/
section
variable {α : Type} {R R' : α → List Value → Prop} {e : TypeId} {size : Nat} {w w1 : World} {base : Nat} {v : Value} {ps : List α}
end
section
variable {P : Program} {ops : Array Oper} {rest : List Oper} {o : Oper} {a : Act} {Q : Exit → Act → World → Prop} {α : Type} {R : α → List Value → Prop}
end
section
variable {P : Program} {ops : Array Oper} {o : Oper} {a : Act} {Q : Exit → Act → World → Prop} {K : Act → World → Prop} {α : Type} {R : α → List Value → Prop}
end
/-- What is read as_ a row has its cells one behind the other. -/
theorem ReadsRow.inner_ {α : Type} {R : α → List Value → Prop} {size : Nat} {w : World} {ad : Addr} {n : Nat} {ps : List α} (h : ReadsRow R size w (some ad) n ps) :
    ∃ inner, Reps R size ps inner ∧ ∀ j u, inner[j]? = some u → w.cell? (ad.add j) = some u := by
  have key : ∀ m, m ≤ ps.length → ∃ inner, Reps R size (ps.take m) inner ∧ ∀ j u, inner[j]? = some u → w.cell? (ad.add j) = some u := by
    intro m
    induction m with
    | zero => exact fun _ => ⟨[], Reps.none _ _, fun j u hu => by simp at hu⟩
    | succ m ih =>
      intro hm
      obtain ⟨inner, hr, hc⟩ := ih (by omega)
      obtain ⟨ad', he, hcell⟩ := h.2.2 (by have := h.1; omega)
      injection he with he
      subst he
      obtain ⟨c, hcl, hp, hcc⟩ := hcell m _ (List.getElem?_eq_getElem (show m < ps.length by omega))
      refine ⟨inner ++ c, ?_, fun j u hu => ?_⟩
      · rw [List.take_succ_eq_append_getElem (show m < ps.length by omega)]
        exact hr.snoc hp hcl
      · have hil : inner.length = m * size := by rw [hr.1, List.length_take, Nat.min_eq_left (by omega)]
        rcases Nat.lt_or_ge j inner.length with hj | hj
        · rw [List.getElem?_append_left hj] at hu
          exact hc j u hu
        · rw [List.getElem?_append_right hj] at hu
          have := hcc (j - inner.length) u hu
          rwa [hil, Nat.add_sub_cancel' (by omega)] at this
  obtain ⟨inner, hr, hc⟩ := key ps.length (Nat.le_refl _)
  rw [List.take_length] at hr
  exact ⟨inner, hr, hc⟩
/-! ### 21. Cuts of a slice that came in, lengths spelled as_ the lists' -/
section
variable {α : Type} {P : Program}
end

/-! ### 22. append([]byte, s...), s a string; behind 'at_builtin'. (No word on where the new row lies: two rows of bytes at once don't go by it.) -/
section
variable {P : Program} {ops : Array Oper} {rest : List Oper} {o : Oper} {a : Act} {Q : Exit → Act → World → Prop}
end
/-! ### 23. KINDS: what a value's cells say, read (K) and made (M), kind by kind; every mover proved once -/
namespace Kd
section
variable {α : Type} {d : Kd α} {e : Nat} {w w1 : World} {base : Nat} {ok ok' : Nat → Prop} {v : Value} {xs : List α}
end

/-! #### the kinds -/
/-! #### an element of a row that is read; an element appended -/
section
variable {P : Program} {ops : Array Oper} {rest : List Oper} {o : Oper} {a : Act} {Q : Exit → Act → World → Prop} {α : Type}
end
section
variable {P : Program} {ops : Array Oper} {o : Oper} {a : Act} {Q : Exit → Act → World → Prop} {Kc : Act → World → Prop} {α : Type}
end
end Kd
/-! ### 24. Kinds nested in themselves -/
namespace Kd
section
variable {α : Type} {F : Kd α → Kd α} {sz : Nat} {E : List Nat} {hs : ∀ n, (upto F sz E n).sz = sz} {hE : ∀ n q, q ∈ (upto F sz E n).E → q ∈ E}
end
end Kd
/-! ### 25. What is held while another row is written: 'ok' says that its rows are none of that row's block -/
namespace Kd
/-- Behind an append to v (it left v1): what is held apart from v is held apart from v1. -/
theorem R_after {α : Type} {d : Kd α} {e base : Nat} {ok : Nat → Prop} {W w1 : World} {u v v1 : Value} {xs : List α} (h : d.R e W base (fun k => ok k ∧ some k ≠ v.ownBlock) u xs) (hg : W.grownBy w1 v.ownBlock) (hat : v1.ownBlock = v.ownBlock ∨ ∃ b, v1.ownBlock = some b ∧ W.heap.size ≤ b) : d.R e w1 base (fun k => ok k ∧ some k ≠ v1.ownBlock) u xs := by
  refine R_mono (R_move (R_bound h) (fun k hk => hg.block k hk.2.2.1 hk.1.2)) (fun k hk => ⟨hk.1.1, ?_⟩)
  rcases hat with hat | ⟨b, hb, hle⟩
  · rw [hat]; exact hk.1.2
  · rw [hb]
    intro he
    injection he with he
    have := hk.2.2.1
    omega
/-- A row that is owned as_ an element of a row of rows: its block is v's, no more is said. -/
theorem M_row {α : Type} {d : Kd α} {e base : Nat} {ok : Nat → Prop} {w : World} {v : Value} {xs : List α} (h : d.R e w base ok v xs) : (slice e d).M w base ok xs [v] := ⟨v, rfl, h⟩
end Kd
/-! ### 26. Words for a printer that takes every slice by its kind -/
namespace Kd
section
variable {α β : Type} {d : Kd α} {d' : Kd β} {e e' : Nat} {w w1 W : World} {base b b' : Nat} {ok ok' okv oku : Nat → Prop} {v u : Value} {xs : List α} {ys : List β}
end
/-! #### scalars -/
section
variable {w W : World} {A : Option Addr} {n : Nat}
variable {α : Type} {enc : α → Value} {h1 : ∀ x, (enc x).oneCell' = true} {e base g cap : Nat} {ok : Nat → Prop} {xs : List α}
end

/-! #### events: a letter for what make and a literal leave -/
section
variable {P : Program} {ops : Array Oper} {rest : List Oper} {o : Oper} {a : Act} {Q : Exit → Act → World → Prop}
variable {α : Type}
end
end Kd
/-! ### 27. Cuts of a row of one's own: 'xs = xs[:n]' stays a row (R_take); 'xs = xs[k:]' is a row that begins inside its block (Kd.Q), append goes on it too -/
section
variable {P : Program}
end
section
variable {w w1 : World} {base n size : Nat} {e : TypeId} {v : Value} {xs : List Value}
end
section
variable {P : Program}
end
/-! ### 28. The kinds' words for cuts: R_take; Q (a row that may begin inside its block) with all of R's movers -/
namespace Kd
section
variable {α : Type} {d : Kd α} {e : Nat} {w w1 W : World} {base : Nat} {ok ok' : Nat → Prop} {v : Value} {xs : List α}
end
section
variable {P : Program} {ops : Array Oper} {rest : List Oper} {o : Oper} {a : Act} {Q' : Exit → Act → World → Prop} {Kc : Act → World → Prop} {α : Type}
end
end Kd
/-! ### 29. Movers that ask of another row no more than they need: for R and for Q -/
namespace Kd
section
variable {α : Type} {d : Kd α} {e e' : Nat} {w w1 W : World} {base : Nat} {ok : Nat → Prop} {u v : Value} {xs : List α}
end
end Kd
/-! ### 30. Elements written: x[i] = T{..}, x[i].f = v, swaps, in a row of elements of any kind -/
namespace Kd
section
variable {α : Type} {d : Kd α} {e base g n cap : Nat} {ok okp : Nat → Prop} {W : World} {xs : List α}
end
end Kd
/-! ### 31. What came in, put into what is made: 'fixed d w0' (read in w0, whatever happens since), 'or_ a b', 'mix' (a slice that came in, or one that is made) -/
namespace Kd
section
variable {α : Type} {F : Kd α → Kd α} {sz : Nat} {E : List Nat} {hs : ∀ n, (upto F sz E n).sz = sz} {hE : ∀ n q, q ∈ (upto F sz E n).E → q ∈ E}
end
end Kd
/-! ### 32. A whole row appended, of elements of any kind; copy onto a row of scalars of one's own -/
namespace Kd
theorem reps_append {α : Type} {R : α → List Value → Prop} {size : Nat} {ps qs : List α} {cs ds : List Value} (h : Reps R size ps cs) (h' : Reps R size qs ds) : Reps R size (ps ++ qs) (cs ++ ds) := by
  refine ⟨by rw [List.length_append, List.length_append, h.1, h'.1, Nat.add_mul], fun j p hj => ?_⟩
  rcases Nat.lt_or_ge j ps.length with hlt | hge
  · rw [List.getElem?_append_left hlt] at hj
    have hle : j * size + size ≤ cs.length := by rw [h.1, ← Nat.succ_mul]; exact Nat.mul_le_mul_right _ hlt
    rw [List.drop_append_of_le_length (by omega), List.take_append_of_le_length (by rw [List.length_drop]; omega)]
    exact h.2 j p hj
  · rw [List.getElem?_append_right hge] at hj
    have h2 := h'.2 (j - ps.length) p hj
    have hle : ps.length * size ≤ j * size := Nat.mul_le_mul_right _ hge
    rw [List.drop_append, List.drop_eq_nil_of_le (by rw [h.1]; exact hle), List.nil_append, h.1, ← Nat.sub_mul]
    exact h2
section
variable {P : Program} {ops : Array Oper} {rest : List Oper} {o : Oper} {a : Act} {Q : Exit → Act → World → Prop} {α : Type}
/-- append(v, ys...): Rr is what is known of a read element's cells (d.K W; or k<T>.K w0 for a row that came in), hKM: it may stand as_ made. -/
theorem R_append_rows (d : Kd α) {Rr : α → List Value → Prop} {w0 W : World} (base : Nat) (hgd : o.guard = none) (s x : Operand) (t e : TypeId) (z : Value) (bytes : Nat)
    (ho : o.op = .call { callee := .builtin .append, args := #[s, x], argTypes := #[t, t] })
    (ht : P.underlying t = some (.slice e)) (hinfo : (P.info? e).map (fun i => (i.zero, i.size, i.bytes)) = some (some z, d.sz, bytes)) (hz : z.cells.size = d.sz) (hs0 : 0 < d.sz) (hb0 : 0 < bytes)
    (v : Value) (xs ys : List α) (A : Option Addr) (m c : Nat) (ok okp : Nat → Prop) (hs : a.eval s = v) (hx : a.eval x = .slice A m c)
    (HO : d.R e W base ok v xs) (HR : ReadsRow Rr d.sz W A m ys) (hKM : ∀ x cs, Rr x cs → d.M W base okp x cs) (hokp : ∀ k, okp k → ok k ∧ some k ≠ v.ownBlock) (hfresh : ∀ k, W.heap.size ≤ k → ok k)
    (HB : Below base w0 W) (hbase : base ≤ W.heap.size) (hl : (xs.length + m) * bytes ≤ 140737488355328)
    (h : ∀ v1 w1, d.R e w1 base ok v1 (xs ++ ys) → Below base w0 w1 → W.grownBy w1 v.ownBlock → (v1.ownBlock = v.ownBlock ∨ ∃ b, v1.ownBlock = some b ∧ W.heap.size ≤ b) → wpList P ops Q rest (a.put o.dst v1) w1) :
    wpList P ops Q (o :: rest) a W := by
  obtain ⟨i0, hi, hzz⟩ := Option.map_eq_some_iff.1 hinfo
  simp only [Prod.mk.injEq] at hzz
  obtain ⟨hz0, hz1, hz2⟩ := hzz
  have hm : ys.length = m := HR.1
  have hlen : xs.length + m ≤ 140737488355328 := Nat.le_trans (Nat.le_mul_of_pos_right _ hb0) hl
  obtain ⟨hok, inner, hown, hr⟩ := HO
  have hrun : ∃ v1 w1, (Builtin.append_ #[t, t] o.type #[v, .slice A m c]).run P W = .ok v1 w1 ∧ d.R e w1 base ok v1 (xs ++ ys) ∧ W.grownBy w1 v.ownBlock ∧ (v1.ownBlock = v.ownBlock ∨ ∃ b, v1.ownBlock = some b ∧ W.heap.size ≤ b) := by
    rcases A with _ | ad
    · have h0 : m = 0 := by
        rcases Nat.eq_zero_or_pos m with h0 | h0
        · exact h0
        · obtain ⟨ad, h, _⟩ := HR.2.2 h0
          cases h
      subst h0
      obtain rfl : ys = [] := List.eq_nil_of_length_eq_zero hm
      refine ⟨v, W, ?_, by rw [List.append_nil]; exact ⟨hok, inner, hown, hr⟩, World.grownBy.refl W _, .inl rfl⟩
      rcases hown.2 with ⟨rfl, hn⟩ | ⟨g, cap, cur, rfl, _, _, hnc, _⟩
      · simp [Builtin.append_, run_underlying ht, sizeOf, typeInfo, hi, Builtin.lenOf, Builtin.firstCells]
      · simp [Builtin.append_, run_underlying ht, sizeOf, typeInfo, hi, Builtin.lenOf, Builtin.firstCells, hnc, storeCells]
    · obtain ⟨news, hnr, hnc⟩ := ReadsRow.inner_ HR
      have hnM : Reps (d.M W base okp) d.sz ys news := hnr.imp_ (fun p c hp => hKM p c hp)
      have hone : ∀ u ∈ news, u.oneCell' = true := by
        intro u hu
        obtain ⟨q, hq, rfl⟩ := List.mem_iff_getElem.1 hu
        have hql : q / d.sz < ys.length := by
          rw [Nat.div_lt_iff_lt_mul hs0]
          rw [← hnM.1]
          exact hq
        have hc := hnM.2 (q / d.sz) _ (List.getElem?_eq_getElem hql)
        refine d.K_one (d.K_of_M hc) _ ?_
        rw [List.mem_iff_getElem?]
        refine ⟨q % d.sz, ?_⟩
        rw [List.getElem?_take, if_pos (Nat.mod_lt _ hs0), List.getElem?_drop, Nat.mul_comm, Nat.div_add_mod, List.getElem?_eq_getElem hq]
      obtain ⟨v1, w1, hrun, h2, hg, _, hat⟩ := run_append_own_at (P := P) W base t o.type e i0 z d.sz bytes ht hi hz0 hz1 hz2 hz hs0 v xs.length inner hown ad m c news (by rw [hnM.1, hm]) hnc hone (by simp only [maxLen]; omega) hl hbase
      have hat' : v1.ownBlock = v.ownBlock ∨ ∃ b, v1.ownBlock = some b ∧ W.heap.size ≤ b := by
        rcases hat with hat | hat
        · exact .inl hat
        · exact .inr ⟨_, hat, Nat.le_refl _⟩
      have hne : ∀ k, some k ≠ v.ownBlock → k < W.heap.size → some k ≠ v1.ownBlock := by
        intro k hk hlt
        rcases hat' with hat | ⟨b, hb, hle⟩
        · rw [hat]; exact hk
        · rw [hb]
          intro he
          injection he with he
          omega
      have step : ∀ {q : α} {c : List Value} {o : Nat → Prop}, d.M W base o q c → (∀ k, o k → ok k ∧ some k ≠ v.ownBlock) → d.M w1 base (fun k => ok k ∧ some k ≠ v1.ownBlock) q c := by
        intro q c o hq ho
        have h1 := d.M_move (w1 := w1) (fun k hk => hg.block k hk.2.2.1 (ho k hk.1).2) (d.M_bound hq)
        exact d.M_mono (fun k hk => ⟨(ho k hk.1).1, hne k (ho k hk.1).2 hk.2.2.1⟩) h1
      refine ⟨v1, w1, hrun, ⟨fun k hk => ?_, inner ++ news, by rw [List.length_append, hm]; exact h2, reps_append (hr.imp_ (fun _ _ hq => step hq (fun _ hk => hk))) (hnM.imp_ (fun _ _ hq => step hq hokp))⟩, hg, hat'⟩
      rcases hat' with hat | ⟨b, hb, hle⟩
      · exact hok k (hat ▸ hk)
      · rw [hb] at hk
        injection hk with hk
        exact hfresh k (by omega)
  obtain ⟨v1, w1, hr1, h1, hg, hat⟩ := hrun
  refine wpList_plain hgd fun K hK => ?_
  unfold Oper.wp execOp
  simp only [ho, resolve, invoke, builtin, Sem.run_bind, Sem.run_pure, Result.andThen_ok, List.map_toArray, List.map_cons, List.map_nil, hs, hx, hr1]
  exact hK _ _ (h v1 w1 h1 (HB.grown hg hbase (own_base hown)) hg hat)
end
end Kd
/-! ### 33. A store into a row of one's own, as_ an event: no go_simp -/
namespace Kd
section
variable {P : Program} {ops : Array Oper} {rest : List Oper} {o : Oper} {a : Act} {Q : Exit → Act → World → Prop} {α : Type}
end
end Kd
/-! ### 34. Cuts that are only read, of any row -/
namespace Kd
section
variable {α : Type} {k : Kd α} {w : World} {A : Option Addr} {xs : List α} {m c : Nat}
end
end Kd
section
variable {P : Program}
end
/-! ### 35. string(b), b read (a cut too) -/
/-! ### 6. What the printer adds -/
namespace Kd
section
variable {α β : Type} {d : Kd α} {d' : Kd β} {e e' base base' n : Nat} {ok ok' : Nat → Prop} {w W w1 W1 : World} {v u : Value} {xs : List α} {ys : List β} {A : Option Addr} {c : Nat}
end
section
variable {α : Type} {enc : α → Value} {h1 : ∀ x, (enc x).oneCell' = true} {w W : World} {A : Option Addr} {n g : Nat} {xs : List α}
end
end Kd
namespace Kd
section
variable {α : Type} {d : Kd α} {e base g : Nat} {ok : Nat → Prop} {w w1 : World} {v : Value} {xs : List α} {o : Obj}
end
end Kd
section
variable {P : Program} {ops : Array Oper} {rest : List Oper} {o : Oper} {a : Act} {Q : Exit → Act → World → Prop}
end
namespace Kd
section
variable {α : Type} {enc : α → Value} {h1 : ∀ x, (enc x).oneCell' = true} {e base g n cap : Nat} {ok : Nat → Prop} {W : World} {xs : List α}
end
end Kd
section
variable {P : Program} {ops : Array Oper} {rest : List Oper} {o : Oper} {a : Act} {Q : Exit → Act → World → Prop}
end
namespace Kd
section
variable {α : Type} {enc : α → Value} {h1 : ∀ x, (enc x).oneCell' = true} {e base g n cap : Nat} {ok : Nat → Prop} {W : World} {xs : List α}
end
end Kd
section
variable {P : Program} {ops : Array Oper} {rest : List Oper} {o : Oper} {a : Act} {Q : Exit → Act → World → Prop} {W : World}
end
/-! ### 36. Events as_ one step of a region that draws (for one_, two_, three_) -/
section
variable {P : Program} {ops : Array Oper} {o : Oper} {a : Act} {Q : Exit → Act → World → Prop} {Kc : Act → World → Prop}
namespace Kd
variable {α : Type}
end Kd
end
/-! ### 37. Results of any shape -/
section
variable {P : Program} {tmps : Array Value} {w : World}
end
/-! ### 38. 'out = append(out[:k], out[k+1:]...)': an element taken out of a row of one's own, in place -/
namespace Kd
section
variable {P : Program} {α : Type}
end
section
variable {P : Program} {ops : Array Oper} {rest : List Oper} {o : Oper} {a : Act} {Q : Exit → Act → World → Prop} {Kc : Act → World → Prop} {α : Type}
end
end Kd

end Go.Proofs.YtlooelfkkbgmhaaDoorW.PrintWords

end
section
/-
  PRINTED WORDS, second file: A REGION THAT DRAWS ITS ORDER, WALKED BY HAND, where its last store writes what its own loads read ('x.f = append(x.f, f(i))'). Plain theorems; no macro, no elab. A claim may hold it (turn the namespace's name).
  A load may be taken first in every world that meets S; behind the operations of ds nothing is shown; sound because each of ds waits for what is taken (Region.lastB). The kernel checks it.
  By an AI agent of Go's test side, Mon Nov 16 2026. No person has read it.
-/
namespace Go.Proofs.YtlooelfkkbgmhaaDoorW.PrintLast

section
variable {P : Program} {ops : Array Oper} {Q : Exit → Act → World → Prop} {md : Region.Mode} {S : World → Prop} {ds : List Nat}

end

section
variable {P : Program} {ops : Array Oper} {Q : Exit → Act → World → Prop} {md : Region.Mode} {S : World → Prop} {ds : List Nat}

/-! ### Several operations that write or call may come up: each order is walked, what follows is shown once (join_) -/
end
end Go.Proofs.YtlooelfkkbgmhaaDoorW.PrintLast

end
section
/-! ### 56. Four, five, six operations that may come up next, in any order -/
namespace Go.Proofs.YtlooelfkkbgmhaaDoorW.PrintLast
section
variable {P : Program} {ops : Array Oper} {Q : Exit → Act → World → Prop} {md : Region.Mode} {S : World → Prop} {ds : List Nat} {T : Bool × List (List Nat × List Nat)}
end
end Go.Proofs.YtlooelfkkbgmhaaDoorW.PrintLast

end
section
/-! ### 39. Stores into a row that may begin inside its block (Q): Q_form, Q_elem, Q_seg; scalars: Q_cell, Q_putg -/
namespace Go.Proofs.YtlooelfkkbgmhaaDoorW.PrintWords
open Go.RowKit
namespace Kd
section
variable {α : Type} {d : Kd α} {e base g o n cap : Nat} {ok okp : Nat → Prop} {w W : World} {v : Value} {xs : List α}
end
section
variable {α : Type} {enc : α → Value} {h1 : ∀ x, (enc x).oneCell' = true} {e base g o n cap : Nat} {ok : Nat → Prop} {W : World} {xs : List α}
end
end Kd
end Go.Proofs.YtlooelfkkbgmhaaDoorW.PrintWords

end
section
/-! ### 40. Elements whose inner rows lie apart: what is stored into one says nothing of the others.
   S: as R, with an owner function f (block to element's index). H: as S with a hole: of element i its cells alone are told, its blocks are oki. -/
namespace Go.Proofs.YtlooelfkkbgmhaaDoorW.PrintWords
open Go.RowKit
namespace Kd
section
variable {α β : Type} {d : Kd α} {d' : Kd β} {e e' : Nat} {w w1 W : World} {base b : Nat} {ok ok' okv oku : Nat → Prop} {u v : Value} {xs : List α} {ys : List β}
theorem zip_at {xs : List α} {j : Nat} {p : α} (h : xs[j]? = some p) : xs.zipIdx[j]? = some (p, j) := by rw [List.getElem?_zipIdx, h, Nat.zero_add]; rfl
theorem S_R (h : S d e w base ok v xs) : d.R e w base ok v xs := by
  obtain ⟨f, h0, inner, ho, hr⟩ := h
  rw [List.length_zipIdx] at ho
  exact ⟨h0, inner, ho, by have := hr.1; rw [List.length_zipIdx] at this; exact this, fun j p hj => d.M_mono (fun _ hk => hk.1) (hr.2 j (p, j) (zip_at hj))⟩
theorem S_mono (h : S d e w base ok v xs) (hok : ∀ k, ok k → ok' k) : S d e w base ok' v xs := by
  obtain ⟨f, h⟩ := h
  exact ⟨f, R_mono h hok⟩
theorem S_bound (h : S d e w base ok v xs) : S d e w base (fun k => ok k ∧ base ≤ k ∧ k < w.heap.size ∧ ∃ q, q ∈ e :: d.E ∧ ∃ cells, w.heap[k]? = some (.cells cells q (0, 0))) v xs := by
  obtain ⟨f, h⟩ := h
  exact ⟨f, R_bound h⟩
theorem S_move (h : S d e w base ok v xs) (hm : ∀ k, ok k → w1.heap[k]? = w.heap[k]?) : S d e w1 base ok v xs := by
  obtain ⟨f, h⟩ := h
  exact ⟨f, R_move h hm⟩
theorem S_step (h : S d e w base ok v xs) (hm : ∀ k, ok k → k < w.heap.size → w1.heap[k]? = w.heap[k]?) : S d e w1 base ok v xs :=
  S_mono (S_move (S_bound h) (fun k hk => hm k hk.1 hk.2.2.1)) (fun _ hk => hk.1)
theorem S_below (h : S d e w base ok v xs) (hb : Below w.heap.size w w1) : S d e w1 base ok v xs := S_step h (fun k _ hk => hb.block k hk)
theorem S_alloc (h : S d e w base ok v xs) (o : Obj) : S d e (w.alloc o) base ok v xs := S_below h (below_alloc (Below.refl _ _) o)
theorem S_drew (h : S d e w base ok v xs) : S d e w.drew base ok v xs := S_below h (below_drew (Below.refl _ _))
theorem S_drewN (h : S d e w base ok v xs) (m : Nat) : S d e (w.drewN m) base ok v xs := S_below h (pw_below_drewN (Below.refl _ _) m)
theorem S_typed (h : S d e w base ok v xs) : ∀ k, v.ownBlock = some k → ∃ cells, w.heap[k]? = some (.cells cells e (0, 0)) := R_typed (S_R h)
theorem S_base (h : S d e w base ok v xs) : ∀ k, v.ownBlock = some k → base ≤ k := R_base (S_R h)
theorem S_elder' (h : S d e W base ok u xs) (hbase : ∀ k, v.ownBlock = some k → W.heap.size ≤ k) (hb : Below W.heap.size W w1) : S d e w1 base (fun k => ok k ∧ some k ≠ v.ownBlock) u xs := by
  obtain ⟨f, h⟩ := h
  exact ⟨f, R_elder' h hbase hb⟩
/-- Behind an append to v (it left v1): what is held apart from v is held apart from v1. -/
theorem S_after {v1 : Value} (h : S d e W base (fun k => ok k ∧ some k ≠ v.ownBlock) u xs) (hg : W.grownBy w1 v.ownBlock) (hat : v1.ownBlock = v.ownBlock ∨ ∃ b, v1.ownBlock = some b ∧ W.heap.size ≤ b) : S d e w1 base (fun k => ok k ∧ some k ≠ v1.ownBlock) u xs := by
  obtain ⟨f, h⟩ := h
  exact ⟨f, R_after h hg hat⟩
/-- The owner may be told anew where nothing is said. -/
theorem R_tag {f f' : Nat → Nat} {zs : List (α × Nat)} (h : (tag f d).R e w base ok v zs) (hf : ∀ k, ok k → k < w.heap.size → f' k = f k) : (tag f' d).R e w base ok v zs := by
  obtain ⟨h0, inner, ho, hr⟩ := R_bound h
  exact ⟨fun k hk => (h0 k hk).1, inner, ho, hr.1, fun j p hj => d.M_mono (fun k hk => ⟨⟨hk.1.1.1, hk.1.2⟩, (hf k hk.1.1.1 hk.1.1.2.2.1).trans hk.2⟩) (hr.2 j p hj)⟩
end
section
variable {α β : Type} {d : Kd α} {d' : Kd β} {e e' g : Nat} {w w1 W : World} {base b : Nat} {ok ok' okv oku : Nat → Prop} {u v : Value} {xs : List α} {ys : List β}
theorem zip_snoc (xs : List α) (p : α) : (xs ++ [p]).zipIdx = xs.zipIdx ++ [(p, xs.length)] := by rw [List.zipIdx_append]; simp
end
/-! #### append, make, literals: the new element's blocks are none of the elder ones' -/
section
open Classical in
/-- The next element's blocks are okp: none is one of v's (okv). -/
theorem S_tag {α : Type} {d : Kd α} {e base : Nat} {okv : Nat → Prop} {w : World} {v : Value} {xs : List α} (h : S d e w base okv v xs) (m : Nat) (okp : Nat → Prop) (hap : ∀ k, okp k → ¬ okv k) : ∃ f, (∀ k, okp k → f k = m) ∧ (tag f d).R e w base okv v xs.zipIdx := by
  obtain ⟨f, h⟩ := h
  exact ⟨fun k => if okp k then m else f k, fun k hk => if_pos hk, R_tag h (fun k hk _ => if_neg (fun h2 => hap k h2 hk))⟩
variable {P : Program} {ops : Array Oper} {rest : List Oper} {o : Oper} {a : Act} {Q : Exit → Act → World → Prop} {Kc : Act → World → Prop} {α : Type}
/-- append(v, x), behind 'at_builtin': x's blocks are okp, none of them v's. -/
theorem S_append (d : Kd α) {w0 W : World} (base : Nat) (hgd : o.guard = none) (s x : Operand) (t e : TypeId) (z : Value) (bytes : Nat)
    (ho : o.op = .call { callee := .builtin .append, args := #[s, x], argTypes := #[t, t] })
    (ht : P.underlying t = some (.slice e)) (hinfo : (P.info? e).map (fun i => (i.zero, i.size, i.bytes)) = some (some z, d.sz, bytes)) (hz : z.cells.size = d.sz) (hs0 : 0 < d.sz) (hb0 : 0 < bytes)
    (v : Value) (xs : List α) (p : α) (cs : List Value) (ok okp : Nat → Prop) (hs : a.eval s = v) (hx : a.eval x = .slice (some ⟨W.heap.size, 0, none⟩) 1 1) (hp : d.M W base okp p cs) (hokp : ∀ k, okp k → ok k ∧ some k ≠ v.ownBlock) (hfresh : ∀ k, W.heap.size ≤ k → ok k)
    (HO : S d e W base (fun k => ok k ∧ ¬ okp k) v xs) (HB : Below base w0 W) (hbase : base ≤ W.heap.size) (hl : (xs.length + 1) * bytes ≤ 140737488355328)
    (h : ∀ v1 w1, S d e w1 base ok v1 (xs ++ [p]) → Below base w0 w1 → W.grownBy w1 v.ownBlock → (v1.ownBlock = v.ownBlock ∨ ∃ b, v1.ownBlock = some b ∧ W.heap.size ≤ b) → wpList P ops Q rest (a.put o.dst v1) w1) :
    wpList P ops Q (o :: rest) a (W.alloc (.cells cs.toArray e)) := by
  obtain ⟨f, hf, hR⟩ := S_tag HO xs.length okp (fun _ hk h2 => h2.2 hk)
  refine R_append (tag f d) base hgd s x t e z bytes ho ht hinfo hz hs0 hb0 v xs.zipIdx (p, xs.length) cs ok okp hs hx (d.M_mono (fun k hk => ⟨hk, hf k hk⟩) hp) hokp hfresh (R_mono hR (fun _ hk => hk.1)) HB hbase (by rw [List.length_zipIdx]; exact hl) ?_
  intro v1 w1 hr
  rw [← zip_snoc] at hr
  exact h v1 w1 ⟨f, hr⟩
end
/-! #### a row with a hole: element i is lent, its blocks are oki; of it the row says its cells alone -/
section
variable {α β : Type} {d : Kd α} {e e' g n cap : Nat} {w w1 W : World} {base : Nat} {ok ok' oki okp : Nat → Prop} {u v : Value} {xs : List α} {i : Int} {c : List Value}
open Classical in
end
section
variable {P : Program} {ops : Array Oper} {rest : List Oper} {o : Oper} {a : Act} {Q : Exit → Act → World → Prop} {α : Type}
end
end Kd
end Go.Proofs.YtlooelfkkbgmhaaDoorW.PrintWords

end
section
/-! ### 41. Arrays '[n]T' as_ values: a kind (a field, an element of a row), an element read, an element set -/
namespace Go.Proofs.YtlooelfkkbgmhaaDoorW.PrintWords
open Go.RowKit
namespace Kd
section
variable {α : Type} {n : Nat} {d : Kd α} {hs : 0 < d.sz} {w : World} {base : Nat} {ok : Nat → Prop} {xs : List α} {cs : List Value}
end
section
variable {α : Type} {n : Nat} {enc : α → Value} {h1 : ∀ x, (enc x).oneCell' = true} {hs : 0 < (scalar enc h1).sz} {w : World} {base : Nat} {ok : Nat → Prop} {xs : List α} {cs : List Value}
end
end Kd
end Go.Proofs.YtlooelfkkbgmhaaDoorW.PrintWords

end
section
/-! ### 42. append(v, make([]T, n)...): the operation comes as_ append with the number in the second place -/
namespace Go.Proofs.YtlooelfkkbgmhaaDoorW.PrintWords
open Go.RowKit
section
variable {P : Program}
end
namespace Kd
section
variable {P : Program} {ops : Array Oper} {rest : List Oper} {o : Oper} {a : Act} {Q : Exit → Act → World → Prop} {Kc : Act → World → Prop} {α : Type}
end
/-! #### the same for rows whose elements lie apart -/
section
variable {α : Type} {d : Kd α} {e : Nat} {w : World} {base : Nat} {ok : Nat → Prop} {v : Value} {xs : List α}
end
section
variable {P : Program} {ops : Array Oper} {rest : List Oper} {o : Oper} {a : Act} {Q : Exit → Act → World → Prop} {Kc : Act → World → Prop} {α : Type}
end
end Kd
end Go.Proofs.YtlooelfkkbgmhaaDoorW.PrintWords

end
section
/-! ### 43. What is read beside a state: it stays read whatever the state's calls turn ('∀ W', KeepBut w W' g none → d.C W' A n xs') -/
namespace Go.Proofs.YtlooelfkkbgmhaaDoorW.PrintWords
open Go.RowKit
namespace Kd
section
variable {α : Type} {d : Kd α} {e base g n c : Nat} {ok : Nat → Prop} {w w0 W : World} {A : Option Addr} {xs : List α}
end
end Kd
end Go.Proofs.YtlooelfkkbgmhaaDoorW.PrintWords

end
section
/-! ### 45. What a call keeps: all but the blocks of S (the rows that it was given to write) and what is new since -/
namespace Go.Proofs.YtlooelfkkbgmhaaDoorW.PrintWords
open Go.RowKit
section
variable {w W W2 : World} {S S2 S' : Nat → Prop}
end
namespace Kd
section
variable {α : Type} {d : Kd α} {e base n c : Nat} {ok oki S S2 : Nat → Prop} {w w0 W W1 W2 : World} {v : Value} {A : Option Addr} {xs : List α} {i : Int} {cs : List Value}
end
end Kd
end Go.Proofs.YtlooelfkkbgmhaaDoorW.PrintWords

end
section
/-! ### 46. Values that share: what is only read, with the blocks it lies in (its footprint 'ok'): Foot, F (a row that is read), FK (an element's cells) -/
namespace Go.Proofs.YtlooelfkkbgmhaaDoorW.PrintWords
open Go.RowKit
namespace Foot
variable {P Q : World → Prop} {W W1 : World} {ok ok' : Nat → Prop}
end Foot
namespace Kd
section
variable {α β : Type} {d : Kd α} {e base n n' cc g N : Nat} {ok ok' okp S : Nat → Prop} {w w0 w1 W W1 : World} {A A' : Option Addr} {u v v1 : Value} {xs : List α} {xs' : List β} {d' : Kd β} {x : α} {c : List Value}
/-- A block that is emptied reads no more. -/
theorem emptied (W : World) (g : Nat) : ∃ W' : World, (∀ k, k ≠ g → W'.heap[k]? = W.heap[k]?) ∧ ∀ a : Addr, a.block = g → W'.cell? a = none := by
  refine ⟨{ W with heap := W.heap.setIfInBounds g (.cells #[] 0) }, fun k hk => by simp [Ne.symm hk], fun a ha => ?_⟩
  subst ha
  by_cases hlt : a.block < W.heap.size
  · simp [World.cell?, hlt]
  · simp [World.cell?, hlt]
end
end Kd
end Go.Proofs.YtlooelfkkbgmhaaDoorW.PrintWords

end
section
/-! ### 47. N: a row of the call's own whose elements share (what they lead to is only read) -/
namespace Go.Proofs.YtlooelfkkbgmhaaDoorW.PrintWords
open Go.RowKit
namespace Kd
section
variable {α : Type} {d : Kd α} {e base n cc g : Nat} {ok ok' okp S : Nat → Prop} {w w1 W W1 : World} {A : Option Addr} {u v v1 : Value} {xs : List α} {x : α} {c : List Value}
/-- Element i of a row that is read: its cells, and what they lead to, in ok. -/
theorem F_get (h : F d W ok A n xs) (z : α) (i : Int) (h0 : 0 ≤ i) (h1 : i < n) :
    ∃ ad c, A = some ad ∧ c.length = d.sz ∧ FK d W ok (xs.getD i.toNat z) c ∧ (∀ j u, c[j]? = some u → W.cell? (ad.add (i.toNat * d.sz + j)) = some u) ∧ (0 < d.sz → ok ad.block) := by
  obtain ⟨ad, c, rfl, hcl, hK, hcc⟩ := C_get (F_now h) z i h0 h1
  have hin : 0 < d.sz → ok ad.block := by
    intro hs
    by_cases hk : ok ad.block
    · exact hk
    · obtain ⟨W', h2, h3⟩ := emptied W ad.block
      obtain ⟨ad', c', he, hcl', _, hcc'⟩ := C_get (h W' (fun k hk' _ => h2 k (fun e => hk (e ▸ hk')))) z i h0 h1
      injection he with he
      subst he
      have h4 := hcc' 0 _ (List.getElem?_eq_getElem (by omega))
      rw [h3 _ (add_block _ _)] at h4
      cases h4
  refine ⟨ad, c, rfl, hcl, fun W' hW => ?_, hcc, hin⟩
  obtain ⟨ad', c', he, hcl', hK', hcc'⟩ := C_get (h W' hW) z i h0 h1
  injection he with he
  subst he
  have hc : c = c' := by
    apply List.ext_getElem?
    intro j
    by_cases hj : j < d.sz
    · have hb : W'.heap[ad.block]? = W.heap[ad.block]? := by
        have h5 := hcc j _ (List.getElem?_eq_getElem (by omega))
        have h6 := World.block_lt_of_cell? W _ h5
        rw [add_block] at h6
        exact hW _ (hin (by omega)) h6
      have h5 := hcc j _ (List.getElem?_eq_getElem (by omega))
      have h6 := hcc' j _ (List.getElem?_eq_getElem (by omega))
      have h7 : W'.cell? (ad.add (i.toNat * d.sz + j)) = W.cell? (ad.add (i.toNat * d.sz + j)) := by simp [World.cell?, add_block, hb]
      rw [h7, h5] at h6
      rw [List.getElem?_eq_getElem (by omega), List.getElem?_eq_getElem (by omega)]
      exact h6
    · rw [List.getElem?_eq_none (by omega), List.getElem?_eq_none (by omega)]
  rw [hc]
  exact hK'
/-- .. as_ a row of such elements. -/
theorem F_rows (h : F d W ok A n xs) : ReadsRow (fun x c => FK d W ok x c) d.sz W A n xs := by
  obtain ⟨hl, hm, hn⟩ := F_now h
  refine ⟨hl, hm, fun hp => ?_⟩
  obtain ⟨ad, rfl, _⟩ := hn hp
  refine ⟨ad, rfl, fun j p hj => ?_⟩
  obtain ⟨hjl, hjp⟩ := List.getElem?_eq_some_iff.1 hj
  obtain ⟨ad', c, he, hcl, hK, hcc, _⟩ := F_get h p (j : Int) (by omega) (by omega)
  injection he with he
  subst he
  simp only [Int.toNat_natCast] at hK hcc
  rw [List.getD_eq_getElem?_getD, hj] at hK
  exact ⟨c, hcl, hK, hcc⟩
theorem S_N (h : Kd.S d e w base ok v xs) : N d e w base ok v xs := R_N (S_R h)
theorem N_after (h : N d e W base (fun k => ok k ∧ some k ≠ u.ownBlock) v xs) {u1 : Value} (hg : W.grownBy w1 u.ownBlock) (hat : u1.ownBlock = u.ownBlock ∨ ∃ b, u1.ownBlock = some b ∧ W.heap.size ≤ b) : N d e w1 base (fun k => ok k ∧ some k ≠ u1.ownBlock) v xs := by
  refine N_mono (N_step (N_bound h) (fun k hk hlt => hg.block k hlt hk.1.2)) (fun k hk => ⟨hk.1.1, ?_⟩)
  rcases hat with hat | ⟨b, hb, hle⟩
  · rw [hat]; exact hk.1.2
  · rw [hb]
    intro he
    injection he with he
    have := hk.2
    omega
theorem N_F {n : Nat} (h : N d e w base ok (.slice A n cc) xs) : F d w ok A n xs := fun W' hW => by
  have h2 := N_reads' (N_step h hW)
  rw [h2.1]
  exact h2.2.2
end
end Kd
end Go.Proofs.YtlooelfkkbgmhaaDoorW.PrintWords

end
section
/-! ### 52. A row that stays read whatever happens to a block (a set of blocks) doesn't lie there -/
namespace Go.Proofs.YtlooelfkkbgmhaaDoorW.PrintWords
open Go.RowKit
namespace Kd
section
variable {α : Type} {d : Kd α} {W : World} {g n : Nat} {S ok : Nat → Prop} {A : Option Addr} {ad : Addr} {xs : List α}
end
end Kd
end Go.Proofs.YtlooelfkkbgmhaaDoorW.PrintWords

end
section
/-! ### 54. Behind orders that were drawn quietly: the same facts at the world's new name; a flat row's foot -/
namespace Go.Proofs.YtlooelfkkbgmhaaDoorW.PrintWords
open Go.RowKit
section
variable {w w' u : World} {m B g : Nat} {o : Obj} {row : Option Nat} {S : Nat → Prop} {a : Addr} {v : Value}
end
namespace Kd
section
variable {α : Type} {d : Kd α} {e base n m : Nat} {ok : Nat → Prop} {w w' : World} {v : Value} {A : Option Addr} {xs : List α}
end
end Kd
end Go.Proofs.YtlooelfkkbgmhaaDoorW.PrintWords

end
section
/-! ### 57. A region of open order by ONE relation over what is listed so far: each operation is shown once, whatever came up before it -/
namespace Go.Proofs.YtlooelfkkbgmhaaDoorW.PrintLast
section
variable {P : Program} {ops : Array Oper} {Q : Exit → Act → World → Prop} {md : Region.Mode} {T : Bool × List (List Nat × List Nat)} {B : List Nat} {O : List Nat} {b : Nat → Bool} {i j n : Nat}
/-! The frame: what is listed has its destination filled. -/
end
end Go.Proofs.YtlooelfkkbgmhaaDoorW.PrintLast

end
section
namespace Go.Proofs.YtlooelfkkbgmhaaDoorW.PrintWords
open Go.RowKit
end Go.Proofs.YtlooelfkkbgmhaaDoorW.PrintWords
namespace Go.Proofs.YtlooelfkkbgmhaaDoorW.PrintLast
section
variable {ops : Array Oper} {a : Act} {o og : Oper} {g : Nat} {t : Tmp} {u : Bool}
end
end Go.Proofs.YtlooelfkkbgmhaaDoorW.PrintLast

end
section
/-! ### 48. N's events: append, a whole row appended, zeros appended, literals, make, stores, cuts, an element taken out -/
namespace Go.Proofs.YtlooelfkkbgmhaaDoorW.PrintWords
open Go.RowKit
namespace Kd
section
variable {α : Type} {d : Kd α} {e base n cap g : Nat} {ok ok' okp : Nat → Prop} {w w1 W : World} {v v1 : Value} {xs ys : List α}
/-- What is read as_ a row, as_ rows of cells. -/
theorem reads_raw {Rr : α → List Value → Prop} {sz m : Nat} {A : Option Addr} (h : ReadsRow Rr sz W A m ys) (hR : ∀ x c, Rr x c → c.length = sz ∧ ∀ u ∈ c, u.oneCell' = true) :
    ∃ news : List (List Value), news.length = ys.length ∧ ReadsRow (fun x cs => cs = x ∧ cs.length = sz ∧ ∀ u ∈ cs, u.oneCell' = true) sz W A m news ∧ ∀ (j : Nat) (x : α) (c : List Value), ys[j]? = some x → news[j]? = some c → Rr x c := by
  rcases Nat.eq_zero_or_pos m with h0 | hp
  · have hy : ys = [] := List.eq_nil_of_length_eq_zero (h.1.trans h0)
    subst hy
    exact ⟨[], rfl, ⟨h0 ▸ rfl, h.2.1, fun hp => by omega⟩, fun j x c hx => by simp at hx⟩
  · obtain ⟨ad, rfl, _⟩ := h.2.2 hp
    obtain ⟨inner, hr, hc⟩ := ReadsRow.inner_ h
    refine ⟨chunks sz ys.length inner, chunks_length _ _ _, ⟨by rw [chunks_length]; exact h.1, h.2.1, fun _ => ⟨ad, rfl, fun j p hj => ?_⟩⟩, fun j x c hx hcc => ?_⟩
    · have hjl : j < ys.length := by have := (List.getElem?_eq_some_iff.1 hj).1; rwa [chunks_length] at this
      have hpe := chunks_get hj
      have hq := hR _ _ (hr.2 j _ (List.getElem?_eq_getElem hjl))
      rw [← hpe] at hq
      refine ⟨p, hq.1, ⟨rfl, hq⟩, fun i u hu => ?_⟩
      have hu2 : inner[j * sz + i]? = some u := by
        rw [hpe, List.getElem?_take] at hu
        split at hu
        · rw [List.getElem?_drop] at hu
          exact hu
        · cases hu
      exact hc _ u hu2
    · rw [chunks_get hcc]
      exact hr.2 j x hx
end
section
variable {P : Program} {ops : Array Oper} {rest : List Oper} {o : Oper} {a : Act} {Q : Exit → Act → World → Prop} {Kc : Act → World → Prop} {α : Type}
/-- append(v, ys...): ys is read (F). -/
theorem N_append_rows (d : Kd α) {w0 W : World} (base : Nat) (hgd : o.guard = none) (s x : Operand) (t e : TypeId) (z : Value) (bytes : Nat)
    (ho : o.op = .call { callee := .builtin .append, args := #[s, x], argTypes := #[t, t] })
    (ht : P.underlying t = some (.slice e)) (hinfo : (P.info? e).map (fun i => (i.zero, i.size, i.bytes)) = some (some z, d.sz, bytes)) (hz : z.cells.size = d.sz) (hs0 : 0 < d.sz) (hb0 : 0 < bytes)
    (v : Value) (xs ys : List α) (A : Option Addr) (m c : Nat) (ok okp : Nat → Prop) (hs : a.eval s = v) (hx : a.eval x = .slice A m c)
    (HO : N d e W base ok v xs) (HR : F d W okp A m ys) (hokp : ∀ k, okp k → ok k ∧ some k ≠ v.ownBlock) (hfresh : ∀ k, W.heap.size ≤ k → ok k)
    (HB : Below base w0 W) (hbase : base ≤ W.heap.size) (hl : (xs.length + m) * bytes ≤ 140737488355328)
    (h : ∀ v1 w1, N d e w1 base ok v1 (xs ++ ys) → Below base w0 w1 → W.grownBy w1 v.ownBlock → (v1.ownBlock = v.ownBlock ∨ ∃ b, v1.ownBlock = some b ∧ W.heap.size ≤ b) → wpList P ops Q rest (a.put o.dst v1) w1) :
    wpList P ops Q (o :: rest) a W := by
  obtain ⟨h0, rows, hlr, hR, hf⟩ := HO
  obtain ⟨news, hnl, hnr, hnf⟩ := reads_raw (F_rows HR) (fun y c hk => ⟨d.K_len (FK_now hk), d.K_one (FK_now hk)⟩)
  refine R_append_rows (raw d.sz) base hgd s x t e z bytes ho ht hinfo hz hs0 hb0 v rows news A m c (fun _ => True) (fun _ => False) hs hx (raw_any hR) hnr (fun _ _ hk => hk) (fun _ hk => hk.elim) (fun _ _ => trivial) HB hbase (by rw [hlr]; exact hl) ?_
  intro v1 w1 hr hb hg hat
  exact h v1 w1 (N_appended h0 hlr hf hnl hnf hokp hfresh hr hg hat) hb hg hat
end
end Kd
end Go.Proofs.YtlooelfkkbgmhaaDoorW.PrintWords

end
section
/-! ### 50. A region's order in a table, made once a region: each step asks the table (numbers alone), not the operations -/
namespace Go.Proofs.YtlooelfkkbgmhaaDoorW.PrintLast
open Go.Proofs.YtlooelfkkbgmhaaDoorW.PrintWords (Aside0)
section
variable {md : Region.Mode} {ops : Array Oper} {T : Bool × List (List Nat × List Nat)} {l l' li lj lk : Array Bool} {ds : List Nat} {i j k : Nat}
end
end Go.Proofs.YtlooelfkkbgmhaaDoorW.PrintLast

end
section
/-! ### 58. A guarded operation whose guard is known to want it: the same goal without the guard -/
namespace Go.Proofs.YtlooelfkkbgmhaaDoorW.PrintWords
open Go.RowKit
section
variable {P : Program} {ops : Array Oper} {rest : List Oper} {o : Oper} {a : Act} {Q : Exit → Act → World → Prop} {W : World}
end
end Go.Proofs.YtlooelfkkbgmhaaDoorW.PrintWords

end
section
/-! ### 55. Reps told from the front, no append: for rows of one-cell elements and of wider ones -/
namespace Go.Proofs.YtlooelfkkbgmhaaDoorW.PrintWords
end Go.Proofs.YtlooelfkkbgmhaaDoorW.PrintWords

end
section
/-! ### 53. '==' of structs as_ one Bool -/
namespace Go.Proofs.YtlooelfkkbgmhaaDoorW.PrintWords
open Go.RowKit
section
variable {P : Program} {d : Nat} {xs ys : Array Value} {f : Field} {fs : List Field} {a b : Value} {r s : Bool} {w : World}
end
end Go.Proofs.YtlooelfkkbgmhaaDoorW.PrintWords

end
section
-- PRINTED WORDS (module Derived/Print/More.lean): go-gate-2's additions: an AI agent of Go's test side, Tue Nov 17 2026; no person has read it. Lean checks it.
namespace Go.Proofs.YtlooelfkkbgmhaaDoorW.PrintMore
open Go.RowKit Go.Proofs.YtlooelfkkbgmhaaDoorW.PrintWords
namespace Kd
open Go.Proofs.YtlooelfkkbgmhaaDoorW.PrintWords.Kd
end Kd

namespace Kd
open Go.Proofs.YtlooelfkkbgmhaaDoorW.PrintWords.Kd
section
variable {α : Type} {d : Kd α} {e base g N : Nat} {ok : Nat → Prop} {W w1 : World} {u v : Value} {xs : List α}
end
end Kd
end Go.Proofs.YtlooelfkkbgmhaaDoorW.PrintMore
namespace Go.Proofs.YtlooelfkkbgmhaaDoorW.PrintWords
open Go.RowKit
section
variable {P : Program} {ops : Array Oper} {rest : List Oper} {o : Oper} {a : Act} {Q : Exit → Act → World → Prop} {W : World}
end
namespace Kd
section
variable {α : Type} {d : Kd α} {e base : Nat} {ok : Nat → Prop} {W w1 : World} {v : Value} {xs : List α}
end
section
variable {α : Type} {d : Kd α} {e base g n cap : Nat} {ok oki okp : Nat → Prop} {W : World} {xs : List α} {i : Int} {c : List Value}
end
section
variable {α : Type} {d : Kd α} {e base b b' g N : Nat} {ok ok1 : Nat → Prop} {W W2 w1 : World} {u v : Value} {xs ys : List α} {S : Nat → Prop}
end
end Kd
end Go.Proofs.YtlooelfkkbgmhaaDoorW.PrintWords
namespace Go.Proofs.YtlooelfkkbgmhaaDoorW.PrintWords
open Go.RowKit
namespace Kd
section
variable {α β : Type} {d : Kd α} {e base base' n m c g N' lo hi : Nat} {ok ok' S : Nat → Prop} {w W w1 : World} {A : Option Addr} {ad : Addr} {u v v1 : Value} {xs : List α}
theorem N_afterv (h : N d e W base (fun k => ok k ∧ some k ≠ v.ownBlock) u xs) (hg : W.grownBy w1 v.ownBlock) (hat : v1.ownBlock = v.ownBlock ∨ ∃ b, v1.ownBlock = some b ∧ W.heap.size ≤ b) : N d e w1 base (fun k => ok k ∧ some k ≠ v1.ownBlock) u xs := N_after h hg hat
end
end Kd
end Go.Proofs.YtlooelfkkbgmhaaDoorW.PrintWords

end
