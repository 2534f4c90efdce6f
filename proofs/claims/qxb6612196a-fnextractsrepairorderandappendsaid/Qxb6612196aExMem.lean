/- MEMORY that 'ZZExtracts' builds: what it holds, and what each step does to it. No walk here. -/
import Derived.Test.Qxb6612196aExA
import Derived.Maps.AppendAt
import Derived.OneCell
import Derived.OwnWalk
namespace Go.Proofs.Qxb6612196a.Ex
open Go.RowKit ExPlain

/-! ### What comes in: rows of strings, rows of rows -/
def StrRow (w : World) (ao : Option Addr) (ss : List ByteArray) : Prop :=
  ∀ i (h : i < ss.length), ∃ b off, ao = some ⟨b, off, none⟩ ∧ w.cell? ⟨b, off + i, none⟩ = some (.string ss[i])
def RowRow (w : World) (ao : Option Addr) (rs : List (List ByteArray)) : Prop :=
  ∀ i (h : i < rs.length), ∃ b off ai ci, ao = some ⟨b, off, none⟩ ∧ w.cell? ⟨b, off + i, none⟩ = some (.slice ai rs[i].length ci) ∧ StrRow w ai rs[i] ∧ rs[i].length ≤ 1073741824
theorem StrRow.below {w w' : World} (hb : Below w.heap.size w w') {ao : Option Addr} {ss : List ByteArray} (h : StrRow w ao ss) : StrRow w' ao ss := fun i hi => by
  obtain ⟨b, off, h1, h2⟩ := h i hi
  exact ⟨b, off, h1, cell_below hb h2⟩
theorem RowRow.below {w w' : World} (hb : Below w.heap.size w w') {ao : Option Addr} {rs : List (List ByteArray)} (h : RowRow w ao rs) : RowRow w' ao rs := fun i hi => by
  obtain ⟨b, off, ai, ci, h1, h2, h3, h4⟩ := h i hi
  exact ⟨b, off, ai, ci, h1, cell_below hb h2, h3.below hb, h4⟩

/-! ### One meta line being built -/
abbrev ptrTo (e : Nat) : Value := .pointer (some ⟨e, 0, none⟩)
abbrev exprCells (nm : ByteArray) (v : Value) : Array Value := #[.string nm, .pointer none, .int .i64 0, .int .i64 0, .int .u64 0, v, .int .i64 0, .slice none 0 0]
theorem expr_cells {w : World} {b : Nat} {nm : ByteArray} {v : Value} {t : TypeId} (h : w.heap[b]? = some (.cells (exprCells nm v) t (0, 0))) :
    w.cell? ⟨b, 0, none⟩ = some (.string nm) ∧ w.cell? ⟨b, 5, none⟩ = some v ∧ w.frozen? ⟨b, 5, none⟩ = false := by simp [World.cell?, World.frozen?, h]
theorem expr_set {w : World} {b : Nat} {nm : ByteArray} {v u : Value} {t : TypeId} (h : w.heap[b]? = some (.cells (exprCells nm v) t (0, 0))) :
    (w.setCell ⟨b, 5, none⟩ u).heap[b]? = some (.cells (exprCells nm u) t (0, 0)) := by
  have hlt := lt_of_block h
  have h' : w.heap[b] = .cells (exprCells nm v) t (0, 0) := by simpa [Array.getElem?_eq_getElem hlt] using h
  show (w.heap.modify b _)[b]? = _
  rw [Array.getElem?_eq_getElem (by simpa using hlt), Array.getElem_modify_self, h']
  rfl

structure ArgsB (w : World) (M : Nat) (nm : ByteArray) (v : Value) (ol : List ByteArray) (es : List Nat) : Prop where
  blk : w.heap[M]? = some (.cells (exprCells nm v) 40 (0, 0))
  own : w.ownsRow (M + 1) 33 1 v ol.length (es.map ptrTo)
  len : es.length = ol.length
  each : ∀ i (h : i < ol.length), ∃ e, es[i]? = some e ∧ M + 1 ≤ e ∧ some e ≠ v.ownBlock ∧ w.cell? ⟨e, 0, none⟩ = some (.string ol[i])

theorem argsB_start (w : World) (nm : ByteArray) : ArgsB (w.alloc (.cells (exprCells nm (.slice none 0 0)) 40)) w.heap.size nm (.slice none 0 0) [] [] :=
  ⟨heap_alloc_new w _, World.ownsRow_nil _ _ _ _, rfl, fun i h => absurd h (by simp)⟩

theorem argsB_step {w w2 : World} {M : Nat} {nm a : ByteArray} {v v' : Value} {ol : List ByteArray} {es : List Nat} (h : ArgsB w M nm v ol es)
    (hown : w2.ownsRow (M + 1) 33 1 v' (ol.length + 1) (es.map ptrTo ++ [ptrTo w.heap.size]))
    (hg : ((w.alloc (.cells (exprCells a (.slice none 0 0)) 40)).alloc (.cells #[ptrTo w.heap.size] 33)).grownBy w2 v.ownBlock)
    (hat : v'.ownBlock = v.ownBlock ∨ v'.ownBlock = some (w.heap.size + 1 + 1)) :
    ArgsB (w2.setCell ⟨M, 5, none⟩ v') M nm v' (ol ++ [a]) (es ++ [w.heap.size]) ∧ Below M w (w2.setCell ⟨M, 5, none⟩ v') ∧ w2.heap[M]? = some (.cells (exprCells nm v) 40 (0, 0)) := by
  have hM := lt_of_block h.blk
  have hlo : ∀ k, v.ownBlock = some k → M + 1 ≤ k ∧ k < w.heap.size := h.own.lt
  have keep : ∀ k, k < w.heap.size → some k ≠ v.ownBlock → w2.heap[k]? = w.heap[k]? := fun k hk hne => by
    rw [hg.block k (by simp; omega) hne, Below.heap_alloc _ _ _ (by simp; omega), Below.heap_alloc _ _ _ hk]
  have hblk : w2.heap[M]? = some (.cells (exprCells nm v) 40 (0, 0)) := by
    rw [keep M hM (fun e => by have := (hlo M e.symm).1; omega)]; exact h.blk
  have hne' : ∀ k, k ≤ w.heap.size → some k ≠ v.ownBlock → some k ≠ v'.ownBlock := by
    intro k hk hne
    rcases hat with e | e
    · rw [e]; exact hne
    · rw [e]; simp; omega
  have hnew : w2.cell? ⟨w.heap.size, 0, none⟩ = some (.string a) := by
    have hne : some w.heap.size ≠ v.ownBlock := fun e => by have := (hlo _ e.symm).2; omega
    refine hg.cell (a := ⟨w.heap.size, 0, none⟩) ?_ hne
    have h2 : (w.alloc (.cells (exprCells a (.slice none 0 0)) 40)).cell? ⟨w.heap.size, 0, none⟩ = some (.string a) := (expr_cells (heap_alloc_new w _)).1
    exact ((Below.refl _ _).alloc (Nat.le_refl _) _ : Below (w.alloc (.cells (exprCells a (.slice none 0 0)) 40)).heap.size _ _) |>.cell (World.block_lt_of_cell? _ _ h2) |>.trans h2
  have hcs : ∀ e, e ≠ M → (w2.setCell ⟨M, 5, none⟩ v').cell? ⟨e, 0, none⟩ = w2.cell? ⟨e, 0, none⟩ := fun e he => World.cell?_of_block (Below.heap_setCell _ _ _ _ (by simpa using he))
  refine ⟨⟨expr_set hblk, ?_, by simp [h.len], ?_⟩, ?_, hblk⟩
  · have := ownsRow_setCell_below hown (a := ⟨M, 5, none⟩) (by simp) v'
    simpa using this
  · intro i hi
    by_cases hlt : i < ol.length
    · obtain ⟨e, h1, h2, h3, h4⟩ := h.each i hlt
      have he := World.block_lt_of_cell? _ _ h4
      refine ⟨e, ?_, h2, hne' e (Nat.le_of_lt he) h3, ?_⟩
      · rw [List.getElem?_append_left (by rw [h.len]; exact hlt)]; exact h1
      · rw [hcs e (by omega), World.cell?_of_block (keep e he h3), List.getElem_append_left hlt]; exact h4
    · have hi' : i = ol.length := by simp at hi; omega
      subst hi'
      refine ⟨w.heap.size, ?_, by omega, hne' _ (Nat.le_refl _) (fun e => by have := (hlo _ e.symm).2; omega), ?_⟩
      · rw [List.getElem?_append_right (by rw [h.len]; exact Nat.le_refl _), h.len]; simp
      · rw [hcs _ (by omega), hnew]; simp
  · refine ((((Below.refl M w).alloc (by omega) _).alloc (by simp; omega) _).grown hg (by simp; omega) (fun k hk => by have := (hlo k hk).1; omega)).setCell (Nat.le_refl _) _

/-! ### A meta line that stands, its blocks outside a set A -/
def MetaA (w : World) (A : Nat → Prop) (p : Nat) (nm : ByteArray) (ol : List ByteArray) : Prop :=
  ¬ A p ∧ w.cell? ⟨p, 0, none⟩ = some (.string nm) ∧ ∃ ao cap, w.cell? ⟨p, 5, none⟩ = some (.slice ao ol.length cap) ∧ ol.length ≤ 1099511627776 ∧
    ∀ i (h : i < ol.length), ∃ g e, ao = some ⟨g, 0, none⟩ ∧ ¬ A g ∧ w.cell? ⟨g, i, none⟩ = some (ptrTo e) ∧ ¬ A e ∧ w.cell? ⟨e, 0, none⟩ = some (.string ol[i])

theorem MetaA.keep {w w' : World} {A A' : Nat → Prop} {p : Nat} {nm : ByteArray} {ol : List ByteArray} (h : MetaA w A p nm ol)
    (hk : ∀ k, k < w.heap.size → ¬ A k → w'.heap[k]? = w.heap[k]? ∧ ¬ A' k) : MetaA w' A' p nm ol := by
  have hc : ∀ (a : Addr) (v : Value), w.cell? a = some v → ¬ A a.block → w'.cell? a = some v ∧ ¬ A' a.block := fun a v h1 h2 =>
    ⟨(World.cell?_of_block (hk a.block (World.block_lt_of_cell? _ _ h1) h2).1).trans h1, (hk a.block (World.block_lt_of_cell? _ _ h1) h2).2⟩
  obtain ⟨h1, h2, ao, cap, h3, h4, h5⟩ := h
  refine ⟨(hc _ _ h2 h1).2, (hc _ _ h2 h1).1, ao, cap, (hc _ _ h3 h1).1, h4, fun i hi => ?_⟩
  obtain ⟨g, e, g1, g2, g3, g4, g5⟩ := h5 i hi
  exact ⟨g, e, g1, (hc _ _ g3 g2).2, (hc _ _ g3 g2).1, (hc _ _ g5 g4).2, (hc _ _ g5 g4).1⟩
theorem MetaA.is {w : World} {A : Nat → Prop} {p : Nat} {nm : ByteArray} {ol : List ByteArray} (h : MetaA w A p nm ol) : MetaIs w p nm ol := by
  obtain ⟨_, h2, ao, cap, h3, h4, h5⟩ := h
  refine ⟨h2, ao, cap, h3, fun i hi => ?_, h4⟩
  obtain ⟨g, e, g1, _, g3, _, g5⟩ := h5 i hi
  exact ⟨g, e, g1, g3, g5⟩

theorem metaA_of {w : World} {M : Nat} {nm : ByteArray} {v : Value} {ol : List ByteArray} {es : List Nat} (h : ArgsB w M nm v ol es) (A : Nat → Prop) (hA : ∀ k, M ≤ k → ¬ A k) (hl : ol.length ≤ 1073741824) : MetaA w A M nm ol := by
  obtain ⟨c0, c5, _⟩ := expr_cells h.blk
  rcases h.own.2 with ⟨rfl, hz⟩ | ⟨g, cap, cur, rfl, hg, _⟩
  · exact ⟨hA M (Nat.le_refl _), c0, none, 0, by rw [hz]; exact c5, by omega, fun i hi => absurd hi (by omega)⟩
  · refine ⟨hA M (Nat.le_refl _), c0, some ⟨g, 0, none⟩, cap, c5, by omega, fun i hi => ?_⟩
    obtain ⟨e, h1, h2, _, h4⟩ := h.each i hi
    refine ⟨g, e, rfl, hA g (by omega), ?_, hA e (by omega), h4⟩
    rw [h.own.cellAt i (by omega), List.getElem?_map, h1]
    rfl

/-! ### The meta lines so far -/
abbrev defCells (v : Value) : Array Value := #[.pointer none, .slice none 0 0, .slice none 0 0, .slice none 0 0, v]
theorem def_cells {w : World} {b : Nat} {v : Value} {t : TypeId} (h : w.heap[b]? = some (.cells (defCells v) t (0, 0))) :
    w.cell? ⟨b, 4, none⟩ = some v ∧ w.frozen? ⟨b, 4, none⟩ = false := by simp [World.cell?, World.frozen?, h]
theorem def_set {w : World} {b : Nat} {v u : Value} {t : TypeId} (h : w.heap[b]? = some (.cells (defCells v) t (0, 0))) :
    (w.setCell ⟨b, 4, none⟩ u).heap[b]? = some (.cells (defCells u) t (0, 0)) := by
  have hlt := lt_of_block h
  have h' : w.heap[b] = .cells (defCells v) t (0, 0) := by simpa [Array.getElem?_eq_getElem hlt] using h
  show (w.heap.modify b _)[b]? = _
  rw [Array.getElem?_eq_getElem (by simpa using hlt), Array.getElem_modify_self, h']
  rfl
def Off (D : Nat) (v : Value) (k : Nat) : Prop := k ≤ D ∨ some k = v.ownBlock

structure Built (w : World) (D : Nat) (v : Value) (ls : List Line) (ps : List Nat) : Prop where
  blk : w.heap[D]? = some (.cells (defCells v) 32 (0, 0))
  own : w.ownsRow (D + 1) 33 1 v ls.length (ps.map ptrTo)
  len : ps.length = ls.length
  each : ∀ i (h : i < ls.length), ∃ p, ps[i]? = some p ∧ MetaA w (Off D v) p ls[i].1 ls[i].2

theorem built_start (w : World) : Built (w.alloc (.cells (defCells (.slice none 0 0)) 32)) w.heap.size (.slice none 0 0) [] [] :=
  ⟨heap_alloc_new w _, World.ownsRow_nil _ _ _ _, rfl, fun i h => absurd h (by simp)⟩

theorem ownsRow_of_block {w w' : World} {base : Nat} {e : TypeId} {size : Nat} {v : Value} {n : Nat} {xs : List Value} (h : w.ownsRow base e size v n xs) (hb : ∀ k, k < w.heap.size → w'.heap[k]? = w.heap[k]?) : w'.ownsRow base e size v n xs := by
  obtain ⟨h1, h2⟩ := h
  refine ⟨h1, ?_⟩
  rcases h2 with h2 | ⟨g, cap, cur, hv, hg, hh, r⟩
  · exact .inl h2
  · exact .inr ⟨g, cap, cur, hv, hg, by rw [hb g (lt_of_block hh)]; exact hh, r⟩

theorem Built.below {w w' : World} {D : Nat} {v : Value} {ls : List Line} {ps : List Nat} (h : Built w D v ls ps) (hb : Below w.heap.size w w') : Built w' D v ls ps := by
  refine ⟨(hb.block D (lt_of_block h.blk)).trans h.blk, ownsRow_of_block h.own hb.block, h.len, fun i hi => ?_⟩
  obtain ⟨p, h1, h2⟩ := h.each i hi
  exact ⟨p, h1, h2.keep (fun k hk hA => ⟨hb.block k hk, hA⟩)⟩

theorem built_step {w w2 : World} {D M : Nat} {nm : ByteArray} {ol : List ByteArray} {v v' : Value} {ls : List Line} {ps : List Nat} (h : Built w D v ls ps) (hm : MetaA w (Off D v) M nm ol)
    (hown : w2.ownsRow (D + 1) 33 1 v' (ls.length + 1) (ps.map ptrTo ++ [ptrTo M])) (hg : (w.alloc (.cells #[ptrTo M] 33)).grownBy w2 v.ownBlock)
    (hat : v'.ownBlock = v.ownBlock ∨ v'.ownBlock = some (w.heap.size + 1)) :
    Built (w2.setCell ⟨D, 4, none⟩ v') D v' (ls ++ [(nm, ol)]) (ps ++ [M]) ∧ Below D w (w2.setCell ⟨D, 4, none⟩ v') ∧ w2.heap[D]? = some (.cells (defCells v) 32 (0, 0)) := by
  have hD := lt_of_block h.blk
  have hlo : ∀ k, v.ownBlock = some k → D + 1 ≤ k ∧ k < w.heap.size := h.own.lt
  have keep : ∀ k, k < w.heap.size → some k ≠ v.ownBlock → w2.heap[k]? = w.heap[k]? := fun k hk hne => by
    rw [hg.block k (by simp; omega) hne, Below.heap_alloc _ _ _ hk]
  have hblk : w2.heap[D]? = some (.cells (defCells v) 32 (0, 0)) := by
    rw [keep D hD (fun e => by have := (hlo D e.symm).1; omega)]; exact h.blk
  have hk : ∀ k, k < w.heap.size → ¬ Off D v k → (w2.setCell ⟨D, 4, none⟩ v').heap[k]? = w.heap[k]? ∧ ¬ Off D v' k := by
    intro k hk hA
    have hA1 : ¬ k ≤ D := fun h => hA (.inl h)
    have hA2 : some k ≠ v.ownBlock := fun h => hA (.inr h)
    refine ⟨by rw [Below.heap_setCell _ _ _ _ (by simp; omega)]; exact keep k hk hA2, fun hh => ?_⟩
    rcases hh with hh | hh
    · exact hA1 hh
    · rcases hat with e | e
      · rw [e] at hh; exact hA2 hh
      · rw [e] at hh; simp at hh; omega
  refine ⟨⟨def_set hblk, ?_, by simp [h.len], ?_⟩, ?_, hblk⟩
  · have := ownsRow_setCell_below hown (a := ⟨D, 4, none⟩) (by simp) v'
    simpa using this
  · intro i hi
    by_cases hlt : i < ls.length
    · obtain ⟨p, h1, h2⟩ := h.each i hlt
      refine ⟨p, by rw [List.getElem?_append_left (by rw [h.len]; exact hlt)]; exact h1, ?_⟩
      rw [List.getElem_append_left hlt]
      exact h2.keep hk
    · have hi' : i = ls.length := by simp at hi; omega
      subst hi'
      refine ⟨M, by rw [List.getElem?_append_right (by rw [h.len]; exact Nat.le_refl _), h.len]; simp, ?_⟩
      have e : (ls ++ [(nm, ol)])[ls.length] = (nm, ol) := by simp
      rw [e]
      exact hm.keep hk
  · exact (((Below.refl D w).alloc (by omega) _).grown hg (by simp; omega) (fun k hk => by have := (hlo k hk).1; omega)).setCell (Nat.le_refl _) _

theorem built_end {w : World} {D : Nat} {v : Value} {ls : List Line} {ps : List Nat} (h : Built w D v ls ps) : ∃ ao cap, w.cell? ⟨D, 4, none⟩ = some (.slice ao ls.length cap) ∧ MetasIs w ao ls := by
  have hc := (def_cells h.blk).1
  rcases h.own.2 with ⟨rfl, hz⟩ | ⟨g, cap, cur, rfl, hg, _⟩
  · exact ⟨none, 0, by rw [hz]; exact hc, fun i hi => absurd hi (by omega)⟩
  · refine ⟨some ⟨g, 0, none⟩, cap, hc, fun i hi => ?_⟩
    obtain ⟨p, h1, h2⟩ := h.each i hi
    refine ⟨g, p, rfl, ?_, h2.is⟩
    rw [h.own.cellAt i (by omega), List.getElem?_map, h1]
    rfl
end Go.Proofs.Qxb6612196a.Ex
