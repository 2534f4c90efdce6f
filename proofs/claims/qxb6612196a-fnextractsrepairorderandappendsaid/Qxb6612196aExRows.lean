/- THE ROWS that the law itself builds: what each step does to them. No walk here. -/
import Derived.Test.Qxb6612196aExMem
import Derived.Deep.OwnRows
namespace Go.Proofs.Qxb6612196a.Ex
open Go.RowKit ExPlain

def StrA (w : World) (A : Nat → Prop) (ao : Option Addr) (ss : List ByteArray) : Prop :=
  ∀ i (h : i < ss.length), ∃ b off, ao = some ⟨b, off, none⟩ ∧ ¬ A b ∧ w.cell? ⟨b, off + i, none⟩ = some (.string ss[i])
theorem StrA.keep {w w' : World} {A A' : Nat → Prop} {ao : Option Addr} {ss : List ByteArray} (h : StrA w A ao ss) (hk : ∀ k, k < w.heap.size → ¬ A k → w'.heap[k]? = w.heap[k]? ∧ ¬ A' k) : StrA w' A' ao ss := fun i hi => by
  obtain ⟨b, off, h1, h2, h3⟩ := h i hi
  have hb := World.block_lt_of_cell? _ _ h3
  exact ⟨b, off, h1, (hk b hb h2).2, (World.cell?_of_block (hk b hb h2).1).trans h3⟩
theorem StrA.row {w : World} {A : Nat → Prop} {ao : Option Addr} {ss : List ByteArray} (h : StrA w A ao ss) : StrRow w ao ss := fun i hi => by
  obtain ⟨b, off, h1, _, h3⟩ := h i hi
  exact ⟨b, off, h1, h3⟩
theorem StrRow.off {w : World} {A : Nat → Prop} {ao : Option Addr} {ss : List ByteArray} (h : StrRow w ao ss) (hA : ∀ k, k < w.heap.size → ¬ A k) : StrA w A ao ss := fun i hi => by
  obtain ⟨b, off, h1, h3⟩ := h i hi
  exact ⟨b, off, h1, hA b (World.block_lt_of_cell? _ _ h3), h3⟩

/-- a row of strings known by its index -/
theorem strRow_of_rowIs {w : World} {b n : Nat} {f : Nat → Value} {ss : List ByteArray} (h : w.rowIs b 9 n f) (hn : ss.length ≤ n) (hf : ∀ i (hi : i < ss.length), f i = .string ss[i]) : StrRow w (some ⟨b, 0, none⟩) ss := fun i hi =>
  ⟨b, 0, rfl, by rw [Nat.zero_add, h.cell (by omega), hf i hi]⟩
theorem rowRow_of_rowIs {w : World} {b n : Nat} {f : Nat → Value} {rs : List (List ByteArray)} (h : w.rowIs b 22 n f) (hn : rs.length ≤ n)
    (hf : ∀ i (hi : i < rs.length), ∃ ai ci, f i = .slice ai rs[i].length ci ∧ StrRow w ai rs[i] ∧ rs[i].length ≤ 1073741824) : RowRow w (some ⟨b, 0, none⟩) rs := fun i hi => by
  obtain ⟨ai, ci, h1, h2, h3⟩ := hf i hi
  exact ⟨b, 0, ai, ci, rfl, by rw [Nat.zero_add, h.cell (by omega), h1], h2, h3⟩

/-! ### The repaired lines, appended one by one: names in block R, options in block R + 1 -/
def OffR (R : Nat) (k : Nat) : Prop := k = R ∨ k = R + 1
structure Rep (w : World) (R n : Nat) (ls : List Line) (vs : List Value) : Prop where
  own1 : w.ownsRow R 9 1 (.slice (some ⟨R, 0, none⟩) ls.length n) ls.length (ls.map fun l => .string l.1)
  own2 : w.ownsRow R 22 1 (.slice (some ⟨R + 1, 0, none⟩) ls.length n) ls.length vs
  each : ∀ i (h : i < ls.length), ∃ ai ci, vs[i]? = some (.slice ai ls[i].2.length ci) ∧ StrA w (OffR R) ai ls[i].2 ∧ ls[i].2.length ≤ 1073741824

theorem rep_start (w : World) (n : Nat) (hn : n ≤ maxLen) : Rep ((w.alloc (.cells (madeCells #[.string ⟨#[]⟩] n) 9)).alloc (.cells (madeCells #[.slice none 0 0] n) 22)) w.heap.size n [] [] := by
  refine ⟨?_, ?_, fun i h => absurd h (by simp)⟩
  · exact (World.ownsRow_made w _ n (Nat.le_refl _) hn (by rw [size_madeCells]; omega)).alloc _
  · have e : (w.alloc (.cells (madeCells #[.string ⟨#[]⟩] n) 9)).heap.size = w.heap.size + 1 := by simp
    have h := World.ownsRow_made (e := 22) (size := 1) (base := w.heap.size) (w.alloc (.cells (madeCells #[.string ⟨#[]⟩] n) 9)) (madeCells #[.slice none 0 0] n) n (by rw [e]; omega) hn (by rw [size_madeCells]; omega)
    rw [e] at h
    exact h

theorem rep_lt {w : World} {R n : Nat} {ls : List Line} {vs : List Value} (h : Rep w R n ls vs) : R + 1 < w.heap.size := (h.own2.lt (R + 1) rfl).2

/-- the two appends of one round -/
theorem rep_step {w w1 w2 : World} {R n : Nat} {ls : List Line} {vs : List Value} {nm : ByteArray} {ol : List ByteArray} {ai : Option Addr} {ci : Nat} (h : Rep w R n ls vs)
    (ha : StrA w (OffR R) ai ol) (hl : ol.length ≤ 1073741824)
    (ho1 : w1.ownsRow R 9 1 (.slice (some ⟨R, 0, none⟩) (ls.length + 1) n) (ls.length + 1) ((ls.map fun l => Value.string l.1) ++ [.string nm])) (hg1 : (w.alloc (.cells #[.string nm] 9)).grownBy w1 (some R))
    (ho2 : w2.ownsRow R 22 1 (.slice (some ⟨R + 1, 0, none⟩) (ls.length + 1) n) (ls.length + 1) (vs ++ [.slice ai ol.length ci])) (hg2 : (w1.alloc (.cells #[.slice ai ol.length ci] 22)).grownBy w2 (some (R + 1))) :
    Rep w2 R n (ls ++ [(nm, ol)]) (vs ++ [.slice ai ol.length ci]) ∧ Below R w w2 := by
  have hR := rep_lt h
  have hs1 : w.heap.size + 1 ≤ w1.heap.size := by have := hg1.size; simpa using this
  have keep : ∀ k, k < w.heap.size → ¬ OffR R k → w2.heap[k]? = w.heap[k]? ∧ ¬ OffR R k := fun k hk hA => by
    have n1 : some k ≠ some R := fun e => hA (.inl (by simpa using e))
    have n2 : some k ≠ some (R + 1) := fun e => hA (.inr (by simpa using e))
    refine ⟨?_, hA⟩
    rw [hg2.block k (by simp; omega) n2, Below.heap_alloc _ _ _ (by omega), hg1.block k (by simp; omega) n1, Below.heap_alloc _ _ _ hk]
  have hlen2 : vs.length = ls.length := by have := h.own2.1; omega
  refine ⟨⟨?_, ?_, ?_⟩, ?_⟩
  · have h1 := (ho1.alloc (.cells #[.slice ai ol.length ci] 22)).kept hg2 (.inr (by simp [Value.ownBlock]))
    simpa using h1
  · simpa using ho2
  · intro i hi
    by_cases hlt : i < ls.length
    · obtain ⟨a2, c2, h1, h2, h3⟩ := h.each i hlt
      rw [List.getElem_append_left hlt, List.getElem?_append_left (by omega)]
      exact ⟨a2, c2, h1, h2.keep keep, h3⟩
    · have hi' : i = ls.length := by simp at hi; omega
      subst hi'
      have e : (ls ++ [(nm, ol)])[ls.length] = (nm, ol) := by simp
      rw [e]
      refine ⟨ai, ci, ?_, ha.keep keep, hl⟩
      rw [List.getElem?_append_right (by omega), hlen2]
      simp
  · exact ((((Below.refl R w).alloc (by omega) _).grown hg1 (by simp; omega) (fun k hk => by simp at hk; omega)).alloc (by omega) _).grown hg2 (by simp; omega) (fun k hk => by simp at hk; omega)

theorem Rep.below {w w' : World} {R n : Nat} {ls : List Line} {vs : List Value} (h : Rep w R n ls vs) (hb : Below w.heap.size w w') : Rep w' R n ls vs := by
  refine ⟨ownsRow_of_block h.own1 hb.block, ownsRow_of_block h.own2 hb.block, fun i hi => ?_⟩
  obtain ⟨ai, ci, h1, h2, h3⟩ := h.each i hi
  exact ⟨ai, ci, h1, h2.keep (fun k hk hA => ⟨hb.block k hk, hA⟩), h3⟩

theorem rep_rows {w : World} {R n : Nat} {ls : List Line} {vs : List Value} (h : Rep w R n ls vs) : StrRow w (some ⟨R, 0, none⟩) (ls.map (·.1)) ∧ RowRow w (some ⟨R + 1, 0, none⟩) (ls.map (·.2)) := by
  constructor
  · intro i hi
    simp only [List.length_map] at hi
    refine ⟨R, 0, rfl, ?_⟩
    rw [Nat.zero_add, h.own1.cellAt i (by omega)]
    simp [List.getElem?_eq_getElem hi]
  · intro i hi
    simp only [List.length_map] at hi
    obtain ⟨ai, ci, h1, h2, h3⟩ := h.each i hi
    refine ⟨R + 1, 0, ai, ci, rfl, ?_, ?_, ?_⟩
    · rw [Nat.zero_add, h.own2.cellAt i (by omega), h1]; simp
    · rw [List.getElem_map]; exact h2.row
    · rw [List.getElem_map]; exact h3
end Go.Proofs.Qxb6612196a.Ex
