/- WALKS of what the run writes: the log's closure, emit, zzHold, done, closeText. -/
import Derived.Test.Qxb6612221aClC
import Derived.Deep.RegionHeld3
import Derived.Deep.AppendLies
import Derived.Deep.DrawnRows
import Derived.Laws.EntriesVeiled
namespace Go.Proofs.Qxb6612221a.Cl
open Go.RowKit
attribute [local go_sem ↓] Go.wp_at_zero Go.wp_at_succ

/-- but for the blocks of A, the world is as it was -/
structure Kept (A : Nat → Prop) (w w' : World) : Prop where
  os : w'.os = w.os
  tape : w'.tape = w.tape
  output : w'.output = w.output
  size : w.heap.size ≤ w'.heap.size
  block : ∀ k, k < w.heap.size → ¬ A k → w'.heap[k]? = w.heap[k]?
theorem owns_far {w w' : World} {base : Nat} {e : TypeId} {size : Nat} {v : Value} {n : Nat} {xs : List Value} (ho : w.ownsRow base e size v n xs) (h : ∀ g, v.ownBlock = some g → w'.heap[g]? = w.heap[g]?) : w'.ownsRow base e size v n xs := by
  refine ⟨ho.1, ?_⟩
  rcases ho.2 with h0 | ⟨g, cap, cur, rfl, h1, h2, h3⟩
  · exact .inl h0
  · exact .inr ⟨g, cap, cur, rfl, h1, (h g rfl).trans h2, h3⟩
theorem set_far (w : World) (b o k : Nat) (v : Value) (h : k ≠ b) : (w.setCell ⟨b, o, none⟩ v).heap[k]? = w.heap[k]? := by
  simp [World.setCell, Array.getElem?_modify, Ne.symm h]
theorem set_same (w : World) (b o : Nat) (v : Value) (cs : Array Value) (t : TypeId) (fr : Nat × Nat) (h : w.heap[b]? = some (.cells cs t fr)) : (w.setCell ⟨b, o, none⟩ v).heap[b]? = some (.cells (cs.setIfInBounds o v) t fr) := by
  simp [World.setCell, Array.getElem?_modify, h]
theorem lt_of_look {w : World} {b : Nat} {o : Obj} (h : w.heap[b]? = some o) : b < w.heap.size := (Array.getElem?_eq_some_iff.1 h).1
theorem cell_look {w : World} {b k : Nat} {cs : Array Value} {t : TypeId} {fr : Nat × Nat} (h : w.heap[b]? = some (.cells cs t fr)) : w.cell? ⟨b, k, none⟩ = cs[k]? := by simp [World.cell?, h]
theorem frozen_look {w : World} {b k : Nat} {cs : Array Value} {t : TypeId} (h : w.heap[b]? = some (.cells cs t (0, 0))) : w.frozen? ⟨b, k, none⟩ = false := by simp [World.frozen?, h]
abbrev zItem : Value := .agg (itemCells eS eS eS eS)
theorem info85 : (Try.prog.info? 85).map (fun i => (i.zero, i.size, i.bytes)) = some (some (.agg (evCells eS 0 0 eS eS eS eS eS eS eS (.slice none 0 0) (.slice none 0 0) eS)), 24, 368) := by kernel_rfl
theorem typ_ne {w : World} {b : Nat} {cs : Array Value} {t : TypeId} {base : Nat} {e : TypeId} {size : Nat} {v : Value} {n : Nat} {xs : List Value} (hb : w.heap[b]? = some (.cells cs t (0, 0))) (ho : w.ownsRow base e size v n xs) (hne : t ≠ e) : v.ownBlock ≠ some b := by
  intro h
  rcases ho.2 with ⟨rfl, _⟩ | ⟨g, cap, cur, rfl, _, hg, _⟩
  · simp [Value.ownBlock] at h
  · have : g = b := by simpa [Value.ownBlock] using h
    subst this
    rw [hb] at hg
    simp at hg
    exact hne hg.2

theorem setCell_other (w : World) (b o b' o' : Nat) (v : Value) (h : b' ≠ b) : (w.setCell ⟨b, o, none⟩ v).cell? ⟨b', o', none⟩ = w.cell? ⟨b', o', none⟩ := by
  apply World.cell?_of_block
  simp [World.setCell, Array.getElem?_modify, Ne.symm h]
theorem alloc2_cell (w : World) (cs : Array Value) (t : TypeId) (o' : Obj) (k : Nat) : ((w.alloc (.cells cs t)).alloc o').cell? ⟨w.heap.size, k, none⟩ = cs[k]? := by
  have h : ((w.alloc (.cells cs t)).alloc o').heap[w.heap.size]? = some (.cells cs t (0, 0)) := by
    rw [heap_alloc_old _ _ (by simp)]
    exact heap_alloc_new w _
  simp [World.cell?, h]
theorem range_block {w : World} {b : Nat} {C : Array Value} {t : TypeId} {fr : Nat × Nat} (hb : w.heap[b]? = some (.cells C t fr)) : w.rangeAt b 0 C.toList := fun j v hv => by
  have h := World.news_of_block hb j v hv
  rw [Addr.add_mid] at h
  exact h
theorem alloc2_old (w : World) (o o' : Obj) : ((w.alloc o).alloc o').heap[w.heap.size]? = some o := (heap_alloc_old _ _ (by simp)).trans (heap_alloc_new w _)
theorem alloc2_new (w : World) (o o' : Obj) : ((w.alloc o).alloc o').heap[w.heap.size + 1]? = some o' := by
  have h := heap_alloc_new (w.alloc o) o'
  rw [show (w.alloc o).heap.size = w.heap.size + 1 by simp] at h
  exact h
set_option maxRecDepth 100000 in
set_option maxHeartbeats 8000000 in
theorem clos_any (B0 pB lB n : Nat) (ty : ByteArray) (sq ox : Int) (it ii is ir iid p0 p1 : ByteArray) (a2 a3 : Option Addr) (l2 c2 l3 c3 : Nat) (tx : ByteArray) (vl : Value) (xs : List Value) (w : World)
    (hP : w.heap[pB]? = some (.cells #[.pointer (some ⟨lB, 0, none⟩)] 44 (0, 0))) (hL : w.heap[lB]? = some (.cells #[vl] 43 (0, 0))) (hB0 : B0 ≤ w.heap.size) (hown : w.ownsRow B0 85 24 vl n xs) (hn : n ≤ 3) :
    Calls Try.prog 30 #[.agg (evCells ty sq ox it ii is ir iid p0 p1 (.slice a2 l2 c2) (.slice a3 l3 c3) tx), .pointer (some ⟨pB, 0, none⟩)] w fun e w' => e = .returned (.tuple #[]) ∧ ∃ vl', w'.heap[lB]? = some (.cells #[vl'] 43 (0, 0)) ∧
      w'.ownsRow B0 85 24 vl' (n + 1) (xs ++ (evCells ty sq ox it ii is ir iid p0 p1 (.slice a2 l2 c2) (.slice a3 l3 c3) tx).toList) ∧ Kept (fun k => k = lB ∨ vl.ownBlock = some k) w w' := by
  have hp : w.cell? ⟨pB, 0, none⟩ = some (.pointer (some ⟨lB, 0, none⟩)) := cell_look hP
  have hl : w.cell? ⟨lB, 0, none⟩ = some vl := cell_look hL
  have hlf : w.frozen? ⟨lB, 0, none⟩ = false := frozen_look hL
  have ap := typ_ne hP hown (by decide)
  have al := typ_ne hL hown (by decide)
  have hpl : pB ≠ lB := fun h => by subst h; rw [hP] at hL; simp at hL
  obtain ⟨i0, hi0, hz0, hz1, hz2⟩ := info_parts info85
  have lp := World.block_lt_of_cell? w _ hp
  have ll := World.block_lt_of_cell? w _ hl
  have ae : vl.ownBlock ≠ some w.heap.size := fun h => by have := (hown.lt _ h).2; omega
  have hi85 : (Try.prog.info? 85).map (·.size) = some (evCells ty sq ox it ii is ir iid p0 p1 (.slice a2 l2 c2) (.slice a3 l3 c3) tx).toList.length := by rw [hi0]; simp [hz1]
  have hp0 : (w.alloc (.cells (evCells ty sq ox it ii is ir iid p0 p1 (.slice a2 l2 c2) (.slice a3 l3 c3) tx) 85)).drew.cell? ⟨pB, 0, none⟩ = some (.pointer (some ⟨lB, 0, none⟩)) := (((Below.refl _ _).alloc (Nat.le_refl _) _ : Below w.heap.size w (w.alloc _)).cell (p := ⟨pB, 0, none⟩) lp).trans hp
  have hl0 : (w.alloc (.cells (evCells ty sq ox it ii is ir iid p0 p1 (.slice a2 l2 c2) (.slice a3 l3 c3) tx) 85)).drew.cell? ⟨lB, 0, none⟩ = some vl := (((Below.refl _ _).alloc (Nat.le_refl _) _ : Below w.heap.size w (w.alloc _)).cell (p := ⟨lB, 0, none⟩) ll).trans hl
  have hr0 : (w.alloc (.cells (evCells ty sq ox it ii is ir iid p0 p1 (.slice a2 l2 c2) (.slice a3 l3 c3) tx) 85)).drew.rangeAt w.heap.size 0 (evCells ty sq ox it ii is ir iid p0 p1 (.slice a2 l2 c2) (.slice a3 l3 c3) tx).toList := range_block (w := (w.alloc _).drew) (heap_alloc_new w _)
  have hp00 : ∀ o, ((w.alloc (.cells (evCells ty sq ox it ii is ir iid p0 p1 (.slice a2 l2 c2) (.slice a3 l3 c3) tx) 85)).drew.alloc o).cell? ⟨pB, 0, none⟩ = some (.pointer (some ⟨lB, 0, none⟩)) := fun o => ((((Below.refl _ _).alloc (Nat.le_refl _) _).alloc (by simp) _ : Below w.heap.size w ((w.alloc _).alloc _)).cell (p := ⟨pB, 0, none⟩) lp).trans hp
  have hl00 : ∀ o, ((w.alloc (.cells (evCells ty sq ox it ii is ir iid p0 p1 (.slice a2 l2 c2) (.slice a3 l3 c3) tx) 85)).drew.alloc o).cell? ⟨lB, 0, none⟩ = some vl := fun o => ((((Below.refl _ _).alloc (Nat.le_refl _) _).alloc (by simp) _ : Below w.heap.size w ((w.alloc _).alloc _)).cell (p := ⟨lB, 0, none⟩) ll).trans hl
  have hlf00 : ∀ o, ((w.alloc (.cells (evCells ty sq ox it ii is ir iid p0 p1 (.slice a2 l2 c2) (.slice a3 l3 c3) tx) 85)).drew.alloc o).frozen? ⟨lB, 0, none⟩ = false := fun o => ((((Below.refl _ _).alloc (Nat.le_refl _) _).alloc (by simp) _ : Below w.heap.size w ((w.alloc _).alloc _)).frozen (p := ⟨lB, 0, none⟩) ll).trans hlf
  have hr00 : ∀ o, ((w.alloc (.cells (evCells ty sq ox it ii is ir iid p0 p1 (.slice a2 l2 c2) (.slice a3 l3 c3) tx) 85)).drew.alloc o).rangeAt w.heap.size 0 (evCells ty sq ox it ii is ir iid p0 p1 (.slice a2 l2 c2) (.slice a3 l3 c3) tx).toList := fun o => range_block (w := ((w.alloc _).drew.alloc _)) (alloc2_old w _ _)
  go_enter Try.func30, Try.ntmps30
  go_wp2_with fail
  refine wp_region_held_drew (S := (fun w' => w'.cell? ⟨pB, 0, none⟩ = some (.pointer (some ⟨lB, 0, none⟩)) ∧ w'.rangeAt w.heap.size 0 (evCells ty sq ox it ii is ir iid p0 p1 (.slice a2 l2 c2) (.slice a3 l3 c3) tx).toList)) (by kernel_rfl) ⟨hp0, hr0⟩ (fun hHeld => ?_)
  refine wpAnyH_take (i := 0) (oi := { dst := some 3, op := Op.load 44 (Operand.tmp 1), type := 44, pos := "zzexport.go:40", after := #[], guard := none }) (v := ?_) rfl (by kernel_rfl) (by kernel_rfl) (by kernel_rfl) (fun _ _ _ h => h) (Or.inl ⟨by rfl, ?_⟩) (by assumption) ?_
  rotate_left
  · (intro w hSw; (try dsimp only at hSw); go_simp; try with_reducible rfl)
  try simp only [Act.put, List.setIfInBounds_toArray, List.set_cons_zero, List.set_cons_succ]
  refine wpAnyH_take (i := 1) (oi := { dst := some 4, op := Op.load 44 (Operand.tmp 1), type := 44, pos := "zzexport.go:40", after := #[], guard := none }) (v := ?_) rfl (by kernel_rfl) (by kernel_rfl) (by kernel_rfl) (fun _ _ _ h => h) (Or.inl ⟨by rfl, ?_⟩) (by assumption) ?_
  rotate_left
  · (intro w hSw; (try dsimp only at hSw); go_simp; try with_reducible rfl)
  try simp only [Act.put, List.setIfInBounds_toArray, List.set_cons_zero, List.set_cons_succ]
  refine wpAnyH_take (i := 2) (oi := { dst := some 5, op := Op.nilCheck (Operand.tmp 4), type := 0, pos := "zzexport.go:40", after := #[{ on := 1, ground := Ground.data }], guard := none }) (v := ?_) rfl (by kernel_rfl) (by kernel_rfl) (by kernel_rfl) (fun _ _ _ h => h) (Or.inl ⟨by rfl, ?_⟩) (by assumption) ?_
  rotate_left
  · (intro w hSw; (try dsimp only at hSw); go_simp; try with_reducible rfl)
  try simp only [Act.put, List.setIfInBounds_toArray, List.set_cons_zero, List.set_cons_succ]
  refine wpAnyH_take (i := 4) (oi := { dst := some 7, op := Op.load 85 (Operand.tmp 2), type := 85, pos := "zzexport.go:40", after := #[], guard := none }) (v := .agg (evCells ty sq ox it ii is ir iid p0 p1 (.slice a2 l2 c2) (.slice a3 l3 c3) tx).toList.toArray) rfl (by kernel_rfl) (by kernel_rfl) (by kernel_rfl) (fun _ _ _ h => h) (yieldsIf_load_mid (by rfl) 85 (.tmp 2) rfl w.heap.size 0 rfl (evCells ty sq ox it ii is ir iid p0 p1 (.slice a2 l2 c2) (.slice a3 l3 c3) tx).toList _ (fun w' h => h.2) Try.underlying85 rfl hi85) (by assumption) ?_
  try simp only [Act.put, List.setIfInBounds_toArray, List.set_cons_zero, List.set_cons_succ]
  refine wpAnyH_ready (rs := [3, 5]) (by kernel_rfl) (by simp) ?_
  refine AllReadyH.cons (o := { dst := some 6, op := Op.load 43 (Operand.tmp 5), type := 43, pos := "zzexport.go:40", after := #[{ on := 2, ground := Ground.data }], guard := none }) rfl (fun K hK => ?_) (AllReadyH.cons (o := { dst := some 8, op := Op.buildSlice 43 1 #[(0, Operand.tmp 7)], type := 43, pos := "zzexport.go:40", after := #[{ on := 4, ground := Ground.data }], guard := none }) rfl (fun K hK => ?_) AllReadyH.nil)
  · go_simp
    refine hK.out _ _ hHeld (fun hHeld => ?_)
    try simp only [Act.put, List.setIfInBounds_toArray, List.set_cons_zero, List.set_cons_succ]
    refine wpAnyH_ready (rs := [5]) (by kernel_rfl) (by simp) ?_
    refine AllReadyH.cons (o := { dst := some 8, op := Op.buildSlice 43 1 #[(0, Operand.tmp 7)], type := 43, pos := "zzexport.go:40", after := #[{ on := 4, ground := Ground.data }], guard := none }) rfl (fun K hK => ?_) AllReadyH.nil
    go_simp
    refine hK.out _ _ ⟨hp00 _, hr00 _⟩ (fun hHeld => ?_)
    try simp only [Act.put, List.setIfInBounds_toArray, List.set_cons_zero, List.set_cons_succ]
    refine wpAnyH_ready (rs := [6]) (by kernel_rfl) (by simp) ?_
    refine AllReadyH.cons (o := { dst := some 9, op := Op.call { callee := Callee.builtin Builtin.append, args := #[Operand.tmp 6, Operand.tmp 8], argTypes := #[43, 43] }, type := 43, pos := "zzexport.go:40", after := #[{ on := 3, ground := Ground.data }, { on := 5, ground := Ground.data }], guard := none }) rfl (fun K hK => ?_) AllReadyH.nil
    refine step_append_lies _ (by rfl) _ _ _ (by rfl) B0 85 i0 _ 24 368 Try.underlying43 hi0 hz0 hz1 hz2 rfl (by omega) vl n xs (by rfl) (by exact (((hown.alloc _).alloc _).drew)) ⟨w.heap.size + 1, 0, none⟩ 1 1 (evCells ty sq ox it ii is ir iid p0 p1 (.slice a2 l2 c2) (.slice a3 l3 c3) tx).toList (by rfl) (by rfl) (World.news_of_block (cs := (evCells ty sq ox it ii is ir iid p0 p1 (.slice a2 l2 c2) (.slice a3 l3 c3) tx)) (t := 85) (fr := (0, 0)) (alloc2_new w _ _)) (by simp [Value.oneCell']) (by omega) (by unfold maxLen; omega) (by omega) (by simp; omega) (w.heap.size + 1 + 1) (by simp) ?_
    intro gg cap w1 hown1 hgrow hat hlt
    have hr1 : w1.rangeAt w.heap.size 0 (evCells ty sq ox it ii is ir iid p0 p1 (.slice a2 l2 c2) (.slice a3 l3 c3) tx).toList := range_block ((hgrow.block w.heap.size (by simp; omega) (Ne.symm ae)).trans (alloc2_old w _ _))
    have hp1 : w1.cell? ⟨pB, 0, none⟩ = some (.pointer (some ⟨lB, 0, none⟩)) := by
      rw [hgrow.cell_far _ (by simp; omega) (Ne.symm ap)]
      exact hp00 _
    have hl1 : w1.cell? ⟨lB, 0, none⟩ = some vl := by
      rw [hgrow.cell_far _ (by simp; omega) (Ne.symm al)]
      exact hl00 _
    have hf1 : w1.frozen? ⟨lB, 0, none⟩ = false := by
      rw [hgrow.frozen_far _ (by simp; omega) (Ne.symm al)]
      exact hlf00 _
    refine hK.out _ _ ⟨hp1, hr1⟩ (fun hHeld => ?_)
    try simp only [Act.put, List.setIfInBounds_toArray, List.set_cons_zero, List.set_cons_succ]
    refine wpAnyH_take (i := 7) (oi := { dst := some 10, op := Op.nilCheck (Operand.tmp 3), type := 0, pos := "zzexport.go:40", after := #[{ on := 0, ground := Ground.data }, { on := 0, ground := Ground.phase }, { on := 1, ground := Ground.phase }, { on := 2, ground := Ground.phase }, { on := 3, ground := Ground.phase }, { on := 4, ground := Ground.phase }, { on := 5, ground := Ground.phase }, { on := 6, ground := Ground.phase }], guard := none }) (v := ?_) rfl (by kernel_rfl) (by kernel_rfl) (by kernel_rfl) (fun _ _ _ h => h) (Or.inl ⟨by rfl, ?_⟩) (by assumption) ?_
    rotate_left
    · (intro w hSw; (try dsimp only at hSw); go_simp; try with_reducible rfl)
    try simp only [Act.put, List.setIfInBounds_toArray, List.set_cons_zero, List.set_cons_succ]
    refine wpAnyH_ready (rs := [8]) (by kernel_rfl) (by simp) ?_
    refine AllReadyH.cons (o := { dst := none, op := Op.store 43 (Operand.tmp 10) (Operand.tmp 9), type := 0, pos := "zzexport.go:40", after := #[{ on := 7, ground := Ground.data }, { on := 6, ground := Ground.data }, { on := 6, ground := Ground.chain }, { on := 0, ground := Ground.phase }, { on := 1, ground := Ground.phase }, { on := 2, ground := Ground.phase }, { on := 3, ground := Ground.phase }, { on := 4, ground := Ground.phase }, { on := 5, ground := Ground.phase }, { on := 6, ground := Ground.phase }], guard := none }) rfl (fun K hK => ?_) AllReadyH.nil
    go_simp
    refine hK.out _ _ ⟨(setCell_other _ _ _ _ _ _ hpl).trans hp1, fun j v hv => (setCell_other _ _ _ _ _ _ (by omega)).trans (hr1 j v hv)⟩ (fun hHeld => ?_)
    try simp only [Act.put, List.setIfInBounds_toArray, List.set_cons_zero, List.set_cons_succ]
    refine wpAnyH_done (by kernel_rfl) ?_ _
    go_wp2
    have hlo : w1.heap[lB]? = some (.cells #[vl] 43 (0, 0)) := ((hgrow.block lB (by simp; omega) (Ne.symm al)).trans ((heap_alloc_old _ _ (by simp; omega)).trans (heap_alloc_old _ _ ll))).trans hL
    have hgl : gg ≠ lB := by
      rcases hat with h | h
      · intro e; rw [e] at h; exact al h
      · omega
    have hsz : w.heap.size ≤ w1.heap.size := Nat.le_trans (by simp; omega) hgrow.size
    exact ⟨rfl, .tuple #[], by simp [results, Try.results30, go_sem], rfl, _, set_same _ _ _ _ _ _ _ hlo, owns_far hown1 (fun g hg => set_far _ _ _ _ _ (by simp [Value.ownBlock] at hg; omega)),
      hgrow.os, hgrow.tape, hgrow.output, by simpa [World.setCell] using hsz, fun k hk hA => (set_far _ _ _ _ _ (fun h => hA (.inl h))).trans (((hgrow.block k (by simp; omega) (fun h => hA (.inr h.symm))).trans ((heap_alloc_old _ _ (by simp; omega)).trans (heap_alloc_old _ _ hk))))⟩
  · go_simp
    refine hK.out _ _ ⟨hp00 _, hr00 _⟩ (fun hHeld => ?_)
    try simp only [Act.put, List.setIfInBounds_toArray, List.set_cons_zero, List.set_cons_succ]
    refine wpAnyH_ready (rs := [3]) (by kernel_rfl) (by simp) ?_
    refine AllReadyH.cons (o := { dst := some 6, op := Op.load 43 (Operand.tmp 5), type := 43, pos := "zzexport.go:40", after := #[{ on := 2, ground := Ground.data }], guard := none }) rfl (fun K hK => ?_) AllReadyH.nil
    go_simp
    refine hK.out _ _ hHeld (fun hHeld => ?_)
    try simp only [Act.put, List.setIfInBounds_toArray, List.set_cons_zero, List.set_cons_succ]
    refine wpAnyH_ready (rs := [6]) (by kernel_rfl) (by simp) ?_
    refine AllReadyH.cons (o := { dst := some 9, op := Op.call { callee := Callee.builtin Builtin.append, args := #[Operand.tmp 6, Operand.tmp 8], argTypes := #[43, 43] }, type := 43, pos := "zzexport.go:40", after := #[{ on := 3, ground := Ground.data }, { on := 5, ground := Ground.data }], guard := none }) rfl (fun K hK => ?_) AllReadyH.nil
    refine step_append_lies _ (by rfl) _ _ _ (by rfl) B0 85 i0 _ 24 368 Try.underlying43 hi0 hz0 hz1 hz2 rfl (by omega) vl n xs (by rfl) (by exact (((hown.alloc _).alloc _).drew)) ⟨w.heap.size + 1, 0, none⟩ 1 1 (evCells ty sq ox it ii is ir iid p0 p1 (.slice a2 l2 c2) (.slice a3 l3 c3) tx).toList (by rfl) (by rfl) (World.news_of_block (cs := (evCells ty sq ox it ii is ir iid p0 p1 (.slice a2 l2 c2) (.slice a3 l3 c3) tx)) (t := 85) (fr := (0, 0)) (alloc2_new w _ _)) (by simp [Value.oneCell']) (by omega) (by unfold maxLen; omega) (by omega) (by simp; omega) (w.heap.size + 1 + 1) (by simp) ?_
    intro gg cap w1 hown1 hgrow hat hlt
    have hr1 : w1.rangeAt w.heap.size 0 (evCells ty sq ox it ii is ir iid p0 p1 (.slice a2 l2 c2) (.slice a3 l3 c3) tx).toList := range_block ((hgrow.block w.heap.size (by simp; omega) (Ne.symm ae)).trans (alloc2_old w _ _))
    have hp1 : w1.cell? ⟨pB, 0, none⟩ = some (.pointer (some ⟨lB, 0, none⟩)) := by
      rw [hgrow.cell_far _ (by simp; omega) (Ne.symm ap)]
      exact hp00 _
    have hl1 : w1.cell? ⟨lB, 0, none⟩ = some vl := by
      rw [hgrow.cell_far _ (by simp; omega) (Ne.symm al)]
      exact hl00 _
    have hf1 : w1.frozen? ⟨lB, 0, none⟩ = false := by
      rw [hgrow.frozen_far _ (by simp; omega) (Ne.symm al)]
      exact hlf00 _
    refine hK.out _ _ ⟨hp1, hr1⟩ (fun hHeld => ?_)
    try simp only [Act.put, List.setIfInBounds_toArray, List.set_cons_zero, List.set_cons_succ]
    refine wpAnyH_take (i := 7) (oi := { dst := some 10, op := Op.nilCheck (Operand.tmp 3), type := 0, pos := "zzexport.go:40", after := #[{ on := 0, ground := Ground.data }, { on := 0, ground := Ground.phase }, { on := 1, ground := Ground.phase }, { on := 2, ground := Ground.phase }, { on := 3, ground := Ground.phase }, { on := 4, ground := Ground.phase }, { on := 5, ground := Ground.phase }, { on := 6, ground := Ground.phase }], guard := none }) (v := ?_) rfl (by kernel_rfl) (by kernel_rfl) (by kernel_rfl) (fun _ _ _ h => h) (Or.inl ⟨by rfl, ?_⟩) (by assumption) ?_
    rotate_left
    · (intro w hSw; (try dsimp only at hSw); go_simp; try with_reducible rfl)
    try simp only [Act.put, List.setIfInBounds_toArray, List.set_cons_zero, List.set_cons_succ]
    refine wpAnyH_ready (rs := [8]) (by kernel_rfl) (by simp) ?_
    refine AllReadyH.cons (o := { dst := none, op := Op.store 43 (Operand.tmp 10) (Operand.tmp 9), type := 0, pos := "zzexport.go:40", after := #[{ on := 7, ground := Ground.data }, { on := 6, ground := Ground.data }, { on := 6, ground := Ground.chain }, { on := 0, ground := Ground.phase }, { on := 1, ground := Ground.phase }, { on := 2, ground := Ground.phase }, { on := 3, ground := Ground.phase }, { on := 4, ground := Ground.phase }, { on := 5, ground := Ground.phase }, { on := 6, ground := Ground.phase }], guard := none }) rfl (fun K hK => ?_) AllReadyH.nil
    go_simp
    refine hK.out _ _ ⟨(setCell_other _ _ _ _ _ _ hpl).trans hp1, fun j v hv => (setCell_other _ _ _ _ _ _ (by omega)).trans (hr1 j v hv)⟩ (fun hHeld => ?_)
    try simp only [Act.put, List.setIfInBounds_toArray, List.set_cons_zero, List.set_cons_succ]
    refine wpAnyH_done (by kernel_rfl) ?_ _
    go_wp2
    have hlo : w1.heap[lB]? = some (.cells #[vl] 43 (0, 0)) := ((hgrow.block lB (by simp; omega) (Ne.symm al)).trans ((heap_alloc_old _ _ (by simp; omega)).trans (heap_alloc_old _ _ ll))).trans hL
    have hgl : gg ≠ lB := by
      rcases hat with h | h
      · intro e; rw [e] at h; exact al h
      · omega
    have hsz : w.heap.size ≤ w1.heap.size := Nat.le_trans (by simp; omega) hgrow.size
    exact ⟨rfl, .tuple #[], by simp [results, Try.results30, go_sem], rfl, _, set_same _ _ _ _ _ _ _ hlo, owns_far hown1 (fun g hg => set_far _ _ _ _ _ (by simp [Value.ownBlock] at hg; omega)),
      hgrow.os, hgrow.tape, hgrow.output, by simpa [World.setCell] using hsz, fun k hk hA => (set_far _ _ _ _ _ (fun h => hA (.inl h))).trans (((hgrow.block k (by simp; omega) (fun h => hA (.inr h.symm))).trans ((heap_alloc_old _ _ (by simp; omega)).trans (heap_alloc_old _ _ hk))))⟩
end Go.Proofs.Qxb6612221a.Cl
