/- WALKS of what the run writes: emit. -/
import Derived.Test.Qxb6612221aClD
import Derived.StillTailTactics
namespace Go.Proofs.Qxb6612221a.Cl
open Go.RowKit
attribute [local go_sem ↓] Go.wp_at_zero Go.wp_at_succ

abbrev sendOf (sm : Bool) (pB : Nat) : Value := if sm = true then .func (.func 30) #[] #[.pointer (some ⟨pB, 0, none⟩)] else .nilFunc
abbrev runCells (sB : Nat) (snd : Value) (nx : Int) (opn : Value) : Array Value :=
  #[.pointer (some ⟨sB, 0, none⟩), snd, .int .i64 nx, .pointer none, .pointer none, .slice none 0 0, .int .i64 0, .int .i64 0, .pointer none, .pointer none, .slice none 0 0, .int .i64 0, .int .i64 0, opn, .nilFunc]
/-- the run, its log's variable and the log's row -/
structure LogOk (B0 : Nat) (sm : Bool) (rB pB lB sB : Nat) (opn : Value) (w : World) (nx : Int) (vl : Value) (n : Nat) (xs : List Value) : Prop where
  run : w.heap[rB]? = some (.cells (runCells sB (sendOf sm pB) nx opn) 103 (0, 0))
  box : w.heap[pB]? = some (.cells #[.pointer (if sm = true then some ⟨lB, 0, none⟩ else none)] 44 (0, 0))
  var : w.heap[lB]? = some (.cells #[vl] 43 (0, 0))
  row : w.ownsRow B0 85 24 vl n xs
  base : B0 ≤ w.heap.size
  nilv : sm = false → vl = .slice none 0 0

theorem still_load_mid {P : Program} {ops : Array Oper} {rest : List Oper} {op : Oper} {a : Act} {w : World} {Q : Act → Prop} (hgd : op.guard = none) (ty : TypeId) (x : Operand) (ho : op.op = .load ty x)
    (b o : Nat) (hx : a.eval x = .pointer (some ⟨b, o, none⟩)) (cs : List Value) (d : TypeDesc) (hc : w.rangeAt b o cs)
    (hu : P.underlying ty = some d) (hd : d.isRow = true) (hi : (P.info? ty).map (·.size) = some cs.length)
    (h : wpStill P ops w Q rest (a.put op.dst (.agg cs.toArray))) : wpStill P ops w Q (op :: rest) a := by
  have hw : Region.wanted op (yielded ops a.tmps) = true := by simp [Region.wanted, hgd]
  simp only [wpStill, hw, if_true]
  unfold Oper.still execOp
  simp only [ho, hx, Instr.loadAt, Instr.sureAddr, Sem.run_bind, Sem.run_pure, Result.andThen_ok, run_loadVar_mid w b o ty cs d hc hu hd hi]
  simp only [Oper.stillUpon]
  exact ⟨trivial, h⟩
theorem wp_region_tail {P : Program} {id : Nat} {Q : Exit → Act → World → Prop} {a : Act} {w : World} {l : List Oper} (n : Nat) (hm : P.follows .mixedOrders = true) (hB : Region.lexTailB .any l.toArray n = true)
    (h : ∀ w2, w2 = w.drew → wpStill P l.toArray w2 (fun a' => wpList P l.toArray Q (l.drop n) a' w2) (l.take n) a) : (Code.region id l.toArray true).wp P Q a w :=
  wp_region_still_tail n hm hB (h _ rfl)
theorem eql_fn (fn : Fn) (f c : Array Value) (w : World) : Sem.run Try.prog (binOp BinOp.eql 95 (.func fn f c) .nilFunc) w = .ok (.bool false) w := by kernel_rfl
theorem eql_nilfn (w : World) : Sem.run Try.prog (binOp BinOp.eql 95 .nilFunc .nilFunc) w = .ok (.bool true) w := by kernel_rfl
set_option maxRecDepth 100000 in
set_option maxHeartbeats 4000000 in
theorem emit_nil (B0 rB pB lB sB n : Nat) (opn : Value) (nx : Int) (ev : Array Value) (vl : Value) (xs : List Value) (w : World) (h : LogOk B0 false rB pB lB sB opn w nx vl n xs) :
    Calls Try.prog 34 #[.pointer (some ⟨rB, 0, none⟩), .agg ev] w fun e w' => e = .returned (.tuple #[]) ∧ w' = w.alloc (.cells ev 85) := by
  have lr := lt_of_look h.run
  have hr1 : w.cell? ⟨rB, 1, none⟩ = some .nilFunc := cell_look h.run
  have hne : rB ≠ w.heap.size := by omega
  have hne' : w.heap.size ≠ rB := by omega
  have hrun := eql_nilfn
  go_enter Try.func34, Try.ntmps34
  go_wp2
  exact ⟨rfl, .tuple #[], by simp [results, Try.results34, go_sem], rfl, rfl⟩
set_option maxRecDepth 100000 in
set_option maxHeartbeats 4000000 in
theorem emit_log (B0 rB pB lB sB n : Nat) (opn : Value) (nx : Int) (ty : ByteArray) (ox : Int) (it ii is ir iid p0 p1 : ByteArray) (a2 a3 : Option Addr) (l2 c2 l3 c3 : Nat) (tx : ByteArray) (vl : Value) (xs : List Value) (w : World)
    (h : LogOk B0 true rB pB lB sB opn w nx vl n xs) (hn : n ≤ 3) :
    Calls Try.prog 34 #[.pointer (some ⟨rB, 0, none⟩), .agg (evCells ty 0 ox it ii is ir iid p0 p1 (.slice a2 l2 c2) (.slice a3 l3 c3) tx)] w fun e w' => e = .returned (.tuple #[]) ∧ ∃ vl',
      LogOk B0 true rB pB lB sB opn w' (wrap64 (nx + 1)) vl' (n + 1) (xs ++ (evCells ty nx ox it ii is ir iid p0 p1 (.slice a2 l2 c2) (.slice a3 l3 c3) tx).toList) ∧ Kept (fun k => k = rB ∨ k = lB ∨ vl.ownBlock = some k) w w' := by
  have lr := lt_of_look h.run
  have hr1 : w.cell? ⟨rB, 1, none⟩ = some (.func (.func 30) #[] #[.pointer (some ⟨pB, 0, none⟩)]) := cell_look h.run
  have hr2 : w.cell? ⟨rB, 2, none⟩ = some (.int .i64 nx) := cell_look h.run
  have hf2 : w.frozen? ⟨rB, 2, none⟩ = false := frozen_look h.run
  have hne : rB ≠ w.heap.size := by omega
  have hne' : w.heap.size ≠ rB := by omega
  have hrun := eql_fn
  obtain ⟨i0, hi0, hz0, hz1, hz2⟩ := info_parts info85
  have hi85 : (Try.prog.info? 85).map (·.size) = some (evCells ty nx ox it ii is ir iid p0 p1 (.slice a2 l2 c2) (.slice a3 l3 c3) tx).toList.length := by rw [hi0]; simp [hz1]
  have hsz0 : (w.setCell ⟨rB, 2, none⟩ (.int .i64 (wrap64 (nx + 1)))).heap.size = w.heap.size := by simp [World.setCell]
  have hR2 : ((w.setCell ⟨rB, 2, none⟩ (.int .i64 (wrap64 (nx + 1)))).alloc (.cells (evCells ty nx ox it ii is ir iid p0 p1 (.slice a2 l2 c2) (.slice a3 l3 c3) tx) 85)).drew.heap[rB]? = some (.cells (runCells sB (sendOf true pB) (wrap64 (nx + 1)) opn) 103 (0, 0)) := (heap_alloc_old _ _ (by rw [hsz0]; exact lr)).trans (set_same _ _ _ _ _ _ _ h.run)
  have hE2 : ((w.setCell ⟨rB, 2, none⟩ (.int .i64 (wrap64 (nx + 1)))).alloc (.cells (evCells ty nx ox it ii is ir iid p0 p1 (.slice a2 l2 c2) (.slice a3 l3 c3) tx) 85)).drew.heap[w.heap.size]? = some (.cells (evCells ty nx ox it ii is ir iid p0 p1 (.slice a2 l2 c2) (.slice a3 l3 c3) tx) 85 (0, 0)) := by
    have := heap_alloc_new (w.setCell ⟨rB, 2, none⟩ (.int .i64 (wrap64 (nx + 1)))) (.cells (evCells ty nx ox it ii is ir iid p0 p1 (.slice a2 l2 c2) (.slice a3 l3 c3) tx) 85)
    rw [hsz0] at this
    exact this
  have hK2 : Kept (fun k => k = rB) w ((w.setCell ⟨rB, 2, none⟩ (.int .i64 (wrap64 (nx + 1)))).alloc (.cells (evCells ty nx ox it ii is ir iid p0 p1 (.slice a2 l2 c2) (.slice a3 l3 c3) tx) 85)).drew := ⟨rfl, rfl, rfl, by simp [World.setCell], fun k hk hA => (heap_alloc_old _ _ (by rw [hsz0]; exact hk)).trans (set_far _ _ _ _ _ hA)⟩
  go_enter Try.func34, Try.ntmps34
  go_wp2_with fail
  refine wp_region_tail 5 (by kernel_rfl) (by kernel_rfl) ?_
  intro w2 hw2
  change w2 = ((w.setCell ⟨rB, 2, none⟩ (.int .i64 (wrap64 (nx + 1)))).alloc (.cells (evCells ty nx ox it ii is ir iid p0 p1 (.slice a2 l2 c2) (.slice a3 l3 c3) tx) 85)).drew at hw2
  rw [← hw2] at hR2 hE2 hK2
  clear hw2
  have hc1 : w2.cell? ⟨rB, 1, none⟩ = some (.func (.func 30) #[] #[.pointer (some ⟨pB, 0, none⟩)]) := cell_look hR2
  have hr85 := range_block hE2
  simp only [List.take_succ_cons, List.take_zero, List.drop_succ_cons, List.drop_zero]
  still_step
  still_step
  still_step
  still_step
  refine still_load_mid rfl 85 (.tmp 3) rfl w.heap.size 0 rfl (evCells ty nx ox it ii is ir iid p0 p1 (.slice a2 l2 c2) (.slice a3 l3 c3) tx).toList _ hr85 Try.underlying85 rfl hi85 ?_
  refine wpStill_nil ?_
  go_wp2_with fail
  have npr : pB ≠ rB := fun e => by have := h.box; rw [e, h.run] at this; simp at this
  have nlr : lB ≠ rB := fun e => by have := h.var; rw [e, h.run] at this; simp at this
  have npl : pB ≠ lB := fun e => by have := h.box; rw [e, h.var] at this; simp at this
  have or := typ_ne h.run h.row (by decide)
  have op := typ_ne h.box h.row (by decide)
  have hB2 := (hK2.block pB (lt_of_look h.box) npr).trans h.box
  have hL2 := (hK2.block lB (lt_of_look h.var) nlr).trans h.var
  have hO2 : w2.ownsRow B0 85 24 vl n xs := owns_far h.row (fun g hg => hK2.block g (h.row.lt _ hg).2 (fun e => or (by rw [← e]; exact hg)))
  refine (clos_any B0 pB lB n ty nx ox it ii is ir iid p0 p1 a2 a3 l2 c2 l3 c3 tx vl xs w2 hB2 hL2 (Nat.le_trans h.base hK2.size) hO2 hn).mono ?_
  rintro e w3 ⟨rfl, vl', hL3, hO3, hK3⟩
  have hR3 := (hK3.block rB (lt_of_look hR2) (by rintro (e | e); exact nlr e.symm; exact or e)).trans hR2
  have hB3 := (hK3.block pB (lt_of_look hB2) (by rintro (e | e); exact npl e; exact op e)).trans hB2
  have hKK : Kept (fun k => k = rB ∨ k = lB ∨ vl.ownBlock = some k) w w3 := ⟨hK3.os.trans hK2.os, hK3.tape.trans hK2.tape, hK3.output.trans hK2.output, Nat.le_trans hK2.size hK3.size,
    fun k hk hA => (hK3.block k (Nat.lt_of_lt_of_le hk hK2.size) (fun e => hA (.inr e))).trans (hK2.block k hk (fun e => hA (.inl e)))⟩
  clear hK2 hK3 hc1 hr85
  go_wp2
  exact ⟨rfl, .tuple #[], by simp [results, Try.results34, go_sem], rfl, vl', ⟨hR3, hB3, hL3, hO3, Nat.le_trans h.base hKK.size, fun h => by cases h⟩, hKK⟩
theorem Kept.mono {A B : Nat → Prop} {w w' : World} (h : Kept A w w') (hAB : ∀ k, A k → B k) : Kept B w w' := ⟨h.os, h.tape, h.output, h.size, fun k hk hB => h.block k hk (fun hA => hB (hAB k hA))⟩
theorem Kept.trans {A : Nat → Prop} {w w1 w2 : World} (h : Kept A w w1) (h' : Kept A w1 w2) : Kept A w w2 :=
  ⟨h'.os.trans h.os, h'.tape.trans h.tape, h'.output.trans h.output, Nat.le_trans h.size h'.size, fun k hk hA => (h'.block k (Nat.lt_of_lt_of_le hk h.size) hA).trans (h.block k hk hA)⟩
theorem Kept.alloc (A : Nat → Prop) (w : World) (o : Obj) : Kept A w (w.alloc o) := ⟨rfl, rfl, rfl, by simp, fun k hk _ => heap_alloc_old _ _ hk⟩
theorem Kept.set (A : Nat → Prop) (w : World) (b o : Nat) (v : Value) (h : A b) : Kept A w (w.setCell ⟨b, o, none⟩ v) := ⟨rfl, rfl, rfl, by simp [World.setCell], fun k _ hA => set_far _ _ _ _ _ (fun e => hA (e ▸ h))⟩
theorem Kept.drew (A : Nat → Prop) (w : World) : Kept A w w.drew := ⟨rfl, rfl, rfl, Nat.le_refl _, fun _ _ _ => rfl⟩
abbrev nxOf (sm : Bool) (nx : Int) : Int := if sm = true then wrap64 (nx + 1) else nx
abbrev cntOf (sm : Bool) (n : Nat) : Nat := if sm = true then n + 1 else n
abbrev logOf (sm : Bool) (xs ys : List Value) : List Value := if sm = true then xs ++ ys else xs
def EmitSay (B0 : Nat) (sm : Bool) (rB pB lB sB : Nat) (opn : Value) (nx : Int) (n : Nat) (vl : Value) (xs ys : List Value) (w w' : World) : Prop :=
  ∃ vl', LogOk B0 sm rB pB lB sB opn w' (nxOf sm nx) vl' (cntOf sm n) (logOf sm xs ys) ∧ Kept (fun k => k = rB ∨ k = lB ∨ vl.ownBlock = some k) w w'
theorem emit_any (B0 : Nat) (sm : Bool) (rB pB lB sB n : Nat) (opn : Value) (nx : Int) (ty : ByteArray) (ox : Int) (it ii is ir iid p0 p1 : ByteArray) (a2 a3 : Option Addr) (l2 c2 l3 c3 : Nat) (tx : ByteArray) (vl : Value) (xs : List Value) (w : World)
    (h : LogOk B0 sm rB pB lB sB opn w nx vl n xs) (hn : n ≤ 3) :
    Calls Try.prog 34 #[.pointer (some ⟨rB, 0, none⟩), .agg (evCells ty 0 ox it ii is ir iid p0 p1 (.slice a2 l2 c2) (.slice a3 l3 c3) tx)] w fun e w' => e = .returned (.tuple #[]) ∧
      EmitSay B0 sm rB pB lB sB opn nx n vl xs (evCells ty nx ox it ii is ir iid p0 p1 (.slice a2 l2 c2) (.slice a3 l3 c3) tx).toList w w' := by
  cases sm
  · refine (emit_nil B0 rB pB lB sB n opn nx _ vl xs w h).mono ?_
    rintro e w' ⟨rfl, rfl⟩
    exact ⟨rfl, vl, ⟨(heap_alloc_old _ _ (lt_of_look h.run)).trans h.run, (heap_alloc_old _ _ (lt_of_look h.box)).trans h.box, (heap_alloc_old _ _ (lt_of_look h.var)).trans h.var, h.row.alloc _, Nat.le_trans h.base (by simp), h.nilv⟩, Kept.alloc _ _ _⟩
  · exact emit_log B0 rB pB lB sB n opn nx ty ox it ii is ir iid p0 p1 a2 a3 l2 c2 l3 c3 tx vl xs w h hn

/-- the item's reasoning text -/
theorem hold_any (b : Nat) (tx : ByteArray) (cs : Array Value) (w : World) (h : w.heap[b]? = some (.cells cs 94 (0, 0))) (h10 : ∃ v, cs[10]? = some v) :
    Calls Try.prog 31 #[.pointer (some ⟨b, 0, none⟩), .string tx] w fun e w' => e = .returned (.tuple #[]) ∧ w' = w.setCell ⟨b, 10, none⟩ (.string tx) := by
  obtain ⟨v, hv⟩ := h10
  have hc : w.cell? ⟨b, 10, none⟩ = some v := (cell_look h).trans hv
  have hf : w.frozen? ⟨b, 10, none⟩ = false := frozen_look h
  go_enter Try.func31, Try.ntmps31
  go_wp2
  exact ⟨rfl, .tuple #[], by simp [results, Try.results31, go_sem], rfl, rfl⟩
end Go.Proofs.Qxb6612221a.Cl
