/- THE STATE of the run between the steps: what lies where, and what keeps it. -/
import Derived.Test.Qxb6612221aClE
namespace Go.Proofs.Qxb6612221a.Cl
open Go.RowKit
attribute [local go_sem ↓] Go.wp_at_zero Go.wp_at_succ
def RespOk (sB : Nat) (vo : Value) (w : World) : Prop := ∃ rc, w.heap[sB]? = some (.cells rc 67 (0, 0)) ∧ rc[9]? = some vo
theorem range_take {w : World} {b : Nat} {C : Array Value} {t : TypeId} {fr : Nat × Nat} (hb : w.heap[b]? = some (.cells C t fr)) (m : Nat) : w.rangeAt b 0 (C.toList.take m) := fun j v hv => by
  rw [List.getElem?_take] at hv
  split at hv
  · exact range_block hb j v hv
  · cases hv
theorem LogOk.kept {B0 : Nat} {sm : Bool} {rB pB lB sB : Nat} {opn : Value} {w w' : World} {nx : Int} {vl : Value} {n : Nat} {xs : List Value} {A : Nat → Prop} (h : LogOk B0 sm rB pB lB sB opn w nx vl n xs) (hK : Kept A w w') (h1 : ¬ A rB) (h2 : ¬ A pB) (h3 : ¬ A lB) (h4 : ∀ g, vl.ownBlock = some g → ¬ A g) : LogOk B0 sm rB pB lB sB opn w' nx vl n xs :=
  ⟨(hK.block _ (lt_of_look h.run) h1).trans h.run, (hK.block _ (lt_of_look h.box) h2).trans h.box, (hK.block _ (lt_of_look h.var) h3).trans h.var, owns_far h.row (fun g hg => hK.block g (h.row.lt _ hg).2 (h4 g hg)), Nat.le_trans h.base hK.size, h.nilv⟩
theorem ty_ne {w : World} {b b' : Nat} {cs cs' : Array Value} {t t' : TypeId} {fr fr' : Nat × Nat} (h : w.heap[b]? = some (.cells cs t fr)) (h' : w.heap[b']? = some (.cells cs' t' fr')) (hne : t ≠ t') : b ≠ b' := fun e => by
  subst e
  rw [h] at h'
  simp at h'
  exact hne h'.2.1
theorem LogOk.far {B0 : Nat} {sm : Bool} {rB pB lB sB : Nat} {opn : Value} {w : World} {nx : Int} {vl : Value} {n : Nat} {xs : List Value} (h : LogOk B0 sm rB pB lB sB opn w nx vl n xs) {b : Nat} {cs : Array Value} {t : TypeId} (hb : w.heap[b]? = some (.cells cs t (0, 0))) (ht : t ≠ 103 ∧ t ≠ 44 ∧ t ≠ 43 ∧ t ≠ 85) : rB ≠ b ∧ pB ≠ b ∧ lB ≠ b ∧ vl.ownBlock ≠ some b :=
  ⟨(ty_ne hb h.run ht.1).symm, (ty_ne hb h.box ht.2.1).symm, (ty_ne hb h.var ht.2.2.1).symm, typ_ne hb h.row ht.2.2.2⟩
theorem info37 : (Try.prog.info? 37).map (fun i => (i.zero, i.size, i.bytes)) = some (some (.agg (itemCells eS eS eS eS)), 11, 176) := by kernel_rfl
abbrev itemDoneS : ByteArray := ⟨#[114, 101, 115, 112, 111, 110, 115, 101, 46, 111, 117, 116, 112, 117, 116, 95, 105, 116, 101, 109, 46, 100, 111, 110, 101]⟩
abbrev partDoneS : ByteArray := ⟨#[114, 101, 115, 112, 111, 110, 115, 101, 46, 99, 111, 110, 116, 101, 110, 116, 95, 112, 97, 114, 116, 46, 100, 111, 110, 101]⟩
/-- an announced item as it lies in memory -/
structure Nd where
  b : Nat
  ty : ByteArray
  id : ByteArray
  st : ByteArray
  rt : ByteArray
  ix : Int
  dn : Bool
abbrev Nd.cells (x : Nd) : Array Value := siCells x.ty x.id x.st x.rt x.ix x.dn
abbrev Nd.item (x : Nd) : List Value := (itemCells x.ty x.id x.st x.rt).toList
structure ItemsOk (g : Nat) (is : List Nd) (w : World) : Prop where
  row : ∃ cs, w.heap[g]? = some (.cells cs 40 (0, 0)) ∧ ∀ i (h : i < is.length), cs[i]? = some (.pointer (some ⟨is[i].b, 0, none⟩))
  item : ∀ i (h : i < is.length), w.heap[is[i].b]? = some (.cells is[i].cells 94 (0, 0))
/-- the flush at round k -/
structure Fl (B0 : Nat) (sm : Bool) (rB pB lB sB g cap m : Nat) (is : List Nd) (nx : Int) (vl : Value) (n : Nat) (xs ys : List Value) (vo0 : Value) (w0 : World) (k : Nat) (w : World) : Prop where
  le : k ≤ is.length
  log : ∃ a, (k < is.length → a = k) ∧ LogOk B0 sm rB pB lB sB (.slice (some ⟨g, a, none⟩) (is.length - k) (cap - k)) w nx vl n xs
  items : ItemsOk g is w
  resp : ∃ vo', RespOk sB vo' w ∧ w.ownsRow B0 37 11 vo' (m + k) (ys ++ (is.take k).flatMap Nd.item) ∧ ∀ q, vo'.ownBlock = some q → vo0.ownBlock = some q ∨ w0.heap.size ≤ q
  pre : ∀ i (h : i < is.length), i < k → is[i].dn = true
  kept : Kept (fun q => q = rB ∨ q = sB ∨ vo0.ownBlock = some q) w0 w
/-- A meets no block of a type of T -/
def Shuns (A : Nat → Prop) (w : World) (T : TypeId → Prop) : Prop := ∀ q cs t, w.heap[q]? = some (.cells cs t (0, 0)) → T t → ¬ A q
theorem shuns_block {w : World} {b : Nat} {cs : Array Value} {t : TypeId} (h : w.heap[b]? = some (.cells cs t (0, 0))) : Shuns (fun k => k = b) w (fun t' => t' ≠ t) := fun q cs' t' hq hne e => by
  subst e
  rw [h] at hq
  simp at hq
  exact hne hq.2.symm
theorem shuns_row {w : World} {base : Nat} {e : TypeId} {size : Nat} {v : Value} {n : Nat} {xs : List Value} (ho : w.ownsRow base e size v n xs) : Shuns (fun k => v.ownBlock = some k) w (fun t' => t' ≠ e) := fun _ _ _ hq hne h => typ_ne hq ho hne h
theorem LogOk.shuns {B0 : Nat} {sm : Bool} {rB pB lB sB : Nat} {opn : Value} {w : World} {nx : Int} {vl : Value} {n : Nat} {xs : List Value} (h : LogOk B0 sm rB pB lB sB opn w nx vl n xs) : Shuns (fun k => k = rB ∨ k = lB ∨ vl.ownBlock = some k) w (fun t => t ≠ 103 ∧ t ≠ 43 ∧ t ≠ 85) := fun q cs t hq ht hA => by
  rcases hA with e | e | e
  · exact shuns_block h.run q cs t hq ht.1 e
  · exact shuns_block h.var q cs t hq ht.2.1 e
  · exact shuns_row h.row q cs t hq ht.2.2 e
theorem ItemsOk.kept {g : Nat} {is : List Nd} {w w' : World} {A : Nat → Prop} {T : TypeId → Prop} (h : ItemsOk g is w) (hK : Kept A w w') (hs : Shuns A w T) (h40 : T 40) (h94 : T 94) : ItemsOk g is w' := by
  obtain ⟨⟨cs, hc, hr⟩, hi⟩ := h
  exact ⟨⟨cs, (hK.block _ (lt_of_look hc) (hs _ _ _ hc h40)).trans hc, hr⟩, fun i h' => (hK.block _ (lt_of_look (hi i h')) (hs _ _ _ (hi i h') h94)).trans (hi i h')⟩
theorem RespOk.kept {sB : Nat} {vo : Value} {w w' : World} {A : Nat → Prop} {T : TypeId → Prop} (h : RespOk sB vo w) (hK : Kept A w w') (hs : Shuns A w T) (h67 : T 67) : RespOk sB vo w' := by
  obtain ⟨rc, hc, hr⟩ := h
  exact ⟨rc, (hK.block _ (lt_of_look hc) (hs _ _ _ hc h67)).trans hc, hr⟩
theorem row_kept {B0 : Nat} {e : TypeId} {size : Nat} {v : Value} {n : Nat} {xs : List Value} {w w' : World} {A : Nat → Prop} {T : TypeId → Prop} (h : w.ownsRow B0 e size v n xs) (hK : Kept A w w') (hs : Shuns A w T) (he : T e) : w'.ownsRow B0 e size v n xs :=
  owns_far h (fun q hq => by
    rcases h.2 with ⟨rfl, _⟩ | ⟨g, cap, cur, rfl, _, hg, _⟩
    · simp [Value.ownBlock] at hq
    · have : g = q := by simpa [Value.ownBlock] using hq
      subst this
      exact hK.block _ (lt_of_look hg) (hs _ _ _ hg he))
theorem items_set {g j : Nat} {is : List Nd} {w w2 : World} {nd : Nd} (h : ItemsOk g is w) (hj : j < is.length) (hap : ∀ i (h : i < is.length), i ≠ j → is[i].b ≠ is[j].b) (hb : nd.b = is[j].b) (hK : Kept (fun k => k = is[j].b) w w2) (hI : w2.heap[is[j].b]? = some (.cells nd.cells 94 (0, 0))) : ItemsOk g (is.set j nd) w2 := by
  obtain ⟨⟨cs, hc, hr⟩, hi⟩ := h
  refine ⟨⟨cs, (hK.block _ (lt_of_look hc) (shuns_block (hi j hj) _ _ _ hc (by decide))).trans hc, fun i h' => ?_⟩, fun i h' => ?_⟩
  · have h'' : i < is.length := by simpa using h'
    rw [List.getElem_set]
    split
    · rename_i e; subst e; rw [hb]; exact hr _ h''
    · exact hr i h''
  · have h'' : i < is.length := by simpa using h'
    rw [List.getElem_set]
    split
    · rename_i e; subst e; rw [hb]; exact hI
    · rename_i e; exact (hK.block _ (lt_of_look (hi i h'')) (hap i h'' (fun h => e h.symm))).trans (hi i h'')
def openLen (rB : Nat) (w : World) : Nat := match w.cell? ⟨rB, 13, none⟩ with | some (.slice _ n _) => n | _ => 0
theorem fl_step {B0 : Nat} {sm : Bool} {rB pB lB sB g cap m : Nat} {is : List Nd} {nx : Int} {vl : Value} {n : Nat} {xs ys : List Value} {vo0 : Value} {w0 : World} {k : Nat} {wr : World} (F : Fl B0 sm rB pB lB sB g cap m is nx vl n xs ys vo0 w0 k wr)
    (hk : k < is.length) (hdn : is[k].dn = true) (a' : Nat) (ha' : k + 1 < is.length → a' = k + 1) {vo' : Value} {rc : Array Value} (hrc : wr.heap[sB]? = some (.cells rc 67 (0, 0))) (hrc9 : rc[9]? = some vo') (hown : wr.ownsRow B0 37 11 vo' (m + k) (ys ++ (is.take k).flatMap Nd.item))
    (hvo : ∀ q, vo'.ownBlock = some q → vo0.ownBlock = some q ∨ w0.heap.size ≤ q) (w1' : World) (hw1 : ∃ o, w1'.heap = (wr.alloc o).heap ∧ w1'.os = wr.os ∧ w1'.tape = wr.tape ∧ w1'.output = wr.output) {gg ncap : Nat} {w1 : World}
    (hown1 : w1.ownsRow B0 37 11 (.slice (some ⟨gg, 0, none⟩) (m + k + 1) ncap) (m + k + 1) ((ys ++ (is.take k).flatMap Nd.item) ++ is[k].item)) (hgrow : w1'.grownBy w1 vo'.ownBlock) (hat : vo'.ownBlock = some gg ∨ gg = wr.heap.size + 1) :
    Fl B0 sm rB pB lB sB g cap m is nx vl n xs ys vo0 w0 (k + 1) ((w1.setCell ⟨sB, 9, none⟩ (.slice (some ⟨gg, 0, none⟩) (m + k + 1) ncap)).setCell ⟨rB, 13, none⟩ (.slice (some ⟨g, a', none⟩) (is.length - (k + 1)) (cap - (k + 1)))) := by
  obtain ⟨o, ho, hos, htp, hou⟩ := hw1
  obtain ⟨a0, _, hl⟩ := F.log
  have hrun := hl.run
  have hsz : w1'.heap.size = wr.heap.size + 1 := by rw [ho]; simp
  have hblk : ∀ q, q < wr.heap.size → some q ≠ vo'.ownBlock → w1.heap[q]? = wr.heap[q]? := fun q hq hne => (hgrow.block q (by omega) hne).trans (by rw [ho]; exact heap_alloc_old _ _ hq)
  have hfar : ∀ q cs t, wr.heap[q]? = some (Obj.cells cs t (0, 0)) → t ≠ 37 → w1.heap[q]? = some (Obj.cells cs t (0, 0)) := fun q cs t hq ht => (hblk q (lt_of_look hq) (Ne.symm (typ_ne hq hown ht))).trans hq
  have nrs : rB ≠ sB := ty_ne hrun hrc (by decide)
  have lr := lt_of_look hrun
  have ls := lt_of_look hrc
  have hggr : gg ≠ rB := by
    rcases hat with h | h
    · intro e; subst e; exact typ_ne hrun hown (by decide) h
    · omega
  have hggs : gg ≠ sB := by
    rcases hat with h | h
    · intro e; subst e; exact typ_ne hrc hown (by decide) h
    · omega
  generalize hv : Value.slice (some ⟨gg, 0, none⟩) (m + k + 1) ncap = v at *
  have h9 : 9 < rc.size := (Array.getElem?_eq_some_iff.1 hrc9).1
  have hfar2 : ∀ q cs t, wr.heap[q]? = some (Obj.cells cs t (0, 0)) → t ≠ 37 → q ≠ sB → q ≠ rB → ((w1.setCell ⟨sB, 9, none⟩ v).setCell ⟨rB, 13, none⟩ (.slice (some ⟨g, a', none⟩) (is.length - (k + 1)) (cap - (k + 1)))).heap[q]? = some (Obj.cells cs t (0, 0)) := fun q cs t hq ht h1 h2 =>
    (set_far _ _ _ _ _ h2).trans ((set_far _ _ _ _ _ h1).trans (hfar q cs t hq ht))
  have hrow85 : w1.ownsRow B0 85 24 vl n xs := owns_far hl.row (fun q hq => hblk q (hl.row.lt _ hq).2 (fun e => by
    rcases hl.row.2 with ⟨e', _⟩ | ⟨g', cap', cur, e', _, hg, _⟩
    · rw [e'] at hq; simp [Value.ownBlock] at hq
    · rw [e'] at hq
      have : g' = q := by simpa [Value.ownBlock] using hq
      subst this
      exact typ_ne hg hown (by decide) e.symm))
  have hvl : ∀ q, vl.ownBlock = some q → q ≠ sB ∧ q ≠ rB := fun q hq => ⟨fun e => typ_ne hrc hl.row (by decide) (by rw [← e]; exact hq), fun e => typ_ne hrun hl.row (by decide) (by rw [← e]; exact hq)⟩
  refine ⟨hk, ⟨a', ha', ?_, hfar2 _ _ _ hl.box (by decide) (ty_ne hl.box hrc (by decide)) (ty_ne hl.box hrun (by decide)), hfar2 _ _ _ hl.var (by decide) (ty_ne hl.var hrc (by decide)) (ty_ne hl.var hrun (by decide)), ?_, ?_, hl.nilv⟩, ⟨?_, ?_⟩, ⟨v, ⟨rc.setIfInBounds 9 v, ?_, by simp [h9]⟩, ?_, ?_⟩, ?_, ?_⟩
  · exact set_same _ _ _ _ _ _ _ ((set_far _ _ _ _ _ nrs).trans (hfar _ _ _ hrun (by decide)))
  · exact owns_far hrow85 (fun q hq => (set_far _ _ _ _ _ (hvl q hq).2).trans (set_far _ _ _ _ _ (hvl q hq).1))
  · have h1 := hgrow.size
    have h2 := hl.base
    simp [World.setCell]
    omega
  · obtain ⟨cs, hc, hr⟩ := F.items.row
    exact ⟨cs, hfar2 _ _ _ hc (by decide) (ty_ne hc hrc (by decide)) (ty_ne hc hrun (by decide)), hr⟩
  · intro i hi
    have hc := F.items.item i hi
    exact hfar2 _ _ _ hc (by decide) (ty_ne hc hrc (by decide)) (ty_ne hc hrun (by decide))
  · exact (set_far _ _ _ _ _ nrs.symm).trans (set_same _ _ _ _ _ _ _ (hfar _ _ _ hrc (by decide)))
  · rw [List.take_succ_eq_append_getElem hk, List.flatMap_append]
    have : (ys ++ (is.take k).flatMap Nd.item) ++ is[k].item = ys ++ ((is.take k).flatMap Nd.item ++ [is[k]].flatMap Nd.item) := by simp
    rw [← this]
    refine owns_far hown1 (fun q hq => ?_)
    have : q = gg := by rw [← hv] at hq; simpa [Value.ownBlock] using hq.symm
    subst this
    exact (set_far _ _ _ _ _ hggr).trans (set_far _ _ _ _ _ hggs)
  · intro q hq
    have : gg = q := by rw [← hv] at hq; simpa [Value.ownBlock] using hq
    subst this
    rcases hat with h | h
    · exact hvo _ h
    · exact .inr (by have := F.kept.size; omega)
  · intro i hi hik
    by_cases e : i = k
    · subst e; exact hdn
    · exact F.pre i hi (by omega)
  · refine ⟨hgrow.os.trans (hos.trans F.kept.os), hgrow.tape.trans (htp.trans F.kept.tape), hgrow.output.trans (hou.trans F.kept.output), ?_, fun q hq hA => ?_⟩
    · have h1 := hgrow.size
      have h2 := F.kept.size
      simp [World.setCell]
      omega
    · have h2 := F.kept.size
      refine (set_far _ _ _ _ _ (fun e => hA (.inl e))).trans ((set_far _ _ _ _ _ (fun e => hA (.inr (.inl e)))).trans ((hblk q (by omega) (fun e => ?_)).trans (F.kept.block q hq hA)))
      rcases hvo q e.symm with h | h
      · exact hA (.inr (.inr h))
      · omega
end Go.Proofs.Qxb6612221a.Cl
