/- WALK of what the run writes: closeText. -/
import Derived.Test.Qxb6612221aClG
namespace Go.Proofs.Qxb6612221a.Cl
open Go.RowKit
attribute [local go_sem ↓] Go.wp_at_zero Go.wp_at_succ

abbrev textCells (kB : Nat) (item : Option Addr) : Array Value := #[.pointer (some ⟨kB, 0, none⟩), .pointer item, .slice none 0 0, .int .i64 0, .int .i64 0]
abbrev kindCells (kd : ByteArray) (pt : Bool) : Array Value := #[.nilFunc, .string ⟨#[]⟩, .string kd, .bool pt, .func (.func 31) #[] #[]]
/-- the whole state -/
structure St (B0 : Nat) (sm : Bool) (rB pB lB sB tB kB g cap m : Nat) (is : List Nd) (kd : ByteArray) (pt : Bool) (ip : Option Addr) (vo : Value) (ys : List Value) (nx : Int) (vl : Value) (n : Nat) (xs : List Value) (w : World) : Prop where
  log : LogOk B0 sm rB pB lB sB (.slice (some ⟨g, 0, none⟩) is.length cap) w nx vl n xs
  items : ItemsOk g is w
  resp : RespOk sB vo w
  row : w.ownsRow B0 37 11 vo m ys
  kind : w.heap[kB]? = some (.cells (kindCells kd pt) 107 (0, 0))
  text : w.heap[tB]? = some (.cells (textCells kB ip) 100 (0, 0))
section
variable {B0 : Nat} {sm : Bool} {rB pB lB sB tB kB g cap m : Nat} {is : List Nd} {kd : ByteArray} {pt : Bool} {ip : Option Addr} {vo : Value} {ys : List Value} {nx : Int} {vl : Value} {n : Nat} {xs : List Value} {w w' : World}
theorem own_type {e : TypeId} {size : Nat} {v : Value} {q : Nat} (h : w.ownsRow B0 e size v n xs) (hq : v.ownBlock = some q) : ∃ cs, w.heap[q]? = some (.cells cs e (0, 0)) := by
  rcases h.2 with ⟨rfl, _⟩ | ⟨g, cap, cur, rfl, _, hg, _⟩
  · simp [Value.ownBlock] at hq
  · have : g = q := by simpa [Value.ownBlock] using hq
    subst this
    exact ⟨cur, hg⟩
theorem St.kept {A : Nat → Prop} {T : TypeId → Prop} (h : St B0 sm rB pB lB sB tB kB g cap m is kd pt ip vo ys nx vl n xs w) (hK : Kept A w w') (hs : Shuns A w T) (hT : T 103 ∧ T 44 ∧ T 43 ∧ T 85 ∧ T 40 ∧ T 94 ∧ T 67 ∧ T 37 ∧ T 107 ∧ T 100) : St B0 sm rB pB lB sB tB kB g cap m is kd pt ip vo ys nx vl n xs w' := by
  obtain ⟨t1, t2, t3, t4, t5, t6, t7, t8, t9, t10⟩ := hT
  refine ⟨h.log.kept hK (hs _ _ _ h.log.run t1) (hs _ _ _ h.log.box t2) (hs _ _ _ h.log.var t3) (fun q hq => ?_), h.items.kept hK hs t5 t6, h.resp.kept hK hs t7, row_kept h.row hK hs t8, (hK.block _ (lt_of_look h.kind) (hs _ _ _ h.kind t9)).trans h.kind, (hK.block _ (lt_of_look h.text) (hs _ _ _ h.text t10)).trans h.text⟩
  obtain ⟨cs, hc⟩ := own_type h.log.row hq
  exact hs _ _ _ hc t4
theorem St.emit {ev : List Value} (h : St B0 sm rB pB lB sB tB kB g cap m is kd pt ip vo ys nx vl n xs w) (he : EmitSay B0 sm rB pB lB sB (.slice (some ⟨g, 0, none⟩) is.length cap) nx n vl xs ev w w') (hr : B0 ≤ rB) (hl : B0 ≤ lB) : ∃ vl', St B0 sm rB pB lB sB tB kB g cap m is kd pt ip vo ys (nxOf sm nx) vl' (cntOf sm n) (logOf sm xs ev) w' ∧ Kept (fun k => B0 ≤ k) w w' := by
  obtain ⟨vl', hL, hK⟩ := he
  have hs := h.log.shuns
  refine ⟨vl', ⟨hL, h.items.kept hK hs (by decide) (by decide), h.resp.kept hK hs (by decide), row_kept h.row hK hs (by decide), (hK.block _ (lt_of_look h.kind) (hs _ _ _ h.kind (by decide))).trans h.kind, (hK.block _ (lt_of_look h.text) (hs _ _ _ h.text (by decide))).trans h.text⟩, hK.mono (fun k hk => ?_)⟩
  rcases hk with e | e | e
  · omega
  · omega
  · exact (h.log.row.lt _ e).1
theorem St.text_set {ip' : Option Addr} (h : St B0 sm rB pB lB sB tB kB g cap m is kd pt ip vo ys nx vl n xs w) (hK : Kept (fun k => k = tB) w w') (hT : w'.heap[tB]? = some (.cells (textCells kB ip') 100 (0, 0))) : St B0 sm rB pB lB sB tB kB g cap m is kd pt ip' vo ys nx vl n xs w' := by
  have hs := shuns_block h.text
  refine ⟨h.log.kept hK (hs _ _ _ h.log.run (by decide)) (hs _ _ _ h.log.box (by decide)) (hs _ _ _ h.log.var (by decide)) (fun q hq => ?_), h.items.kept hK hs (by decide) (by decide), h.resp.kept hK hs (by decide), row_kept h.row hK hs (by decide), (hK.block _ (lt_of_look h.kind) (hs _ _ _ h.kind (by decide))).trans h.kind, hT⟩
  obtain ⟨cs, hc⟩ := own_type h.log.row hq
  exact hs _ _ _ hc (by decide)
theorem St.hold {j : Nat} {b : Nat} {ty id st rt tx : ByteArray} {ix : Int} {dn : Bool} (h : St B0 sm rB pB lB sB tB kB g cap m is kd pt ip vo ys nx vl n xs w) (hj : j < is.length) (hnd : (⟨b, ty, id, st, rt, ix, dn⟩ : Nd) = is[j]) (hap : ∀ i (h : i < is.length), i ≠ j → is[i].b ≠ is[j].b) (hw : w' = (w.setCell ⟨b, 10, none⟩ (.string tx))) :
    St B0 sm rB pB lB sB tB kB g cap m (is.set j ⟨b, ty, id, st, tx, ix, dn⟩) kd pt ip vo ys nx vl n xs w' := by
  have hI := h.items.item j hj
  have hbj : is[j].b = b := by rw [← hnd]
  have hK : Kept (fun k => k = is[j].b) w w' := by rw [hw, hbj]; exact Kept.set _ _ b 10 _ rfl
  have hs := shuns_block hI
  have hI' : w'.heap[is[j].b]? = some (.cells (siCells ty id st tx ix dn) 94 (0, 0)) := by
    rw [← hnd] at hI ⊢
    rw [hw]
    exact set_same _ _ _ _ _ _ _ hI
  refine ⟨?_, items_set (nd := ⟨b, ty, id, st, tx, ix, dn⟩) h.items hj hap hbj.symm hK hI', h.resp.kept hK hs (by decide), row_kept h.row hK hs (by decide), (hK.block _ (lt_of_look h.kind) (hs _ _ _ h.kind (by decide))).trans h.kind, (hK.block _ (lt_of_look h.text) (hs _ _ _ h.text (by decide))).trans h.text⟩
  rw [List.length_set]
  refine h.log.kept hK (hs _ _ _ h.log.run (by decide)) (hs _ _ _ h.log.box (by decide)) (hs _ _ _ h.log.var (by decide)) (fun q hq => ?_)
  obtain ⟨cs, hc⟩ := own_type h.log.row hq
  exact hs _ _ _ hc (by decide)
theorem St.done {b : Nat} {cs : Array Value} (h : St B0 sm rB pB lB sB tB kB g cap m is kd pt ip vo ys nx vl n xs w) (hb : w.heap[b]? = some (.cells cs 94 (0, 0))) (hK : Kept (fun q => q = rB ∨ q = lB ∨ vl.ownBlock = some q ∨ q = b ∨ q = sB ∨ vo.ownBlock = some q) w w') (b1 : B0 ≤ rB) (b2 : B0 ≤ lB) (b4 : B0 ≤ sB) (b5 : B0 ≤ b) :
    w'.heap[tB]? = some (.cells (textCells kB ip) 100 (0, 0)) ∧ Kept (fun k => B0 ≤ k) w w' := by
  obtain ⟨rc, hrc, _⟩ := h.resp
  refine ⟨(hK.block _ (lt_of_look h.text) ?_).trans h.text, hK.mono (fun q hA => ?_)⟩
  · rintro (e | e | e | e | e | e)
    · exact ty_ne h.text h.log.run (by decide) e
    · exact ty_ne h.text h.log.var (by decide) e
    · exact typ_ne h.text h.log.row (by decide) e
    · exact ty_ne h.text hb (by decide) e
    · exact ty_ne h.text hrc (by decide) e
    · exact typ_ne h.text h.row (by decide) e
  · rcases hA with e | e | e | e | e | e
    · omega
    · omega
    · exact (h.log.row.lt _ e).1
    · omega
    · omega
    · exact (h.row.lt _ e).1
theorem St.below (h : St B0 sm rB pB lB sB tB kB g cap m is kd pt ip vo ys nx vl n xs w) (hb : Below w.heap.size w w') : St B0 sm rB pB lB sB tB kB g cap m is kd pt ip vo ys nx vl n xs w' :=
  h.kept (A := fun _ => False) (T := fun _ => True) ⟨hb.os, hb.tape, hb.output, hb.size, fun k hk _ => hb.block k hk⟩ (fun _ _ _ _ _ h => h) (by decide)
end
abbrev ev1 (kd : ByteArray) (nx ix : Int) (id tx : ByteArray) : List Value := (evCells kd nx ix eS eS eS eS id eS eS (.slice none 0 0) (.slice none 0 0) tx).toList
abbrev ev2 (nx ix : Int) (id tx : ByteArray) (x y : Addr) : List Value := (evCells partDoneS nx ix eS eS eS eS id otS tx (.slice (some x) 0 0) (.slice (some y) 0 0) eS).toList
abbrev ev3 (nx ix : Int) (ty id status tx : ByteArray) : List Value := (evCells itemDoneS nx ix ty id status tx eS eS eS (.slice none 0 0) (.slice none 0 0) eS).toList
/-- the state when closeText has ended -/
def CloseSay (B0 : Nat) (sm pt : Bool) (rB pB lB sB tB kB g cap m j : Nat) (is : List Nd) (nd : Nd) (nx : Int) (kd tx status : ByteArray) (vo : Value) (ys : List Value) (w w' : World) : Prop :=
  ∃ vl' w3 k x y, (∃ nx' n' xs', (if pt = true then nx' = nxOf sm (nxOf sm (nxOf sm nx)) ∧ n' = cntOf sm (cntOf sm (cntOf sm 0)) ∧ xs' = logOf sm (logOf sm (logOf sm [] (ev1 kd nx nd.ix nd.id tx)) (ev2 (nxOf sm nx) nd.ix nd.id tx x y)) (ev3 (nxOf sm (nxOf sm nx)) nd.ix nd.ty nd.id status tx)
      else nx' = nxOf sm (nxOf sm nx) ∧ n' = cntOf sm (cntOf sm 0) ∧ xs' = logOf sm (logOf sm [] (ev1 kd nx nd.ix nd.id tx)) (ev3 (nxOf sm nx) nd.ix nd.ty nd.id status tx)) ∧
    Fl B0 sm rB pB lB sB g cap m (is.set j ⟨nd.b, nd.ty, nd.id, status, tx, nd.ix, true⟩) nx' vl' n' xs' ys vo w3 k w') ∧
    (∀ h : k < (is.set j ⟨nd.b, nd.ty, nd.id, status, tx, nd.ix, true⟩).length, (is.set j ⟨nd.b, nd.ty, nd.id, status, tx, nd.ix, true⟩)[k].dn = false) ∧
    w'.heap[tB]? = some (.cells (textCells kB none) 100 (0, 0)) ∧ Kept (fun k => B0 ≤ k) w w'
set_option maxRecDepth 100000 in
set_option maxHeartbeats 4000000 in
theorem close_any (B0 : Nat) (sm pt : Bool) (rB pB lB sB tB kB g cap m j : Nat) (is : List Nd) (nd : Nd) (hj : j < is.length) (hnd : nd = is[j]) (nx : Int) (kd tx status : ByteArray) (vl vo : Value) (ys : List Value) (w : World)
    (h : St B0 sm rB pB lB sB tB kB g cap m is kd pt (some ⟨nd.b, 0, none⟩) vo ys nx vl 0 [] w) (hap : ∀ i (h : i < is.length), i ≠ j → is[i].b ≠ is[j].b) (hcap : is.length ≤ cap) (hm : m + is.length ≤ 2097152)
    (b1 : B0 ≤ rB) (b2 : B0 ≤ lB) (b3 : B0 ≤ tB) (b4 : B0 ≤ sB) (b5 : B0 ≤ nd.b) :
    Calls Try.prog 32 #[.pointer (some ⟨rB, 0, none⟩), .pointer (some ⟨tB, 0, none⟩), .string tx, .string status] w fun e w' => e = .returned (.tuple #[]) ∧ CloseSay B0 sm pt rB pB lB sB tB kB g cap m j is nd nx kd tx status vo ys w w' := by
  have hT := h.text
  have t1 : w.cell? ⟨tB, 1, none⟩ = some (.pointer (some ⟨nd.b, 0, none⟩)) := cell_look hT
  have t2 : w.cell? ⟨tB, 2, none⟩ = some (.slice none 0 0) := cell_look hT
  have t3 : w.cell? ⟨tB, 3, none⟩ = some (.int .i64 0) := cell_look hT
  have t4 : w.cell? ⟨tB, 4, none⟩ = some (.int .i64 0) := cell_look hT
  have tf : ∀ k, w.frozen? ⟨tB, k, none⟩ = false := fun k => frozen_look hT
  obtain ⟨b, ty, id, st, rt, ix, dn⟩ := nd
  dsimp only at t1 hT ⊢
  have HS : Hid (St B0 sm rB pB lB sB tB kB g cap m is kd pt (some ⟨b, 0, none⟩) vo ys nx vl 0 [] w) := h
  clear h
  go_enter Try.func32, Try.ntmps32
  go_wp2_with fail
  refine wp_region_tail 19 (by kernel_rfl) (by kernel_rfl) ?_
  intro w2 hw2
  change w2 = ((((w.setCell ⟨tB, 1, none⟩ _).setCell ⟨tB, 2, none⟩ _).setCell ⟨tB, 3, none⟩ _).setCell ⟨tB, 4, none⟩ _).drew at hw2
  have hT2 : w2.heap[tB]? = some (.cells (textCells kB none) 100 (0, 0)) := by
    rw [hw2]
    exact set_same _ _ _ _ _ _ _ (set_same _ _ _ _ _ _ _ (set_same _ _ _ _ _ _ _ (set_same _ _ _ _ _ _ _ hT)))
  have hK2 : Kept (fun k => k = tB) w w2 := by
    rw [hw2]
    exact ((((Kept.set (fun k => k = tB) w tB 1 _ rfl).trans (Kept.set _ _ tB 2 _ rfl)).trans (Kept.set _ _ tB 3 _ rfl)).trans (Kept.set _ _ tB 4 _ rfl)).trans (Kept.drew _ _)
  have S2 : St B0 sm rB pB lB sB tB kB g cap m is kd pt none vo ys nx vl 0 [] w2 := HS.out.text_set hK2 hT2
  clear hw2 t1 t2 t3 t4 tf
  have HK2 : Hid (Kept (fun k => B0 ≤ k) w w2) := hK2.mono (fun k e => by omega)
  clear hK2 HS hT
  have hI : w2.heap[is[j].b]? = some (.cells (siCells is[j].ty is[j].id is[j].st is[j].rt is[j].ix is[j].dn) 94 (0, 0)) := S2.items.item j hj
  rw [← hnd] at hI
  dsimp only at hI
  have c1 : w2.cell? ⟨tB, 0, none⟩ = some (.pointer (some ⟨kB, 0, none⟩)) := cell_look S2.text
  have c2 : w2.cell? ⟨kB, 2, none⟩ = some (.string kd) := cell_look S2.kind
  have c3 : w2.cell? ⟨b, 1, none⟩ = some (.string id) := cell_look hI
  have c4 : w2.cell? ⟨b, 11, none⟩ = some (.int .i64 ix) := cell_look hI
  simp only [List.take_succ_cons, List.take_zero, List.drop_succ_cons, List.drop_zero]
  iterate 19 still_step
  refine wpStill_nil ?_
  go_wp2_with fail
  refine (emit_any B0 sm rB pB lB sB 0 _ nx _ ix eS eS eS eS id eS eS none none 0 0 0 0 tx vl [] w2 S2.log (by omega)).mono ?_
  rintro e w3 ⟨rfl, hE⟩
  obtain ⟨vl3, S3, hK3⟩ := S2.emit hE b1 b2
  have HK3 : Hid (Kept (fun k => B0 ≤ k) w w3) := HK2.out.trans hK3
  clear hE HK2 hK3 hI c1 c2 c3 c4 hT2 S2
  have hI : w3.heap[is[j].b]? = some (.cells (siCells is[j].ty is[j].id is[j].st is[j].rt is[j].ix is[j].dn) 94 (0, 0)) := S3.items.item j hj
  rw [← hnd] at hI
  dsimp only at hI
  have c1 : w3.cell? ⟨tB, 0, none⟩ = some (.pointer (some ⟨kB, 0, none⟩)) := cell_look S3.text
  have c2 : w3.cell? ⟨kB, 3, none⟩ = some (.bool pt) := cell_look S3.kind
  have c3 : w3.cell? ⟨b, 1, none⟩ = some (.string id) := cell_look hI
  have c4 : w3.cell? ⟨b, 11, none⟩ = some (.int .i64 ix) := cell_look hI
  have HS3 : Hid (St B0 sm rB pB lB sB tB kB g cap m is kd pt none vo ys (nxOf sm nx) vl3 (cntOf sm 0) (logOf sm [] (ev1 kd nx ix id tx)) w3) := S3
  clear S3
  cases pt with
  | false =>
    go_wp2_with fail
    refine wp_region_tail 11 (by kernel_rfl) (by kernel_rfl) ?_
    intro w6 hw6
    have S6 : St B0 sm rB pB lB sB tB kB g cap m is kd false none vo ys (nxOf sm nx) vl3 (cntOf sm 0) (logOf sm [] (ev1 kd nx ix id tx)) w6 := by rw [hw6]; exact HS3.out.below (below_drewN (Below.refl _ _) 1)
    have HK6 : Hid (Kept (fun k => B0 ≤ k) w w6) := by rw [hw6]; exact (HK3.out.trans (Kept.drew _ _))
    clear hw6
    have hI : w6.heap[is[j].b]? = some (.cells (siCells is[j].ty is[j].id is[j].st is[j].rt is[j].ix is[j].dn) 94 (0, 0)) := S6.items.item j hj
    rw [← hnd] at hI
    dsimp only at hI
    have c1 : w6.cell? ⟨tB, 0, none⟩ = some (.pointer (some ⟨kB, 0, none⟩)) := cell_look S6.text
    have c2 : w6.cell? ⟨kB, 4, none⟩ = some (.func (.func 31) #[] #[]) := cell_look S6.kind
    simp only [List.take_succ_cons, List.take_zero, List.drop_succ_cons, List.drop_zero]
    iterate 11 still_step
    refine wpStill_nil ?_
    go_wp2_with fail
    refine (hold_any b tx _ w6 hI ⟨_, rfl⟩).mono ?_
    rintro e w7 ⟨rfl, hw7⟩
    have S7 := S6.hold (w' := w7) hj hnd hap hw7
    have HK7 : Hid (Kept (fun k => B0 ≤ k) w w7) := by rw [hw7]; exact (HK6.out.trans (Kept.set _ _ b 10 _ b5))
    have HI7 : Hid (w7.heap[b]? = some (.cells (siCells ty id st tx ix dn) 94 (0, 0))) := by rw [hw7]; exact set_same _ _ _ _ _ _ _ hI
    clear hw7 hI c1 c2 S6 HK6
    go_wp2_with fail
    have hj' : j < (is.set j ⟨b, ty, id, st, tx, ix, dn⟩).length := by simpa using hj
    have hap' : ∀ i (h : i < (is.set j ⟨b, ty, id, st, tx, ix, dn⟩).length), i ≠ j → (is.set j ⟨b, ty, id, st, tx, ix, dn⟩)[i].b ≠ (is.set j ⟨b, ty, id, st, tx, ix, dn⟩)[j].b := fun i h hne => by
      have h' : i < is.length := by simpa using h
      have := hap i h' hne
      rw [← hnd] at this
      simpa [List.getElem_set, Ne.symm hne] using this
    refine (done_any B0 sm rB pB lB sB (cntOf sm 0) g cap m j (is.set j ⟨b, ty, id, st, tx, ix, dn⟩) ⟨b, ty, id, st, tx, ix, dn⟩ hj' (by simp) (nxOf sm nx) status vl3 vo (logOf sm [] (ev1 kd nx ix id tx)) ys w7 S7.log (by unfold cntOf; split <;> omega) S7.items hap' (by simpa using hcap) (by simpa using hm) S7.resp S7.row).mono ?_
    rintro e w8 ⟨rfl, vl8, w0, k, hF, hst, _, hK8⟩
    obtain ⟨hT8, hK8'⟩ := S7.done HI7.out hK8 b1 b2 b4 b5
    have HFin : Hid (CloseSay B0 sm false rB pB lB sB tB kB g cap m j is ⟨b, ty, id, st, rt, ix, dn⟩ nx kd tx status vo ys w w8) := by
      dsimp only at hF hst
      rw [List.set_set] at hF
      simp only [List.set_set] at hst
      exact ⟨vl8, w0, k, ⟨0, 0, none⟩, ⟨0, 0, none⟩, ⟨_, _, _, by rw [if_neg (by decide)]; exact ⟨rfl, rfl, rfl⟩, hF⟩, hst, hT8, HK7.out.trans hK8'⟩
    clear hF hst hK8 hK8' hT8 S7 HK7 HI7
    go_wp2
    exact ⟨rfl, .tuple #[], by simp [results, Try.results32, go_sem], rfl, HFin.out⟩
  | true =>
    have hn0 : cntOf sm 0 ≤ 3 := by unfold cntOf; split <;> omega
    have HI : Hid (∀ wx vlx nx' n' xs', St B0 sm rB pB lB sB tB kB g cap m is kd true none vo ys nx' vlx n' xs' wx → wx.cell? ⟨b, 1, none⟩ = some (.string id) ∧ wx.cell? ⟨b, 11, none⟩ = some (.int .i64 ix)) := fun wx vlx nx' n' xs' hx => by
      have := hx.items.item j hj
      rw [← hnd] at this
      exact ⟨cell_look this, cell_look this⟩
    go_wp2_with fail
    go_region_held3 (fun w' => w'.cell? ⟨b, 1, none⟩ = some (.string id) ∧ w'.cell? ⟨b, 11, none⟩ = some (.int .i64 ix)) (first | exact ⟨c3, c4⟩ | exact HI.out _ _ _ _ _ S4 | exact HI.out _ _ _ _ _ S5 | fail "not kept") (first
      | (go_at_call 35; refine (newText_any tx _).mono ?_; rintro e w4 ⟨rfl, hb⟩; have S4 := (HS3.out.below (below_drewN (Below.refl _ _) 1)).below hb)
      | (go_at_call 34; refine (emit_any B0 sm rB pB lB sB (cntOf sm 0) _ (nxOf sm nx) _ ix eS eS eS eS id otS tx (some ⟨w3.heap.size + 1, 0, none⟩) (some ⟨w3.heap.size + 1 + 1, 0, none⟩) 0 0 0 0 eS vl3 (logOf sm [] (ev1 kd nx ix id tx)) _ S4.log hn0).mono ?_; rintro e w5 ⟨rfl, hE⟩; obtain ⟨vl5, S5, hK5⟩ := S4.emit hE b1 b2)
      | fail "no contract")
    have HK5 : Hid (Kept (fun k => B0 ≤ k) w w5) := ((HK3.out.trans (Kept.drew _ _)).trans ⟨hb.os, hb.tape, hb.output, hb.size, fun q hq _ => hb.block q hq⟩).trans hK5
    clear hE hK5 hb S4 HI HS3 HK3
    go_wp2_with fail
    refine wp_region_tail 11 (by kernel_rfl) (by kernel_rfl) ?_
    intro w6 hw6
    have S6 : St B0 sm rB pB lB sB tB kB g cap m is kd true none vo ys (nxOf sm (nxOf sm nx)) vl5 (cntOf sm (cntOf sm 0)) (logOf sm (logOf sm [] (ev1 kd nx ix id tx)) (ev2 (nxOf sm nx) ix id tx ⟨w3.heap.size + 1, 0, none⟩ ⟨w3.heap.size + 1 + 1, 0, none⟩)) w6 := by rw [hw6]; exact S5.below (below_drewN (Below.refl _ _) 1)
    have HK6 : Hid (Kept (fun k => B0 ≤ k) w w6) := by rw [hw6]; exact (HK5.out.trans (Kept.drew _ _))
    clear hw6
    have hI : w6.heap[is[j].b]? = some (.cells (siCells is[j].ty is[j].id is[j].st is[j].rt is[j].ix is[j].dn) 94 (0, 0)) := S6.items.item j hj
    rw [← hnd] at hI
    dsimp only at hI
    have c1 : w6.cell? ⟨tB, 0, none⟩ = some (.pointer (some ⟨kB, 0, none⟩)) := cell_look S6.text
    have c2 : w6.cell? ⟨kB, 4, none⟩ = some (.func (.func 31) #[] #[]) := cell_look S6.kind
    simp only [List.take_succ_cons, List.take_zero, List.drop_succ_cons, List.drop_zero]
    iterate 11 still_step
    refine wpStill_nil ?_
    go_wp2_with fail
    refine (hold_any b tx _ w6 hI ⟨_, rfl⟩).mono ?_
    rintro e w7 ⟨rfl, hw7⟩
    have S7 := S6.hold (w' := w7) hj hnd hap hw7
    have HK7 : Hid (Kept (fun k => B0 ≤ k) w w7) := by rw [hw7]; exact (HK6.out.trans (Kept.set _ _ b 10 _ b5))
    have HI7 : Hid (w7.heap[b]? = some (.cells (siCells ty id st tx ix dn) 94 (0, 0))) := by rw [hw7]; exact set_same _ _ _ _ _ _ _ hI
    clear hw7 hI c1 c2 S6 HK6
    go_wp2_with fail
    have hj' : j < (is.set j ⟨b, ty, id, st, tx, ix, dn⟩).length := by simpa using hj
    have hap' : ∀ i (h : i < (is.set j ⟨b, ty, id, st, tx, ix, dn⟩).length), i ≠ j → (is.set j ⟨b, ty, id, st, tx, ix, dn⟩)[i].b ≠ (is.set j ⟨b, ty, id, st, tx, ix, dn⟩)[j].b := fun i h hne => by
      have h' : i < is.length := by simpa using h
      have := hap i h' hne
      rw [← hnd] at this
      simpa [List.getElem_set, Ne.symm hne] using this
    refine (done_any B0 sm rB pB lB sB (cntOf sm (cntOf sm 0)) g cap m j (is.set j ⟨b, ty, id, st, tx, ix, dn⟩) ⟨b, ty, id, st, tx, ix, dn⟩ hj' (by simp) (nxOf sm (nxOf sm nx)) status vl5 vo (logOf sm (logOf sm [] (ev1 kd nx ix id tx)) (ev2 (nxOf sm nx) ix id tx ⟨w3.heap.size + 1, 0, none⟩ ⟨w3.heap.size + 1 + 1, 0, none⟩)) ys w7 S7.log (by unfold cntOf; split <;> simp) S7.items hap' (by simpa using hcap) (by simpa using hm) S7.resp S7.row).mono ?_
    rintro e w8 ⟨rfl, vl8, w0, k, hF, hst, _, hK8⟩
    obtain ⟨hT8, hK8'⟩ := S7.done HI7.out hK8 b1 b2 b4 b5
    have HFin : Hid (CloseSay B0 sm true rB pB lB sB tB kB g cap m j is ⟨b, ty, id, st, rt, ix, dn⟩ nx kd tx status vo ys w w8) := by
      dsimp only at hF hst
      rw [List.set_set] at hF
      simp only [List.set_set] at hst
      exact ⟨vl8, w0, k, ⟨w3.heap.size + 1, 0, none⟩, ⟨w3.heap.size + 1 + 1, 0, none⟩, ⟨_, _, _, by rw [if_pos rfl]; exact ⟨rfl, rfl, rfl⟩, hF⟩, hst, hT8, HK7.out.trans hK8'⟩
    clear hF hst hK8 hK8' hT8 S7 HK7 HI7
    go_wp2
    exact ⟨rfl, .tuple #[], by simp [results, Try.results32, go_sem], rfl, HFin.out⟩
end Go.Proofs.Qxb6612221a.Cl
