/- WALK of what the run writes: done. -/
import Derived.Test.Qxb6612221aClF
namespace Go.Proofs.Qxb6612221a.Cl
open Go.RowKit
attribute [local go_sem ↓] Go.wp_at_zero Go.wp_at_succ
theorem setCell_here {w : World} {b o : Nat} {x v : Value} (h : w.cell? ⟨b, o, none⟩ = some x) : (w.setCell ⟨b, o, none⟩ v).cell? ⟨b, o, none⟩ = some v := by
  unfold World.cell? at h
  split at h
  · rename_i c t fr hb
    simp only [Option.isSome_none, Bool.false_eq_true, if_false] at h
    rw [cell_look (set_same w b o v c t fr hb)]
    have := (Array.getElem?_eq_some_iff.1 h).1
    simp [this]
  · cases h
theorem openLen_at {w : World} {rB : Nat} {a : Option Addr} {n c : Nat} (h : w.cell? ⟨rB, 13, none⟩ = some (.slice a n c)) : openLen rB w = n := by simp [openLen, h]
def DoneSay (B0 : Nat) (sm : Bool) (rB pB lB sB g cap m : Nat) (is' : List Nd) (nx' : Int) (n' : Nat) (xs' ys : List Value) (vo : Value) (A : Nat → Prop) (w w' : World) : Prop :=
  ∃ vl' w3 k, Fl B0 sm rB pB lB sB g cap m is' nx' vl' n' xs' ys vo w3 k w' ∧ (∀ h : k < is'.length, is'[k].dn = false) ∧ w.heap.size ≤ w3.heap.size ∧ Kept A w w'
set_option maxRecDepth 100000 in
set_option maxHeartbeats 4000000 in
theorem done_any (B0 : Nat) (sm : Bool) (rB pB lB sB n g cap m j : Nat) (is : List Nd) (nd : Nd) (hj : j < is.length) (hnd : nd = is[j]) (nx : Int) (status : ByteArray) (vl vo : Value) (xs ys : List Value) (w : World)
    (h : LogOk B0 sm rB pB lB sB (.slice (some ⟨g, 0, none⟩) is.length cap) w nx vl n xs) (hn : n ≤ 3) (hIs : ItemsOk g is w) (hap : ∀ i (h : i < is.length), i ≠ j → is[i].b ≠ is[j].b) (hcap : is.length ≤ cap) (hm : m + is.length ≤ 2097152)
    (hR : RespOk sB vo w) (hO : w.ownsRow B0 37 11 vo m ys) :
    Calls Try.prog 36 #[.pointer (some ⟨rB, 0, none⟩), .pointer (some ⟨nd.b, 0, none⟩), .string status] w fun e w' => e = .returned (.tuple #[]) ∧
      DoneSay B0 sm rB pB lB sB g cap m (is.set j ⟨nd.b, nd.ty, nd.id, status, nd.rt, nd.ix, true⟩) (nxOf sm nx) (cntOf sm n) (logOf sm xs (evCells itemDoneS nx nd.ix nd.ty nd.id status nd.rt eS eS eS (.slice none 0 0) (.slice none 0 0) eS).toList) ys vo
        (fun q => q = rB ∨ q = lB ∨ vl.ownBlock = some q ∨ q = nd.b ∨ q = sB ∨ vo.ownBlock = some q) w w' := by
  have hI : w.heap[is[j].b]? = some (.cells (siCells is[j].ty is[j].id is[j].st is[j].rt is[j].ix is[j].dn) 94 (0, 0)) := hIs.item j hj
  have HIs : Hid (ItemsOk g is w) := hIs
  have Hap : Hid (∀ i (h : i < is.length), i ≠ j → is[i].b ≠ is[j].b) := hap
  clear hIs hap
  rw [← hnd] at hI
  obtain ⟨b, ty, id, st, rt, ix, dn⟩ := nd
  dsimp only at hI ⊢
  generalize hgi : is.set j ⟨b, ty, id, status, rt, ix, true⟩ = is'
  generalize hgx : nxOf sm nx = nx'
  generalize hgn : cntOf sm n = n'
  generalize hgl : logOf sm xs (evCells itemDoneS nx ix ty id status rt eS eS eS (.slice none 0 0) (.slice none 0 0) eS).toList = xs'
  have hlen : is'.length = is.length := by rw [← hgi]; simp
  have hi2 : w.cell? ⟨b, 2, none⟩ = some (.string st) := cell_look hI
  have hi12 : w.cell? ⟨b, 12, none⟩ = some (.bool dn) := cell_look hI
  have hif : ∀ k, w.frozen? ⟨b, k, none⟩ = false := fun k => frozen_look hI
  have hi37 : (Try.prog.info? 37).map (·.size) = some ((siCells ty id status rt ix true).toList.take 11).length := by kernel_rfl
  have hrun := eql_fn
  go_enter Try.func36, Try.ntmps36
  go_wp2_with fail
  refine wp_region_tail 10 (by kernel_rfl) (by kernel_rfl) ?_
  intro w2 hw2
  change w2 = ((w.setCell ⟨b, 2, none⟩ (.string status)).setCell ⟨b, 12, none⟩ (.bool true)).drew at hw2
  have hI2 : w2.heap[b]? = some (.cells (siCells ty id status rt ix true) 94 (0, 0)) := by rw [hw2]; exact set_same _ _ _ _ _ _ _ (set_same _ _ _ _ _ _ _ hI)
  have hK2 : Kept (fun k => k = b) w w2 := by rw [hw2]; exact ((Kept.set (fun k => k = b) w b 2 _ rfl).trans (Kept.set (fun k => k = b) _ b 12 _ rfl)).trans (Kept.drew _ _)
  obtain ⟨n1, n2, n3, n4⟩ := h.far hI (by decide)
  have hL2 := h.kept hK2 n1 n2 n3 (fun g hg e => n4 (by rw [← e]; exact hg))
  clear hw2 hi2 hi12 hif
  have hx11 : w2.cell? ⟨b, 11, none⟩ = some (.int .i64 ix) := cell_look hI2
  have hr37 := range_take hI2 11
  simp only [List.take_succ_cons, List.take_zero, List.drop_succ_cons, List.drop_zero]
  still_step
  still_step
  still_step
  still_step
  still_step
  still_step
  still_step
  still_step
  refine still_load_mid rfl 37 (.tmp 21) rfl b 0 rfl _ _ hr37 Try.underlying37 rfl hi37 ?_
  still_step
  refine wpStill_nil ?_
  go_wp2_with fail
  refine (emit_any B0 sm rB pB lB sB n _ nx _ ix ty id status rt eS eS eS none none 0 0 0 0 eS vl xs w2 hL2 hn).mono ?_
  rintro e w3 ⟨rfl, vl', hL3, hK3⟩
  have HF : Fl B0 sm rB pB lB sB g cap m is' nx' vl' n' xs' ys vo w3 0 w3 := by
    rw [hgx, hgn] at hL3
    have hL3' : LogOk B0 sm rB pB lB sB (.slice (some ⟨g, 0, none⟩) is.length cap) w3 nx' vl' n' xs' := by rw [← hgl]; exact hL3
    rw [← hgi]
    have hbj : is[j].b = b := by rw [← hnd]
    have hK2' : Kept (fun k => k = is[j].b) w w2 := by rw [hbj]; exact hK2
    have s2 := shuns_block hI
    have s3 := hL2.shuns
    have i2 := items_set (nd := ⟨b, ty, id, status, rt, ix, true⟩) HIs.out hj Hap.out hbj.symm hK2' (by rw [hbj]; exact hI2)
    have r2 := hR.kept hK2 s2 (by decide)
    have o2 := row_kept hO hK2 s2 (by decide)
    exact ⟨Nat.zero_le _, ⟨0, fun _ => rfl, by simpa using hL3'⟩, i2.kept hK3 s3 (by decide) (by decide), ⟨vo, r2.kept hK3 s3 (by decide), by simpa using row_kept o2 hK3 s3 (by decide), fun q hq => .inl hq⟩, fun i _ h => absurd h (Nat.not_lt_zero _), ⟨rfl, rfl, rfl, Nat.le_refl _, fun _ _ _ => rfl⟩⟩
  have HKW : Hid (Kept (fun q => q = rB ∨ q = lB ∨ vl.ownBlock = some q ∨ q = b ∨ q = sB ∨ vo.ownBlock = some q) w w3) :=
    (hK2.mono (fun q e => .inr (.inr (.inr (.inl e))))).trans (hK3.mono (fun q e => by rcases e with e | e | e; exact .inl e; exact .inr (.inl e); exact .inr (.inr (.inl e))))
  clear hgi hgx hgn hgl hK2 hK3 hL2 hL3 hI2 hx11 hr37 hi37 hrun hI HIs Hap hR hO h
  go_wp2
  go_loopw [41] (fun _ wr => ∃ k, Fl B0 sm rB pB lB sB g cap m is' nx' vl' n' xs' ys vo w3 k wr) (fun _ wr => openLen rB wr)
  case atStart => exact ⟨0, HF⟩
  case round =>
    clear HF
    obtain ⟨k, F⟩ := hrel
    have HF : Hid (Fl B0 sm rB pB lB sB g cap m is' nx' vl' n' xs' ys vo w3 k wr) := F
    obtain ⟨a0, ha0, hL0⟩ := F.log
    have r13 : wr.cell? ⟨rB, 13, none⟩ = some (.slice (some ⟨g, a0, none⟩) (is'.length - k) (cap - k)) := cell_look hL0.run
    have kle := F.le
    generalize hd : is'.length - k = d at r13
    generalize hc : cap - k = c at r13
    by_cases hk : k < is'.length
    · have hak : k = a0 := (ha0 hk).symm
      subst hak
      obtain ⟨⟨cs, hcs, hrow⟩, hit⟩ := F.items
      have c1 : wr.cell? ⟨g, k, none⟩ = some (.pointer (some ⟨is'[k].b, 0, none⟩)) := (cell_look hcs).trans (hrow k hk)
      have hitk : wr.heap[is'[k].b]? = some (.cells (siCells is'[k].ty is'[k].id is'[k].st is'[k].rt is'[k].ix is'[k].dn) 94 (0, 0)) := hit k hk
      have c2 : wr.cell? ⟨is'[k].b, 12, none⟩ = some (.bool is'[k].dn) := cell_look hitk
      have d0 : (0 : Int) < (d : Int) := by omega
      have d1 : 0 < d := by omega
      obtain ⟨nd, hnd'⟩ : ∃ nd, nd = is'[k] := ⟨_, rfl⟩
      rw [← hnd'] at c1 hitk c2
      have c1' := hrow k hk
      rw [← hnd'] at c1'
      clear hrow hit F
      obtain ⟨b', ty', id', st', rt', ix', dn'⟩ := nd
      dsimp only at c1 hitk c2
      cases dn' with
      | false =>
        go_wp2
        refine ⟨rfl, .tuple #[], by simp [results, Try.results36, go_sem], rfl, vl', w3, k, HF.out, fun h => by rw [← hnd'], HKW.out.size, HKW.out.trans (HF.out.kept.mono (fun q e => ?_))⟩
        rcases e with e | e | e
        · exact .inl e
        · exact .inr (.inr (.inr (.inr (.inl e))))
        · exact .inr (.inr (.inr (.inr (.inr e))))
      | true =>
        obtain ⟨vo', ⟨rc, hrc, hrc9⟩, hown, hvo⟩ := HF.out.resp
        have hrunB := hL0.run
        have hbas := hL0.base
        generalize hys : ys ++ (is'.take k).flatMap Nd.item = ys' at hown
        have r13' : (runCells sB (sendOf sm pB) nx' (.slice (some ⟨g, k, none⟩) (is'.length - k) (cap - k)))[13]? = some (.slice (some ⟨g, k, none⟩) d c) := by rw [hd, hc]; rfl
        have r0 : wr.cell? ⟨rB, 0, none⟩ = some (.pointer (some ⟨sB, 0, none⟩)) := cell_look hrunB
        have hr11 := range_take hitk 11
        have nsr : rB ≠ sB := ty_ne hrunB hrc (by decide)
        have nsg : g ≠ sB := ty_ne hcs hrc (by decide)
        have nsb : b' ≠ sB := ty_ne hitk hrc (by decide)
        have ha1 : ∀ o, (wr.drew.alloc o).cell? ⟨rB, 0, none⟩ = some (.pointer (some ⟨sB, 0, none⟩)) := fun o => cell_look (w := wr.drew.alloc o) ((heap_alloc_old wr.drew o (lt_of_look hrunB)).trans hrunB)
        have ha2 : ∀ o, (wr.drew.alloc o).cell? ⟨rB, 13, none⟩ = some (.slice (some ⟨g, k, none⟩) d c) := fun o => (cell_look (w := wr.drew.alloc o) ((heap_alloc_old wr.drew o (lt_of_look hrunB)).trans hrunB)).trans r13'
        have ha3 : ∀ o, (wr.drew.alloc o).cell? ⟨g, k, none⟩ = some (.pointer (some ⟨b', 0, none⟩)) := fun o => (cell_look (w := wr.drew.alloc o) ((heap_alloc_old wr.drew o (lt_of_look hcs)).trans hcs)).trans c1'
        have ha4 : ∀ o, (wr.drew.alloc o).rangeAt b' 0 ((siCells ty' id' st' rt' ix' true).toList.take 11) := fun o => range_take (w := wr.drew.alloc o) ((heap_alloc_old wr.drew o (lt_of_look hitk)).trans hitk) 11
        have hi37 : (Try.prog.info? 37).map (·.size) = some ((siCells ty' id' st' rt' ix' true).toList.take 11).length := by kernel_rfl
        obtain ⟨i0, hi0, hz0, hz1, hz2⟩ := info_parts info37
        go_wp2_with fail
        refine wp_region_held_drew (S := (fun w' => w'.cell? ⟨rB, 0, none⟩ = some (.pointer (some ⟨sB, 0, none⟩)) ∧ w'.cell? ⟨rB, 13, none⟩ = some (.slice (some ⟨g, k, none⟩) d c) ∧ w'.cell? ⟨g, k, none⟩ = some (.pointer (some ⟨b', 0, none⟩)) ∧ w'.rangeAt b' 0 ((siCells ty' id' st' rt' ix' true).toList.take 11))) (by kernel_rfl) ⟨r0, r13, c1, hr11⟩ (fun hHeld => ?_)
        refine wpAnyH_take (i := 0) (oi := { dst := some 42, op := Op.move (Operand.tmp 0), type := 68, pos := "run.go:184", after := #[], guard := none }) (v := ?_) rfl (by kernel_rfl) (by kernel_rfl) (by kernel_rfl) (fun _ _ _ h => h) (Or.inl ⟨by rfl, ?_⟩) (by assumption) ?_
        rotate_left
        · (intro w hSw; (try dsimp only at hSw); go_simp; try with_reducible rfl)
        try simp only [Act.put, List.setIfInBounds_toArray, List.set_cons_zero, List.set_cons_succ]
        refine wpAnyH_take (i := 1) (oi := { dst := some 43, op := Op.nilCheck (Operand.tmp 42), type := 0, pos := "run.go:184", after := #[{ on := 0, ground := Ground.data }], guard := none }) (v := ?_) rfl (by kernel_rfl) (by kernel_rfl) (by kernel_rfl) (fun _ _ _ h => h) (Or.inl ⟨by rfl, ?_⟩) (by assumption) ?_
        rotate_left
        · (intro w hSw; (try dsimp only at hSw); go_simp; try with_reducible rfl)
        try simp only [Act.put, List.setIfInBounds_toArray, List.set_cons_zero, List.set_cons_succ]
        refine wpAnyH_take (i := 2) (oi := { dst := some 44, op := Op.fieldAddr 103 (Operand.tmp 43) 0, type := 0, pos := "run.go:184", after := #[{ on := 1, ground := Ground.data }], guard := none }) (v := ?_) rfl (by kernel_rfl) (by kernel_rfl) (by kernel_rfl) (fun _ _ _ h => h) (Or.inl ⟨by rfl, ?_⟩) (by assumption) ?_
        rotate_left
        · (intro w hSw; (try dsimp only at hSw); go_simp; try with_reducible rfl)
        try simp only [Act.put, List.setIfInBounds_toArray, List.set_cons_zero, List.set_cons_succ]
        refine wpAnyH_take (i := 3) (oi := { dst := some 45, op := Op.load 45 (Operand.tmp 44), type := 45, pos := "run.go:184", after := #[{ on := 2, ground := Ground.data }], guard := none }) (v := ?_) rfl (by kernel_rfl) (by kernel_rfl) (by kernel_rfl) (fun _ _ _ h => h) (Or.inl ⟨by rfl, ?_⟩) (by assumption) ?_
        rotate_left
        · (intro w hSw; (try dsimp only at hSw); go_simp; try with_reducible rfl)
        try simp only [Act.put, List.setIfInBounds_toArray, List.set_cons_zero, List.set_cons_succ]
        refine wpAnyH_take (i := 4) (oi := { dst := some 46, op := Op.move (Operand.tmp 0), type := 68, pos := "run.go:184", after := #[], guard := none }) (v := ?_) rfl (by kernel_rfl) (by kernel_rfl) (by kernel_rfl) (fun _ _ _ h => h) (Or.inl ⟨by rfl, ?_⟩) (by assumption) ?_
        rotate_left
        · (intro w hSw; (try dsimp only at hSw); go_simp; try with_reducible rfl)
        try simp only [Act.put, List.setIfInBounds_toArray, List.set_cons_zero, List.set_cons_succ]
        refine wpAnyH_take (i := 5) (oi := { dst := some 47, op := Op.nilCheck (Operand.tmp 46), type := 0, pos := "run.go:184", after := #[{ on := 4, ground := Ground.data }], guard := none }) (v := ?_) rfl (by kernel_rfl) (by kernel_rfl) (by kernel_rfl) (fun _ _ _ h => h) (Or.inl ⟨by rfl, ?_⟩) (by assumption) ?_
        rotate_left
        · (intro w hSw; (try dsimp only at hSw); go_simp; try with_reducible rfl)
        try simp only [Act.put, List.setIfInBounds_toArray, List.set_cons_zero, List.set_cons_succ]
        refine wpAnyH_take (i := 6) (oi := { dst := some 48, op := Op.fieldAddr 103 (Operand.tmp 47) 0, type := 0, pos := "run.go:184", after := #[{ on := 5, ground := Ground.data }], guard := none }) (v := ?_) rfl (by kernel_rfl) (by kernel_rfl) (by kernel_rfl) (fun _ _ _ h => h) (Or.inl ⟨by rfl, ?_⟩) (by assumption) ?_
        rotate_left
        · (intro w hSw; (try dsimp only at hSw); go_simp; try with_reducible rfl)
        try simp only [Act.put, List.setIfInBounds_toArray, List.set_cons_zero, List.set_cons_succ]
        refine wpAnyH_take (i := 7) (oi := { dst := some 49, op := Op.load 45 (Operand.tmp 48), type := 45, pos := "run.go:184", after := #[{ on := 6, ground := Ground.data }], guard := none }) (v := ?_) rfl (by kernel_rfl) (by kernel_rfl) (by kernel_rfl) (fun _ _ _ h => h) (Or.inl ⟨by rfl, ?_⟩) (by assumption) ?_
        rotate_left
        · (intro w hSw; (try dsimp only at hSw); go_simp; try with_reducible rfl)
        try simp only [Act.put, List.setIfInBounds_toArray, List.set_cons_zero, List.set_cons_succ]
        refine wpAnyH_take (i := 8) (oi := { dst := some 50, op := Op.nilCheck (Operand.tmp 49), type := 0, pos := "run.go:184", after := #[{ on := 7, ground := Ground.data }], guard := none }) (v := ?_) rfl (by kernel_rfl) (by kernel_rfl) (by kernel_rfl) (fun _ _ _ h => h) (Or.inl ⟨by rfl, ?_⟩) (by assumption) ?_
        rotate_left
        · (intro w hSw; (try dsimp only at hSw); go_simp; try with_reducible rfl)
        try simp only [Act.put, List.setIfInBounds_toArray, List.set_cons_zero, List.set_cons_succ]
        refine wpAnyH_take (i := 9) (oi := { dst := some 51, op := Op.fieldAddr 67 (Operand.tmp 50) 9, type := 0, pos := "run.go:184", after := #[{ on := 8, ground := Ground.data }], guard := none }) (v := ?_) rfl (by kernel_rfl) (by kernel_rfl) (by kernel_rfl) (fun _ _ _ h => h) (Or.inl ⟨by rfl, ?_⟩) (by assumption) ?_
        rotate_left
        · (intro w hSw; (try dsimp only at hSw); go_simp; try with_reducible rfl)
        try simp only [Act.put, List.setIfInBounds_toArray, List.set_cons_zero, List.set_cons_succ]
        refine wpAnyH_take (i := 11) (oi := { dst := some 53, op := Op.move (Operand.tmp 0), type := 68, pos := "run.go:184", after := #[], guard := none }) (v := ?_) rfl (by kernel_rfl) (by kernel_rfl) (by kernel_rfl) (fun _ _ _ h => h) (Or.inl ⟨by rfl, ?_⟩) (by assumption) ?_
        rotate_left
        · (intro w hSw; (try dsimp only at hSw); go_simp; try with_reducible rfl)
        try simp only [Act.put, List.setIfInBounds_toArray, List.set_cons_zero, List.set_cons_succ]
        refine wpAnyH_take (i := 12) (oi := { dst := some 54, op := Op.nilCheck (Operand.tmp 53), type := 0, pos := "run.go:184", after := #[{ on := 11, ground := Ground.data }], guard := none }) (v := ?_) rfl (by kernel_rfl) (by kernel_rfl) (by kernel_rfl) (fun _ _ _ h => h) (Or.inl ⟨by rfl, ?_⟩) (by assumption) ?_
        rotate_left
        · (intro w hSw; (try dsimp only at hSw); go_simp; try with_reducible rfl)
        try simp only [Act.put, List.setIfInBounds_toArray, List.set_cons_zero, List.set_cons_succ]
        refine wpAnyH_take (i := 13) (oi := { dst := some 55, op := Op.fieldAddr 103 (Operand.tmp 54) 5, type := 0, pos := "run.go:184", after := #[{ on := 12, ground := Ground.data }], guard := none }) (v := ?_) rfl (by kernel_rfl) (by kernel_rfl) (by kernel_rfl) (fun _ _ _ h => h) (Or.inl ⟨by rfl, ?_⟩) (by assumption) ?_
        rotate_left
        · (intro w hSw; (try dsimp only at hSw); go_simp; try with_reducible rfl)
        try simp only [Act.put, List.setIfInBounds_toArray, List.set_cons_zero, List.set_cons_succ]
        refine wpAnyH_take (i := 14) (oi := { dst := some 56, op := Op.load 39 (Operand.tmp 55), type := 39, pos := "run.go:184", after := #[{ on := 13, ground := Ground.data }], guard := none }) (v := ?_) rfl (by kernel_rfl) (by kernel_rfl) (by kernel_rfl) (fun _ _ _ h => h) (Or.inl ⟨by rfl, ?_⟩) (by assumption) ?_
        rotate_left
        · (intro w hSw; (try dsimp only at hSw); go_simp; try with_reducible rfl)
        try simp only [Act.put, List.setIfInBounds_toArray, List.set_cons_zero, List.set_cons_succ]
        refine wpAnyH_take (i := 15) (oi := { dst := some 57, op := Op.indexAddr 39 (Operand.tmp 56) (Operand.const (Value.int IntKind.i64 0)), type := 0, pos := "run.go:184", after := #[{ on := 14, ground := Ground.data }], guard := none }) (v := ?_) rfl (by kernel_rfl) (by kernel_rfl) (by kernel_rfl) (fun _ _ _ h => h) (Or.inl ⟨by rfl, ?_⟩) (by assumption) ?_
        rotate_left
        · (intro w hSw; (try dsimp only at hSw); go_simp; try with_reducible rfl)
        try simp only [Act.put, List.setIfInBounds_toArray, List.set_cons_zero, List.set_cons_succ]
        refine wpAnyH_take (i := 16) (oi := { dst := some 58, op := Op.load 40 (Operand.tmp 57), type := 40, pos := "run.go:184", after := #[{ on := 15, ground := Ground.data }], guard := none }) (v := ?_) rfl (by kernel_rfl) (by kernel_rfl) (by kernel_rfl) (fun _ _ _ h => h) (Or.inl ⟨by rfl, ?_⟩) (by assumption) ?_
        rotate_left
        · (intro w hSw; (try dsimp only at hSw); go_simp; try with_reducible rfl)
        try simp only [Act.put, List.setIfInBounds_toArray, List.set_cons_zero, List.set_cons_succ]
        refine wpAnyH_take (i := 17) (oi := { dst := some 59, op := Op.nilCheck (Operand.tmp 58), type := 0, pos := "run.go:184", after := #[{ on := 16, ground := Ground.data }], guard := none }) (v := ?_) rfl (by kernel_rfl) (by kernel_rfl) (by kernel_rfl) (fun _ _ _ h => h) (Or.inl ⟨by rfl, ?_⟩) (by assumption) ?_
        rotate_left
        · (intro w hSw; (try dsimp only at hSw); go_simp; try with_reducible rfl)
        try simp only [Act.put, List.setIfInBounds_toArray, List.set_cons_zero, List.set_cons_succ]
        refine wpAnyH_take (i := 18) (oi := { dst := some 60, op := Op.fieldAddr 94 (Operand.tmp 59) 0, type := 0, pos := "run.go:184", after := #[{ on := 17, ground := Ground.data }], guard := none }) (v := ?_) rfl (by kernel_rfl) (by kernel_rfl) (by kernel_rfl) (fun _ _ _ h => h) (Or.inl ⟨by rfl, ?_⟩) (by assumption) ?_
        rotate_left
        · (intro w hSw; (try dsimp only at hSw); go_simp; try with_reducible rfl)
        try simp only [Act.put, List.setIfInBounds_toArray, List.set_cons_zero, List.set_cons_succ]
        refine wpAnyH_take (i := 19) (oi := { dst := some 61, op := Op.load 37 (Operand.tmp 60), type := 37, pos := "run.go:184", after := #[{ on := 18, ground := Ground.data }], guard := none }) (v := .agg ((siCells ty' id' st' rt' ix' true).toList.take 11).toArray) rfl (by kernel_rfl) (by kernel_rfl) (by kernel_rfl) (fun _ _ _ h => h) (yieldsIf_load_mid (by rfl) 37 (.tmp 60) rfl b' 0 rfl ((siCells ty' id' st' rt' ix' true).toList.take 11) _ (fun w' h => h.2.2.2) Try.underlying37 rfl hi37) (by assumption) ?_
        try simp only [Act.put, List.setIfInBounds_toArray, List.set_cons_zero, List.set_cons_succ]
        refine wpAnyH_ready (rs := [10, 20]) (by kernel_rfl) (by simp) ?_
        refine AllReadyH.cons (o := { dst := some 52, op := Op.load 34 (Operand.tmp 51), type := 34, pos := "run.go:184", after := #[{ on := 9, ground := Ground.data }], guard := none }) rfl (fun K hK => ?_) (AllReadyH.cons (o := { dst := some 62, op := Op.buildSlice 34 1 #[(0, Operand.tmp 61)], type := 34, pos := "run.go:184", after := #[{ on := 19, ground := Ground.data }], guard := none }) rfl (fun K hK => ?_) AllReadyH.nil)
        · have q1 : wr.cell? ⟨sB, 9, none⟩ = some vo' := (cell_look hrc).trans hrc9
          go_simp
          refine hK.out _ _ hHeld (fun hHeld => ?_)
          try simp only [Act.put, List.setIfInBounds_toArray, List.set_cons_zero, List.set_cons_succ]
          refine wpAnyH_ready (rs := [20]) (by kernel_rfl) (by simp) ?_
          refine AllReadyH.cons (o := { dst := some 62, op := Op.buildSlice 34 1 #[(0, Operand.tmp 61)], type := 34, pos := "run.go:184", after := #[{ on := 19, ground := Ground.data }], guard := none }) rfl (fun K hK => ?_) AllReadyH.nil
          go_simp
          refine hK.out _ _ ⟨ha1 _, ha2 _, ha3 _, ha4 _⟩ (fun hHeld => ?_)
          try simp only [Act.put, List.setIfInBounds_toArray, List.set_cons_zero, List.set_cons_succ]
          refine wpAnyH_ready (rs := [21]) (by kernel_rfl) (by simp) ?_
          refine AllReadyH.cons (o := { dst := some 63, op := Op.call { callee := Callee.builtin Builtin.append, args := #[Operand.tmp 52, Operand.tmp 62], argTypes := #[34, 34] }, type := 34, pos := "run.go:184", after := #[{ on := 10, ground := Ground.data }, { on := 20, ground := Ground.data }], guard := none }) rfl (fun K hK => ?_) AllReadyH.nil
          refine step_append_lies _ (by rfl) _ _ _ (by rfl) B0 37 i0 _ 11 176 Try.underlying34 hi0 hz0 hz1 hz2 rfl (by omega) vo' (m + k) ys' (by rfl) (by exact ((hown.alloc _).drew)) ⟨wr.heap.size, 0, none⟩ 1 1 ((siCells ty' id' st' rt' ix' true).toList.take 11) (by rfl) (by rfl) (World.news_of_block (cs := itemCells ty' id' st' rt') (t := 37) (fr := (0, 0)) (heap_alloc_new wr _)) (by simp [Value.oneCell']) (by omega) (by unfold maxLen; omega) (by omega) (by simp; omega) (wr.heap.size + 1) (by simp) ?_
          intro gg ncap w1 hown1 hgrow hat hlt
          have hfar : ∀ q cs t, wr.heap[q]? = some (Obj.cells cs t (0, 0)) → t ≠ 37 → w1.heap[q]? = some (Obj.cells cs t (0, 0)) := fun q cs t hq ht => ((hgrow.block q (by have := lt_of_look hq; simp; omega) (Ne.symm (typ_ne hq hown ht))).trans (heap_alloc_old _ _ (lt_of_look hq))).trans hq
          have hs1 : w1.cell? ⟨rB, 0, none⟩ = some (.pointer (some ⟨sB, 0, none⟩)) := cell_look (hfar _ _ _ hrunB (by decide))
          have hs2 : w1.cell? ⟨rB, 13, none⟩ = some (.slice (some ⟨g, k, none⟩) d c) := (cell_look (hfar _ _ _ hrunB (by decide))).trans r13'
          have hs3 : w1.cell? ⟨g, k, none⟩ = some (.pointer (some ⟨b', 0, none⟩)) := (cell_look (hfar _ _ _ hcs (by decide))).trans c1'
          have hs4 : w1.rangeAt b' 0 ((siCells ty' id' st' rt' ix' true).toList.take 11) := range_take (hfar _ _ _ hitk (by decide)) 11
          have hs5 : w1.cell? ⟨sB, 9, none⟩ = some vo' := (cell_look (hfar _ _ _ hrc (by decide))).trans hrc9
          have hs6 : w1.frozen? ⟨sB, 9, none⟩ = false := frozen_look (hfar _ _ _ hrc (by decide))
          refine hK.out _ _ ⟨hs1, hs2, hs3, hs4⟩ (fun hHeld => ?_)
          try simp only [Act.put, List.setIfInBounds_toArray, List.set_cons_zero, List.set_cons_succ]
          refine wpAnyH_take (i := 22) (oi := { dst := some 64, op := Op.nilCheck (Operand.tmp 45), type := 0, pos := "run.go:184", after := #[{ on := 3, ground := Ground.data }, { on := 0, ground := Ground.phase }, { on := 1, ground := Ground.phase }, { on := 2, ground := Ground.phase }, { on := 3, ground := Ground.phase }, { on := 4, ground := Ground.phase }, { on := 5, ground := Ground.phase }, { on := 6, ground := Ground.phase }, { on := 7, ground := Ground.phase }, { on := 8, ground := Ground.phase }, { on := 9, ground := Ground.phase }, { on := 10, ground := Ground.phase }, { on := 11, ground := Ground.phase }, { on := 12, ground := Ground.phase }, { on := 13, ground := Ground.phase }, { on := 14, ground := Ground.phase }, { on := 15, ground := Ground.phase }, { on := 16, ground := Ground.phase }, { on := 17, ground := Ground.phase }, { on := 18, ground := Ground.phase }, { on := 19, ground := Ground.phase }, { on := 20, ground := Ground.phase }, { on := 21, ground := Ground.phase }], guard := none }) (v := ?_) rfl (by kernel_rfl) (by kernel_rfl) (by kernel_rfl) (fun _ _ _ h => h) (Or.inl ⟨by rfl, ?_⟩) (by assumption) ?_
          rotate_left
          · (intro w hSw; (try dsimp only at hSw); go_simp; try with_reducible rfl)
          try simp only [Act.put, List.setIfInBounds_toArray, List.set_cons_zero, List.set_cons_succ]
          refine wpAnyH_take (i := 23) (oi := { dst := some 65, op := Op.fieldAddr 67 (Operand.tmp 64) 9, type := 0, pos := "run.go:184", after := #[{ on := 22, ground := Ground.data }, { on := 0, ground := Ground.phase }, { on := 1, ground := Ground.phase }, { on := 2, ground := Ground.phase }, { on := 3, ground := Ground.phase }, { on := 4, ground := Ground.phase }, { on := 5, ground := Ground.phase }, { on := 6, ground := Ground.phase }, { on := 7, ground := Ground.phase }, { on := 8, ground := Ground.phase }, { on := 9, ground := Ground.phase }, { on := 10, ground := Ground.phase }, { on := 11, ground := Ground.phase }, { on := 12, ground := Ground.phase }, { on := 13, ground := Ground.phase }, { on := 14, ground := Ground.phase }, { on := 15, ground := Ground.phase }, { on := 16, ground := Ground.phase }, { on := 17, ground := Ground.phase }, { on := 18, ground := Ground.phase }, { on := 19, ground := Ground.phase }, { on := 20, ground := Ground.phase }, { on := 21, ground := Ground.phase }], guard := none }) (v := ?_) rfl (by kernel_rfl) (by kernel_rfl) (by kernel_rfl) (fun _ _ _ h => h) (Or.inl ⟨by rfl, ?_⟩) (by assumption) ?_
          rotate_left
          · (intro w hSw; (try dsimp only at hSw); go_simp; try with_reducible rfl)
          try simp only [Act.put, List.setIfInBounds_toArray, List.set_cons_zero, List.set_cons_succ]
          refine wpAnyH_ready (rs := [24]) (by kernel_rfl) (by simp) ?_
          refine AllReadyH.cons (o := { dst := none, op := Op.store 34 (Operand.tmp 65) (Operand.tmp 63), type := 0, pos := "run.go:184", after := #[{ on := 23, ground := Ground.data }, { on := 21, ground := Ground.data }, { on := 21, ground := Ground.chain }, { on := 0, ground := Ground.phase }, { on := 1, ground := Ground.phase }, { on := 2, ground := Ground.phase }, { on := 3, ground := Ground.phase }, { on := 4, ground := Ground.phase }, { on := 5, ground := Ground.phase }, { on := 6, ground := Ground.phase }, { on := 7, ground := Ground.phase }, { on := 8, ground := Ground.phase }, { on := 9, ground := Ground.phase }, { on := 10, ground := Ground.phase }, { on := 11, ground := Ground.phase }, { on := 12, ground := Ground.phase }, { on := 13, ground := Ground.phase }, { on := 14, ground := Ground.phase }, { on := 15, ground := Ground.phase }, { on := 16, ground := Ground.phase }, { on := 17, ground := Ground.phase }, { on := 18, ground := Ground.phase }, { on := 19, ground := Ground.phase }, { on := 20, ground := Ground.phase }, { on := 21, ground := Ground.phase }], guard := none }) rfl (fun K hK => ?_) AllReadyH.nil
          go_simp
          refine hK.out _ _ ⟨(setCell_other _ _ _ _ _ _ nsr).trans hs1, (setCell_other _ _ _ _ _ _ nsr).trans hs2, (setCell_other _ _ _ _ _ _ nsg).trans hs3, fun j v hv => (setCell_other _ _ _ _ _ _ nsb).trans (hs4 j v hv)⟩ (fun hHeld => ?_)
          try simp only [Act.put, List.setIfInBounds_toArray, List.set_cons_zero, List.set_cons_succ]
          refine wpAnyH_done (by kernel_rfl) ?_ _
          have e13 : (w1.setCell ⟨sB, 9, none⟩ (.slice (some ⟨gg, 0, none⟩) (m + k + 1) ncap)).cell? ⟨rB, 13, none⟩ = some (.slice (some ⟨g, k, none⟩) d c) := (setCell_other _ _ _ _ _ _ nsr).trans hs2
          have ef13 : (w1.setCell ⟨sB, 9, none⟩ (.slice (some ⟨gg, 0, none⟩) (m + k + 1) ncap)).frozen? ⟨rB, 13, none⟩ = false := frozen_look ((set_far _ _ _ _ _ nsr).trans (hfar _ _ _ hrunB (by decide)))
          have HS : Hid (∀ a', (k + 1 < is'.length → a' = k + 1) → Fl B0 sm rB pB lB sB g cap m is' nx' vl' n' xs' ys vo w3 (k + 1) ((w1.setCell ⟨sB, 9, none⟩ (.slice (some ⟨gg, 0, none⟩) (m + k + 1) ncap)).setCell ⟨rB, 13, none⟩ (.slice (some ⟨g, a', none⟩) (is'.length - (k + 1)) (cap - (k + 1))))) := by
            intro a' ha'
            refine fl_step HF.out hk (by rw [← hnd']) a' ha' hrc hrc9 (by rw [hys]; exact hown) hvo (wr.alloc (.cells (itemCells ty' id' st' rt') 37)).drew ⟨_, rfl, rfl, rfl, rfl⟩ ?_ hgrow hat
            rw [hys, ← hnd']
            exact hown1
          clear hs1 hs2 hs3 hs4 hs5 hs6 hfar hgrow hown1 hat hlt hHeld
          generalize w1.setCell ⟨sB, 9, none⟩ (.slice (some ⟨gg, 0, none⟩) (m + k + 1) ncap) = w4 at *
          go_wp2
          go_round
          case rel =>
            have hS := HS.out
            rw [show is'.length - (k + 1) = d - 1 by omega, show cap - (k + 1) = c - 1 by omega] at hS
            refine ⟨k + 1, ?_⟩
            by_cases hc1 : c = 1
            · rw [if_pos hc1]
              exact hS k (by omega)
            · rw [if_neg hc1]
              exact hS (k + 1) (fun _ => rfl)
          case measure =>
            rw [openLen_at (setCell_here e13), openLen_at r13]
            omega
        · go_simp
          refine hK.out _ _ ⟨ha1 _, ha2 _, ha3 _, ha4 _⟩ (fun hHeld => ?_)
          try simp only [Act.put, List.setIfInBounds_toArray, List.set_cons_zero, List.set_cons_succ]
          have q1 : ∀ o, (wr.alloc o).cell? ⟨sB, 9, none⟩ = some vo' := fun o => (cell_look (w := wr.alloc o) ((heap_alloc_old wr o (lt_of_look hrc)).trans hrc)).trans hrc9
          refine wpAnyH_ready (rs := [10]) (by kernel_rfl) (by simp) ?_
          refine AllReadyH.cons (o := { dst := some 52, op := Op.load 34 (Operand.tmp 51), type := 34, pos := "run.go:184", after := #[{ on := 9, ground := Ground.data }], guard := none }) rfl (fun K hK => ?_) AllReadyH.nil
          go_simp
          refine hK.out _ _ hHeld (fun hHeld => ?_)
          try simp only [Act.put, List.setIfInBounds_toArray, List.set_cons_zero, List.set_cons_succ]
          refine wpAnyH_ready (rs := [21]) (by kernel_rfl) (by simp) ?_
          refine AllReadyH.cons (o := { dst := some 63, op := Op.call { callee := Callee.builtin Builtin.append, args := #[Operand.tmp 52, Operand.tmp 62], argTypes := #[34, 34] }, type := 34, pos := "run.go:184", after := #[{ on := 10, ground := Ground.data }, { on := 20, ground := Ground.data }], guard := none }) rfl (fun K hK => ?_) AllReadyH.nil
          refine step_append_lies _ (by rfl) _ _ _ (by rfl) B0 37 i0 _ 11 176 Try.underlying34 hi0 hz0 hz1 hz2 rfl (by omega) vo' (m + k) ys' (by rfl) (by exact ((hown.alloc _).drew)) ⟨wr.heap.size, 0, none⟩ 1 1 ((siCells ty' id' st' rt' ix' true).toList.take 11) (by rfl) (by rfl) (World.news_of_block (cs := itemCells ty' id' st' rt') (t := 37) (fr := (0, 0)) (heap_alloc_new wr _)) (by simp [Value.oneCell']) (by omega) (by unfold maxLen; omega) (by omega) (by simp; omega) (wr.heap.size + 1) (by simp) ?_
          intro gg ncap w1 hown1 hgrow hat hlt
          have hfar : ∀ q cs t, wr.heap[q]? = some (Obj.cells cs t (0, 0)) → t ≠ 37 → w1.heap[q]? = some (Obj.cells cs t (0, 0)) := fun q cs t hq ht => ((hgrow.block q (by have := lt_of_look hq; simp; omega) (Ne.symm (typ_ne hq hown ht))).trans (heap_alloc_old _ _ (lt_of_look hq))).trans hq
          have hs1 : w1.cell? ⟨rB, 0, none⟩ = some (.pointer (some ⟨sB, 0, none⟩)) := cell_look (hfar _ _ _ hrunB (by decide))
          have hs2 : w1.cell? ⟨rB, 13, none⟩ = some (.slice (some ⟨g, k, none⟩) d c) := (cell_look (hfar _ _ _ hrunB (by decide))).trans r13'
          have hs3 : w1.cell? ⟨g, k, none⟩ = some (.pointer (some ⟨b', 0, none⟩)) := (cell_look (hfar _ _ _ hcs (by decide))).trans c1'
          have hs4 : w1.rangeAt b' 0 ((siCells ty' id' st' rt' ix' true).toList.take 11) := range_take (hfar _ _ _ hitk (by decide)) 11
          have hs5 : w1.cell? ⟨sB, 9, none⟩ = some vo' := (cell_look (hfar _ _ _ hrc (by decide))).trans hrc9
          have hs6 : w1.frozen? ⟨sB, 9, none⟩ = false := frozen_look (hfar _ _ _ hrc (by decide))
          refine hK.out _ _ ⟨hs1, hs2, hs3, hs4⟩ (fun hHeld => ?_)
          try simp only [Act.put, List.setIfInBounds_toArray, List.set_cons_zero, List.set_cons_succ]
          refine wpAnyH_take (i := 22) (oi := { dst := some 64, op := Op.nilCheck (Operand.tmp 45), type := 0, pos := "run.go:184", after := #[{ on := 3, ground := Ground.data }, { on := 0, ground := Ground.phase }, { on := 1, ground := Ground.phase }, { on := 2, ground := Ground.phase }, { on := 3, ground := Ground.phase }, { on := 4, ground := Ground.phase }, { on := 5, ground := Ground.phase }, { on := 6, ground := Ground.phase }, { on := 7, ground := Ground.phase }, { on := 8, ground := Ground.phase }, { on := 9, ground := Ground.phase }, { on := 10, ground := Ground.phase }, { on := 11, ground := Ground.phase }, { on := 12, ground := Ground.phase }, { on := 13, ground := Ground.phase }, { on := 14, ground := Ground.phase }, { on := 15, ground := Ground.phase }, { on := 16, ground := Ground.phase }, { on := 17, ground := Ground.phase }, { on := 18, ground := Ground.phase }, { on := 19, ground := Ground.phase }, { on := 20, ground := Ground.phase }, { on := 21, ground := Ground.phase }], guard := none }) (v := ?_) rfl (by kernel_rfl) (by kernel_rfl) (by kernel_rfl) (fun _ _ _ h => h) (Or.inl ⟨by rfl, ?_⟩) (by assumption) ?_
          rotate_left
          · (intro w hSw; (try dsimp only at hSw); go_simp; try with_reducible rfl)
          try simp only [Act.put, List.setIfInBounds_toArray, List.set_cons_zero, List.set_cons_succ]
          refine wpAnyH_take (i := 23) (oi := { dst := some 65, op := Op.fieldAddr 67 (Operand.tmp 64) 9, type := 0, pos := "run.go:184", after := #[{ on := 22, ground := Ground.data }, { on := 0, ground := Ground.phase }, { on := 1, ground := Ground.phase }, { on := 2, ground := Ground.phase }, { on := 3, ground := Ground.phase }, { on := 4, ground := Ground.phase }, { on := 5, ground := Ground.phase }, { on := 6, ground := Ground.phase }, { on := 7, ground := Ground.phase }, { on := 8, ground := Ground.phase }, { on := 9, ground := Ground.phase }, { on := 10, ground := Ground.phase }, { on := 11, ground := Ground.phase }, { on := 12, ground := Ground.phase }, { on := 13, ground := Ground.phase }, { on := 14, ground := Ground.phase }, { on := 15, ground := Ground.phase }, { on := 16, ground := Ground.phase }, { on := 17, ground := Ground.phase }, { on := 18, ground := Ground.phase }, { on := 19, ground := Ground.phase }, { on := 20, ground := Ground.phase }, { on := 21, ground := Ground.phase }], guard := none }) (v := ?_) rfl (by kernel_rfl) (by kernel_rfl) (by kernel_rfl) (fun _ _ _ h => h) (Or.inl ⟨by rfl, ?_⟩) (by assumption) ?_
          rotate_left
          · (intro w hSw; (try dsimp only at hSw); go_simp; try with_reducible rfl)
          try simp only [Act.put, List.setIfInBounds_toArray, List.set_cons_zero, List.set_cons_succ]
          refine wpAnyH_ready (rs := [24]) (by kernel_rfl) (by simp) ?_
          refine AllReadyH.cons (o := { dst := none, op := Op.store 34 (Operand.tmp 65) (Operand.tmp 63), type := 0, pos := "run.go:184", after := #[{ on := 23, ground := Ground.data }, { on := 21, ground := Ground.data }, { on := 21, ground := Ground.chain }, { on := 0, ground := Ground.phase }, { on := 1, ground := Ground.phase }, { on := 2, ground := Ground.phase }, { on := 3, ground := Ground.phase }, { on := 4, ground := Ground.phase }, { on := 5, ground := Ground.phase }, { on := 6, ground := Ground.phase }, { on := 7, ground := Ground.phase }, { on := 8, ground := Ground.phase }, { on := 9, ground := Ground.phase }, { on := 10, ground := Ground.phase }, { on := 11, ground := Ground.phase }, { on := 12, ground := Ground.phase }, { on := 13, ground := Ground.phase }, { on := 14, ground := Ground.phase }, { on := 15, ground := Ground.phase }, { on := 16, ground := Ground.phase }, { on := 17, ground := Ground.phase }, { on := 18, ground := Ground.phase }, { on := 19, ground := Ground.phase }, { on := 20, ground := Ground.phase }, { on := 21, ground := Ground.phase }], guard := none }) rfl (fun K hK => ?_) AllReadyH.nil
          go_simp
          refine hK.out _ _ ⟨(setCell_other _ _ _ _ _ _ nsr).trans hs1, (setCell_other _ _ _ _ _ _ nsr).trans hs2, (setCell_other _ _ _ _ _ _ nsg).trans hs3, fun j v hv => (setCell_other _ _ _ _ _ _ nsb).trans (hs4 j v hv)⟩ (fun hHeld => ?_)
          try simp only [Act.put, List.setIfInBounds_toArray, List.set_cons_zero, List.set_cons_succ]
          refine wpAnyH_done (by kernel_rfl) ?_ _
          have e13 : (w1.setCell ⟨sB, 9, none⟩ (.slice (some ⟨gg, 0, none⟩) (m + k + 1) ncap)).cell? ⟨rB, 13, none⟩ = some (.slice (some ⟨g, k, none⟩) d c) := (setCell_other _ _ _ _ _ _ nsr).trans hs2
          have ef13 : (w1.setCell ⟨sB, 9, none⟩ (.slice (some ⟨gg, 0, none⟩) (m + k + 1) ncap)).frozen? ⟨rB, 13, none⟩ = false := frozen_look ((set_far _ _ _ _ _ nsr).trans (hfar _ _ _ hrunB (by decide)))
          have HS : Hid (∀ a', (k + 1 < is'.length → a' = k + 1) → Fl B0 sm rB pB lB sB g cap m is' nx' vl' n' xs' ys vo w3 (k + 1) ((w1.setCell ⟨sB, 9, none⟩ (.slice (some ⟨gg, 0, none⟩) (m + k + 1) ncap)).setCell ⟨rB, 13, none⟩ (.slice (some ⟨g, a', none⟩) (is'.length - (k + 1)) (cap - (k + 1))))) := by
            intro a' ha'
            refine fl_step HF.out hk (by rw [← hnd']) a' ha' hrc hrc9 (by rw [hys]; exact hown) hvo (wr.alloc (.cells (itemCells ty' id' st' rt') 37)).drew ⟨_, rfl, rfl, rfl, rfl⟩ ?_ hgrow hat
            rw [hys, ← hnd']
            exact hown1
          clear hs1 hs2 hs3 hs4 hs5 hs6 hfar hgrow hown1 hat hlt hHeld
          generalize w1.setCell ⟨sB, 9, none⟩ (.slice (some ⟨gg, 0, none⟩) (m + k + 1) ncap) = w4 at *
          go_wp2
          go_round
          case rel =>
            have hS := HS.out
            rw [show is'.length - (k + 1) = d - 1 by omega, show cap - (k + 1) = c - 1 by omega] at hS
            refine ⟨k + 1, ?_⟩
            by_cases hc1 : c = 1
            · rw [if_pos hc1]
              exact hS k (by omega)
            · rw [if_neg hc1]
              exact hS (k + 1) (fun _ => rfl)
          case measure =>
            rw [openLen_at (setCell_here e13), openLen_at r13]
            omega
    · have : d = 0 := by omega
      subst this
      clear F
      go_wp2
      refine ⟨rfl, .tuple #[], by simp [results, Try.results36, go_sem], rfl, vl', w3, k, HF.out, fun h => absurd h hk, HKW.out.size, HKW.out.trans (HF.out.kept.mono (fun q e => ?_))⟩
      rcases e with e | e | e
      · exact .inl e
      · exact .inr (.inr (.inr (.inr (.inl e))))
      · exact .inr (.inr (.inr (.inr (.inr e))))
end Go.Proofs.Qxb6612221a.Cl
