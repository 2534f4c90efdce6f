/- The law's function: the announced items. -/
import Derived.Test.Qxb6612221aClJ
namespace Go.Proofs.Qxb6612221a.Cl
open Go.RowKit
attribute [local go_sem ↓] Go.wp_at_zero Go.wp_at_succ
theorem info40 : (Try.prog.info? 40).map (fun i => (i.zero, i.size, i.bytes)) = some (some (.pointer none), 1, 8) := by kernel_rfl
theorem cell_alloc {w : World} {a : Addr} {v : Value} (o : Obj) (h : w.cell? a = some v) : (w.alloc o).cell? a = some v := cell_below ((Below.refl _ _).alloc (Nat.le_refl _) o) h
structure L2 (w0 : World) (ss : List ByteArray) (os : List Sl) (vo vi : Value) (k : Nat) (is : List Nd) (w : World) : Prop where
  old : Below w0.heap.size w0 w
  out : w.ownsRow w0.heap.size 37 11 vo ss.length (outs ss)
  row : w.ownsRow w0.heap.size 40 1 vi k (ptrs is)
  made : Made ss.length os is
  len : is.length = k
  item : ∀ i (h : i < is.length), w0.heap.size ≤ is[i].b ∧ w.heap[is[i].b]? = some (.cells is[i].cells 94 (0, 0))
theorem L2.step {w0 : World} {ss : List ByteArray} {os : List Sl} {vo vi : Value} {k : Nat} {is : List Nd} {w wa w2 : World} (h : L2 w0 ss os vo vi k is w) (hk : k < os.length) (hb : Below w.heap.size w wa) (hi : wa.heap[w.heap.size + 3]? = some (.cells (siCells os[k].ty os[k].id (stOf os[k].dn) eS ((ss.length : Int) + k) os[k].dn) 94 (0, 0)))
    {gg cap : Nat} (hown : w2.ownsRow w0.heap.size 40 1 (.slice (some ⟨gg, 0, none⟩) (k + 1) cap) (k + 1) (ptrs is ++ [.pointer (some ⟨w.heap.size + 3, 0, none⟩)])) (hgrow : wa.grownBy w2 vi.ownBlock) :
    ∃ is', L2 w0 ss os vo (.slice (some ⟨gg, 0, none⟩) (k + 1) cap) (k + 1) is' w2 := by
  have hfar : ∀ q cs t, w.heap[q]? = some (Obj.cells cs t (0, 0)) → t ≠ 40 → w2.heap[q]? = some (Obj.cells cs t (0, 0)) := fun q cs t hq ht =>
    ((hgrow.block q (Nat.lt_of_lt_of_le (lt_of_look hq) hb.size) (Ne.symm (typ_ne hq h.row ht))).trans (hb.block q (lt_of_look hq))).trans hq
  have hold := h.old.size
  have hnew : w2.heap[w.heap.size + 3]? = some (.cells (siCells os[k].ty os[k].id (stOf os[k].dn) eS ((ss.length : Int) + k) os[k].dn) 94 (0, 0)) := by
    refine (hgrow.block _ (lt_of_look hi) (fun e => ?_)).trans hi
    have := (h.row.lt _ e.symm).2
    omega
  have hlt : ∀ i (hi : i < is.length), is[i].b < w.heap.size := fun i hi => lt_of_look (h.item i hi).2
  have hlen := h.len
  refine ⟨is ++ [⟨w.heap.size + 3, os[k].ty, os[k].id, stOf os[k].dn, eS, (ss.length : Int) + k, os[k].dn⟩], ?_, ?_, ?_, ⟨?_, ?_, ?_⟩, by simp [hlen], ?_⟩
  · refine h.old.trans ⟨hgrow.os.trans hb.os, hgrow.tape.trans hb.tape, hgrow.output.trans hb.output, Nat.le_trans hb.size hgrow.size, fun q hq => (hgrow.block q (by have := hb.size; omega) (fun e => ?_)).trans (hb.block q (by omega))⟩
    have := (h.row.lt _ e.symm).1
    omega
  · refine owns_far h.out (fun q hq => ?_)
    obtain ⟨cs, hc⟩ := own_type h.out hq
    rw [hfar _ _ _ hc (by decide), hc]
  · simpa [ptrs] using hown
  · simp [hlen]; omega
  · intro i hi h'
    rw [List.getElem_append]
    split
    · rename_i h1
      exact h.made.at_ i h1 h'
    · have : i = k := by simp [hlen] at hi; omega
      subst this
      simp [hlen]
  · intro i i' hi hi' hne
    simp [hlen] at hi hi'
    rw [List.getElem_append, List.getElem_append]
    split
    · rename_i h1
      split
      · rename_i h2
        exact h.made.apart i i' h1 h2 hne
      · simp
        have := hlt i h1
        omega
    · split
      · rename_i h2
        simp
        have := hlt i' h2
        omega
      · exfalso
        rename_i h1 h2
        omega
  · intro i hi
    simp [hlen] at hi
    rw [List.getElem_append]
    split
    · rename_i h1
      exact ⟨(h.item i h1).1, hfar _ _ _ (h.item i h1).2 (by decide)⟩
    · simp
      exact ⟨by omega, hnew⟩
theorem items_new5 (w : World) (o1 o2 o3 o4 o5 : Obj) : (((((w.alloc o1).alloc o2).alloc o3).alloc o4).alloc o5).heap[w.heap.size + 4]? = some o5 := by
  have h := heap_alloc_new ((((w.alloc o1).alloc o2).alloc o3).alloc o4) o5
  rw [show ((((w.alloc o1).alloc o2).alloc o3).alloc o4).heap.size = w.heap.size + 4 by simp] at h
  exact h
theorem items_new (w : World) (o1 o2 o3 o4 o5 : Obj) : (((((w.alloc o1).alloc o2).alloc o3).alloc o4).alloc o5).heap[w.heap.size + 3]? = some o4 := by
  rw [heap_alloc_old _ _ (by simp)]
  have h := heap_alloc_new (((w.alloc o1).alloc o2).alloc o3) o4
  rw [show (((w.alloc o1).alloc o2).alloc o3).heap.size = w.heap.size + 3 by simp] at h
  exact h
set_option maxRecDepth 1000000 in
set_option maxHeartbeats 8000000 in
theorem phB (next : PhC) : PhB := by
  unfold PhB
  intro w0 ao bo ca cb ss os j nx kd tx st pt sm vo w
  intros
  rename_i hB hb hown
  conv => arg 2; whnf
  obtain ⟨i0, hi0, hz0, hz1, hz2⟩ := info_parts info40
  have HS : Hid (SlotRow w0 bo os) := hB.sl
  have l1 := hB.l1
  have l2 := hB.l2
  have hjl := hB.hj
  have HB : Hid (Base w0 ao bo ss os j) := hB
  have HN : Hid PhC := next
  have HL : Hid (L2 w0 ss os vo (.slice none 0 0) 0 [] w) := ⟨hb, hown, ⟨rfl, .inl ⟨rfl, rfl⟩⟩, ⟨Nat.zero_le _, fun i h => absurd h (Nat.not_lt_zero _), fun i i' h => absurd h (Nat.not_lt_zero _)⟩, rfl, fun i h => absurd h (Nat.not_lt_zero _)⟩
  clear hB hb next hown
  go_wp2
  rename_i K hK
  have HK : Hid _ := hK
  clear hK
  go_loopw [22, 23] (fun v i wr => ∃ (k : Nat) (is : List Nd), k ≤ os.length ∧ i = .int .i64 k ∧ L2 w0 ss os vo v k is wr) (fun _ i _ => os.length - (intOf i).toNat)
  case atStart => exact ⟨0, [], Nat.zero_le _, rfl, HL.out⟩
  case round =>
    obtain ⟨k, is, hk, rfl, hL⟩ := hrel
    by_cases hlt : k < os.length
    · obtain ⟨b, off, rfl, c0, c00⟩ := HS.out k hlt
      have HBo := hL.old
      have c1 := cell_below HBo c0
      have c2 := cell_below HBo c00.1
      have c3 := cell_below HBo c00.2
      clear c00 HBo
      have HL2 : Hid (L2 w0 ss os vo u22 k is wr) := hL
      have hsz := hL.old.size
      clear hL HL
      obtain ⟨s, hs⟩ : ∃ s, os[k] = s := ⟨_, rfl⟩
      rw [hs] at c1 c2 c3
      obtain ⟨id, ty, dn⟩ := s
      dsimp only at c1 c2 c3
      have hwr : IntKind.i64.wrap ((ss.length : Int) + (k : Int)) = (ss.length : Int) + (k : Int) := IntWalk.i64_in _ (by omega)
      have HW0 : Hid (∀ o1 o2 o3 o4 o5, (((((wr.alloc o1).alloc o2).alloc o3).alloc o4).alloc o5).drew.ownsRow w0.heap.size 40 1 u22 k (ptrs is)) := fun o1 o2 o3 o4 o5 => (((((HL2.out.row.alloc _).alloc _).alloc _).alloc _).alloc _).drew
      have HCC : Hid (∀ gg ncap w6, w6.ownsRow w0.heap.size 40 1 (.slice (some ⟨gg, 0, none⟩) (k + 1) ncap) (k + 1) (ptrs is ++ [.pointer (some ⟨wr.heap.size + 3, 0, none⟩)]) → (((((wr.alloc (.cells #[.string id, .string ty, .bool dn] 33)).alloc (.cells (itemCells ty id (stOf dn) eS) 37)).alloc (.cells (itemCells ty id (stOf dn) eS) 37)).alloc (.cells (siCells ty id (stOf dn) eS ((ss.length : Int) + k) dn) 94)).alloc (.cells #[.pointer (some ⟨wr.heap.size + 3, 0, none⟩)] 40)).drew.grownBy w6 u22.ownBlock →
          w6.cell? ⟨b, off + k * 3, none⟩ = some (.string id) ∧ w6.cell? ⟨b, off + k * 3 + 1, none⟩ = some (.string ty) ∧ w6.cell? ⟨b, off + k * 3 + 2, none⟩ = some (.bool dn)) := by
        intro gg ncap w6 hown6 hgrow
        have hne : u22.ownBlock ≠ some b := fun e => ?_
        · have hfar : ∀ o v, wr.cell? ⟨b, o, none⟩ = some v → w6.cell? ⟨b, o, none⟩ = some v := fun o v h => (hgrow.cell_far ⟨b, o, none⟩ (Nat.lt_of_lt_of_le (show b < wr.heap.size from World.block_lt_of_cell? wr ⟨b, o, none⟩ h) (by simp <;> omega)) (Ne.symm hne)).trans (cell_alloc _ (cell_alloc _ (cell_alloc _ (cell_alloc _ (cell_alloc _ h)))))
          exact ⟨hfar _ _ c1, hfar _ _ c2, hfar _ _ c3⟩
        · have h1 := (HL2.out.row.lt _ e).1
          have h2 := World.block_lt_of_cell? w0 _ c0
          simp at h2
          omega
      go_wp2_with fail
      go_region_held3 (fun w' => w'.cell? ⟨b, off + k * 3, none⟩ = some (.string id) ∧ w'.cell? ⟨b, off + k * 3 + 1, none⟩ = some (.string ty) ∧ w'.cell? ⟨b, off + k * 3 + 2, none⟩ = some (.bool dn))
        (first | exact ⟨c1, c2, c3⟩ | (refine ⟨?_, ?_, ?_⟩ <;> (iterate 5 (try apply cell_alloc)) <;> first | exact c1 | exact c2 | exact c3) | exact HC | fail "not kept")
        (first
          | (go_at_call 12; refine (openItem_any id ty dn _).mono ?_; rintro e w4 ⟨rfl, rfl⟩)
          | (go_at_call 11; refine (newItem_any ty id (stOf dn) eS ((ss.length : Int) + k) dn _).mono ?_; rintro e w5 ⟨rfl, rfl⟩)
          | (refine step_append_lies (o := { dst := some 127, op := _, type := _, pos := _, after := _, guard := _ }) _ (by rfl) _ _ _ (by rfl) w0.heap.size 40 i0 _ 1 8 Try.underlying39 hi0 hz0 hz1 hz2 rfl (by omega) u22 k (ptrs is) (by rfl) (by exact HW0.out _ _ _ _ _) ⟨wr.heap.size + 4, 0, none⟩ 1 1 [.pointer (some ⟨wr.heap.size + 3, 0, none⟩)] (by rfl) (by rfl) (World.news_of_block (cs := #[.pointer (some ⟨wr.heap.size + 3, 0, none⟩)]) (t := 40) (fr := (0, 0)) (by exact items_new5 wr _ _ _ _ _)) (by simp [Value.oneCell']) (by omega) (by unfold maxLen; omega) (by omega) (by simp; omega) (wr.heap.size + 5) (by simp) ?_; intro gg ncap w6 hown6 hgrow hat hlt6; have HC := HCC.out gg ncap w6 hown6 hgrow)
          | fail "no contract")
      have HF := HL2.out.step hlt (wa := (((((wr.alloc (.cells #[.string id, .string ty, .bool dn] 33)).alloc (.cells (itemCells ty id (stOf dn) eS) 37)).alloc (.cells (itemCells ty id (stOf dn) eS) 37)).alloc (.cells (siCells ty id (stOf dn) eS ((ss.length : Int) + k) dn) 94)).alloc (.cells #[.pointer (some ⟨wr.heap.size + 3, 0, none⟩)] 40)).drew) (((((((Below.refl _ _).alloc (by simp) _).alloc (by simp) _).alloc (by simp; omega) _).alloc (by simp; omega) _).alloc (by simp; omega) _).trans ⟨rfl, rfl, rfl, Nat.le_refl _, fun _ _ => rfl⟩) (by rw [hs]; exact items_new wr _ _ _ _ _) hown6 hgrow
      have HFH : Hid (∃ is', L2 w0 ss os vo (.slice (some ⟨gg, 0, none⟩) (k + 1) ncap) (k + 1) is' w6) := HF
      clear HF hown6 hgrow hat hlt6 HC HCC HW0
      go_wp2
      go_round
      case rel =>
        obtain ⟨is', hF⟩ := HFH.out
        exact ⟨k + 1, is', by omega, by go_num, hF⟩
      case measure => simp [intOf]; omega
    · have : k = os.length := by omega
      subst this
      go_wp2
      refine HK.out _ _ ?_
      obtain ⟨g, cap, rfl, _, _⟩ := hL.row.form (by omega)
      have next := HN.out
      unfold PhC at next
      apply next
      · exact HB.out
      · exact hL.old
      · exact hL.out
      · exact hL.row
      · exact hL.made
      · exact hL.len
      · exact hL.item
end Go.Proofs.Qxb6612221a.Cl
