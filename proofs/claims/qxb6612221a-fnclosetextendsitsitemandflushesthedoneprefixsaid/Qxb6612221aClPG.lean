/- The law's function: the output's new items. -/
import Derived.Test.Qxb6612221aClPF
import Derived.Deep.DeepCutAuto
import Derived.Deep.CutBlock
namespace Go.Proofs.Qxb6612221a.Cl
open Go.RowKit
attribute [local go_sem ↓] Go.wp_at_zero Go.wp_at_succ
theorem below_alG (w : World) (o1 o2 o3 : Obj) : Below w.heap.size w (((w.alloc o1).alloc o2).alloc o3) := (((Below.refl _ w).alloc (Nat.le_refl _) o1).alloc (by simp) o2).alloc (by simp; omega) o3
theorem gen_worldG {P : Program} {c : Code} {Q : Exit → Act → World → Prop} {a : Act} {w : World} (h : ∀ W, W = w → Code.wp P c Q a W) : Code.wp P c Q a w := h w rfl
theorem alG_last (w : World) (o1 o2 o3 : Obj) : (((w.alloc o1).alloc o2).alloc o3).heap[w.heap.size + 1 + 1]? = some o3 := by
  have h := heap_alloc_new ((w.alloc o1).alloc o2) o3
  rw [show ((w.alloc o1).alloc o2).heap.size = w.heap.size + 1 + 1 by simp] at h
  exact h
theorem got_new {B0 : Nat} {w : World} {ss : List ByteArray} {k gg vc : Nat} {is : List Nd} (h : w.ownsRow B0 37 11 (.slice (some ⟨gg, 0, none⟩) (ss.length + k) vc) (ss.length + k) (outs ss ++ (is.take k).flatMap Nd.item)) (n : Nat) (hn : n < k) (hi : n < is.length) :
    w.rangeAt gg ((ss.length + n) * 11) is[n].item := fun c v hv => by
  have hc : c < 11 := by
    have := (List.getElem?_eq_some_iff.1 hv).1
    exact this
  rw [h.cellAt _ (by omega)]
  have hl : (outs ss).length = ss.length * 11 := flat_len _ 11 (fun _ => rfl) ss
  rw [List.getElem?_append_right (by rw [hl]; omega), hl, show (ss.length + n) * 11 + c - ss.length * 11 = n * 11 + c by omega, flat_get Nd.item 11 (fun _ => rfl) (is.take k) n c (by simp; omega) hc, List.getElem_take]
  exact hv
set_option maxRecDepth 1000000 in
set_option maxHeartbeats 8000000 in
theorem phG (next : PhH) : PhG := by
  unfold PhG
  intro w0 ao bo ca cb ss os j nx kd tx st pt sm rB pB lB sB tB kB g cap is k a nx2 vl n2 xs2 vo cB w
  intros
  rename_i hB hcl hfin hev hcB
  conv => arg 2; whnf
  have l1 := hB.l1
  have l2 := hB.l2
  have hjl := hB.hj
  have klen := hcl.kle
  rw [hcl.len] at klen
  obtain ⟨va, vc, rfl⟩ : ∃ a c, vo = .slice a (ss.length + k) c := by
    rcases hfin.row.2 with ⟨h, h0⟩ | ⟨_, _, _, h, _⟩
    · exact ⟨none, 0, by rw [h, h0]⟩
    · exact ⟨_, _, h⟩
  have HB : Hid (Base w0 ao bo ss os j) := hB
  have HN : Hid PhH := next
  have HE : Hid (∀ h : j < os.length, Evs sm pt nx ((ss.length : Int) + j) kd tx st os[j].ty os[j].id nx2 n2 xs2) := hev
  have HC : Hid (Closed ss.length os j st tx is k a cap) := hcl
  have HF : Hid (Fin w0 ss sm rB pB lB sB tB kB g cap is k a nx2 vl n2 xs2 (.slice va (ss.length + k) vc) w) := hfin
  have HCB : Hid (w.heap[cB]? = some (.cells (itemCells os[j].ty os[j].id st tx) 37 (0, 0))) := hcB hjl
  clear hB hcl next hfin hev hcB
  go_wp2
  rename_i K hK
  have HK : Hid _ := hK
  clear hK
  go_loopw [37] (fun i wr => ∃ n : Nat, n ≤ k ∧ i = .int .i64 n ∧ Fin w0 ss sm rB pB lB sB tB kB g cap is k a nx2 vl n2 xs2 (.slice va (ss.length + k) vc) wr ∧ wr.heap[cB]? = some (.cells (itemCells os[j].ty os[j].id st tx) 37 (0, 0))) (fun i _ => k - (intOf i).toNat)
  case atStart => exact ⟨0, Nat.zero_le _, rfl, HF.out, HCB.out⟩
  case round =>
    obtain ⟨n, hn, rfl, hF, hC⟩ := hrel
    by_cases hlt : n < k
    · have hlo : n < os.length := by omega
      obtain ⟨b, off, rfl, c1, c2, c3⟩ := (HB.out.sl.below hF.old) n hlo
      have hin : n < is.length := by rw [HC.out.len]; exact hlo
      obtain ⟨m1, m2, m3, m4, m5⟩ := HC.out.at_ n hin hlo
      obtain ⟨gg, vc', e, _, _⟩ := hF.row.form (by omega)
      obtain ⟨rfl, rfl⟩ : va = some ⟨gg, 0, none⟩ ∧ vc = vc' := by simp at e; exact e
      clear e m5
      have hgot := got_new hF.row n hlt hin
      unfold Nd.item at hgot
      rw [m1, m2, m3, m4] at hgot
      clear m1 m2 m3 m4
      have HF2 : Hid (Fin w0 ss sm rB pB lB sB tB kB g cap is k a nx2 vl n2 xs2 (.slice (some ⟨gg, 0, none⟩) (ss.length + k) vc) wr) := hF
      have HC2 : Hid (wr.heap[cB]? = some (.cells (itemCells os[j].ty os[j].id st tx) 37 (0, 0))) := hC
      have hCB := hC
      clear hF hC
      have hwr : IntKind.i64.wrap ((ss.length : Int) + (n : Int)) = (ss.length : Int) + (n : Int) := IntWalk.i64_in _ (by omega)
      have hix : ((ss.length : Int) + (n : Int)).toNat = ss.length + n := by omega
      have hnn : (0 : Int) ≤ (ss.length : Int) + (n : Int) := by omega
      have hlti : (ss.length : Int) + (n : Int) < (ss.length : Int) + (k : Int) := by omega
      by_cases hnj : n = j
      · subst hnj
        simp only [if_true] at hgot
        obtain ⟨s, hs⟩ : ∃ s, s = os[n] := ⟨_, rfl⟩
        rw [← hs] at c1 c2 c3 hCB
        simp only [← hs] at hgot
        have HSL : Hid (s = os[n]) := hs
        clear hs
        obtain ⟨id, ty, dn⟩ := s
        dsimp only at c1 c2 c3 hgot hCB
        go_wp2_with fail
        refine (openItem_any id ty dn _).mono ?_
        rintro e w1 ⟨rfl, rfl⟩
        have q0 : ∀ o1 o2 o3 : Obj, (((wr.alloc o1).alloc o2).alloc o3).cell? ⟨cB, 0, none⟩ = some (.string ty) := fun _ _ _ => cell_below (below_alG wr _ _ _) (cell_look hCB)
        have q1 : ∀ o1 o2 o3 : Obj, (((wr.alloc o1).alloc o2).alloc o3).cell? ⟨cB, 1, none⟩ = some (.string id) := fun _ _ _ => cell_below (below_alG wr _ _ _) (cell_look hCB)
        have q2 : ∀ o1 o2 o3 : Obj, (((wr.alloc o1).alloc o2).alloc o3).cell? ⟨cB, 2, none⟩ = some (.string st) := fun _ _ _ => cell_below (below_alG wr _ _ _) (cell_look hCB)
        have q3 : ∀ o1 o2 o3 : Obj, (((wr.alloc o1).alloc o2).alloc o3).cell? ⟨cB, 3, none⟩ = some (.string ⟨#[]⟩) := fun _ _ _ => cell_below (below_alG wr _ _ _) (cell_look hCB)
        have q4 : ∀ o1 o2 o3 : Obj, (((wr.alloc o1).alloc o2).alloc o3).cell? ⟨cB, 4, none⟩ = some (.slice none 0 0) := fun _ _ _ => cell_below (below_alG wr _ _ _) (cell_look hCB)
        have q5 : ∀ o1 o2 o3 : Obj, (((wr.alloc o1).alloc o2).alloc o3).cell? ⟨cB, 5, none⟩ = some (.string ⟨#[]⟩) := fun _ _ _ => cell_below (below_alG wr _ _ _) (cell_look hCB)
        have q6 : ∀ o1 o2 o3 : Obj, (((wr.alloc o1).alloc o2).alloc o3).cell? ⟨cB, 6, none⟩ = some (.string ⟨#[]⟩) := fun _ _ _ => cell_below (below_alG wr _ _ _) (cell_look hCB)
        have q7 : ∀ o1 o2 o3 : Obj, (((wr.alloc o1).alloc o2).alloc o3).cell? ⟨cB, 7, none⟩ = some (.string ⟨#[]⟩) := fun _ _ _ => cell_below (below_alG wr _ _ _) (cell_look hCB)
        have q8 : ∀ o1 o2 o3 : Obj, (((wr.alloc o1).alloc o2).alloc o3).cell? ⟨cB, 8, none⟩ = some (.string ⟨#[]⟩) := fun _ _ _ => cell_below (below_alG wr _ _ _) (cell_look hCB)
        have q9 : ∀ o1 o2 o3 : Obj, (((wr.alloc o1).alloc o2).alloc o3).cell? ⟨cB, 9, none⟩ = some (.bool false) := fun _ _ _ => cell_below (below_alG wr _ _ _) (cell_look hCB)
        have q10 : ∀ o1 o2 o3 : Obj, (((wr.alloc o1).alloc o2).alloc o3).cell? ⟨cB, 10, none⟩ = some (.string tx) := fun _ _ _ => cell_below (below_alG wr _ _ _) (cell_look hCB)
        clear hCB
        go_upto_region 61 with fail
        refine gen_worldG ?_
        intro W hW
        have hWb : Below wr.heap.size wr W := by rw [hW]; exact below_alG _ _ _ _
        have hWw : W.heap[wr.heap.size + 1 + 1]? = some (.cells (itemCells ty id st tx) 37 (0, 0)) := by rw [hW]; exact alG_last _ _ _ _
        clear hW q0 q1 q2 q3 q4 q5 q6 q7 q8 q9 q10
        have hi37 : (Try.prog.info? 37).map (·.size) = some (itemCells ty id st tx).toList.length := by kernel_rfl
        refine wp_region_tail 7 (by kernel_rfl) (by kernel_rfl) ?_
        intro w2 hw2
        have hb2 : Below wr.heap.size wr w2 := by rw [hw2]; exact below_drewN hWb 1
        have hx1 : w2.rangeAt gg ((ss.length + n) * 11) (itemCells ty id st tx).toList := fun i v hv => cell_below hb2 (hgot i v hv)
        have hx2 : w2.rangeAt (wr.heap.size + 1 + 1) 0 (itemCells ty id st tx).toList := by rw [hw2]; exact range_block hWw
        clear hw2 hWb hWw hgot c1 c2 c3
        simp only [List.take_succ_cons, List.take_zero, List.drop_succ_cons, List.drop_zero]
        still_step
        still_step
        still_step
        still_step
        still_step
        refine still_load_mid rfl 37 (.tmp 263) rfl gg ((ss.length + n) * 11) ?_ _ _ hx1 Try.underlying37 rfl hi37 ?_
        · rfl
        refine still_load_mid rfl 37 (.tmp 38) rfl (wr.heap.size + 1 + 1) 0 rfl _ _ hx2 Try.underlying37 rfl hi37 ?_
        refine wpStill_nil ?_
        go_wp2_with fail
        refine (eqItem_any ty id st tx _).mono ?_
        rintro e w5 ⟨rfl, hb5⟩
        have HB5 : Hid (Below wr.heap.size wr w5) := hb2.trans (Below.mono hb5 hb2.size)
        clear hb5 hb2 hx1 hx2 hi37
        go_wp2
        go_round
        case rel => exact ⟨n + 1, by omega, by go_num, HF2.out.below HB5.out, (HB5.out.block _ (lt_of_look HC2.out)).trans HC2.out⟩
        case measure => simp [intOf]; omega
      · simp only [if_neg hnj] at hgot
        have hnj2 : ¬ ((n : Int) = (j : Int)) := by omega
        clear hCB
        obtain ⟨s, hs⟩ : ∃ s, s = os[n] := ⟨_, rfl⟩
        rw [← hs] at c1 c2 c3
        simp only [← hs] at hgot
        have HSL : Hid (s = os[n]) := hs
        clear hs
        obtain ⟨id, ty, dn⟩ := s
        dsimp only at c1 c2 c3 hgot
        go_wp2_with fail
        refine (openItem_any id ty dn _).mono ?_
        rintro e w1 ⟨rfl, rfl⟩
        go_upto_region 61 with fail
        refine gen_worldG ?_
        intro W hW
        have hWb : Below wr.heap.size wr W := by rw [hW]; exact below_alG _ _ _ _
        have hWw : W.heap[wr.heap.size + 1 + 1]? = some (.cells (itemCells ty id (stOf dn) eS) 37 (0, 0)) := by rw [hW]; exact alG_last _ _ _ _
        clear hW hnj2
        have hi37 : (Try.prog.info? 37).map (·.size) = some (itemCells ty id (stOf dn) eS).toList.length := by kernel_rfl
        refine wp_region_tail 7 (by kernel_rfl) (by kernel_rfl) ?_
        intro w2 hw2
        have hb2 : Below wr.heap.size wr w2 := by rw [hw2]; exact below_drewN hWb 1
        have hx1 : w2.rangeAt gg ((ss.length + n) * 11) (itemCells ty id (stOf dn) eS).toList := fun i v hv => cell_below hb2 (hgot i v hv)
        have hx2 : w2.rangeAt (wr.heap.size + 1 + 1) 0 (itemCells ty id (stOf dn) eS).toList := by rw [hw2]; exact range_block hWw
        clear hw2 hWb hWw hgot c1 c2 c3
        simp only [List.take_succ_cons, List.take_zero, List.drop_succ_cons, List.drop_zero]
        still_step
        still_step
        still_step
        still_step
        still_step
        refine still_load_mid rfl 37 (.tmp 263) rfl gg ((ss.length + n) * 11) ?_ _ _ hx1 Try.underlying37 rfl hi37 ?_
        · rfl
        refine still_load_mid rfl 37 (.tmp 38) rfl (wr.heap.size + 1 + 1) 0 rfl _ _ hx2 Try.underlying37 rfl hi37 ?_
        refine wpStill_nil ?_
        go_wp2_with fail
        refine (eqItem_any ty id (stOf dn) eS _).mono ?_
        rintro e w5 ⟨rfl, hb5⟩
        have HB5 : Hid (Below wr.heap.size wr w5) := hb2.trans (Below.mono hb5 hb2.size)
        clear hb5 hb2 hx1 hx2 hi37
        go_wp2
        go_round
        case rel => exact ⟨n + 1, by omega, by go_num, HF2.out.below HB5.out, (HB5.out.block _ (lt_of_look HC2.out)).trans HC2.out⟩
        case measure => simp [intOf]; omega
    · have hno : n = k := by omega
      subst hno
      go_wp2
      refine HK.out _ _ ?_
      have next := HN.out
      unfold PhH at next
      apply next
      · exact HB.out
      · exact HC.out
      · exact hF
      · exact HE.out
      · exact fun _ => hC
end Go.Proofs.Qxb6612221a.Cl
