/- The law's function: every announced item as it now stands. -/
import Derived.Test.Qxb6612221aClJ
import Derived.Deep.DeepCutAuto
import Derived.Deep.CutBlock
namespace Go.Proofs.Qxb6612221a.Cl
open Go.RowKit
attribute [local go_sem ↓] Go.wp_at_zero Go.wp_at_succ
theorem below_alE (w : World) (o1 o2 o3 : Obj) : Below w.heap.size w (((w.alloc o1).alloc o2).alloc o3) := (((Below.refl _ w).alloc (Nat.le_refl _) o1).alloc (by simp) o2).alloc (by simp; omega) o3
theorem below_al1 (w : World) (o : Obj) : Below w.heap.size w (w.alloc o) := (Below.refl _ w).alloc (Nat.le_refl _) o
theorem gen_world {P : Program} {c : Code} {Q : Exit → Act → World → Prop} {a : Act} {w : World} (h : ∀ W, W = w → Code.wp P c Q a W) : Code.wp P c Q a w := h w rfl
theorem al3_last' (w : World) (o1 o2 o3 : Obj) : (((w.alloc o1).alloc o2).alloc o3).heap[w.heap.size + 1 + 1]? = some o3 := by
  have h := heap_alloc_new ((w.alloc o1).alloc o2) o3
  rw [show ((w.alloc o1).alloc o2).heap.size = w.heap.size + 1 + 1 by simp] at h
  exact h
set_option maxRecDepth 1000000 in
set_option maxHeartbeats 8000000 in
theorem phE (next : PhF) : PhE := by
  unfold PhE
  intro w0 ao bo ca cb ss os j nx kd tx st pt sm rB pB lB sB tB kB g cap is k a nx2 vl n2 xs2 vo cB kv w
  intros
  rename_i hB hcl hfin hev hcB hkv
  subst hkv
  conv => arg 2; whnf
  have l1 := hB.l1
  have l2 := hB.l2
  have hjl := hB.hj
  have t1 : w.cell? ⟨tB, 1, none⟩ = some (.pointer none) := cell_look hfin.text
  have HB : Hid (Base w0 ao bo ss os j) := hB
  have HN : Hid PhF := next
  have HE : Hid (∀ h : j < os.length, Evs sm pt nx ((ss.length : Int) + j) kd tx st os[j].ty os[j].id nx2 n2 xs2) := hev
  have HC : Hid (Closed ss.length os j st tx is k a cap) := hcl
  have HF : Hid (Fin w0 ss sm rB pB lB sB tB kB g cap is k a nx2 vl n2 xs2 vo w) := hfin
  have HCB : Hid (w.heap[cB]? = some (.cells (itemCells os[j].ty os[j].id st tx) 37 (0, 0))) := hcB hjl
  clear hB hcl next hfin hev hcB
  go_wp2_with fail
  refine (textItem_any tB _ _ t1).mono ?_
  rintro e w1 ⟨rfl, rfl⟩
  go_wp2
  rename_i K hK
  have HK : Hid _ := hK
  clear hK
  go_loopw [32] (fun i wr => ∃ n : Nat, n ≤ os.length ∧ i = .int .i64 n ∧ Fin w0 ss sm rB pB lB sB tB kB g cap is k a nx2 vl n2 xs2 vo wr ∧ wr.heap[cB]? = some (.cells (itemCells os[j].ty os[j].id st tx) 37 (0, 0))) (fun i _ => os.length - (intOf i).toNat)
  case atStart => exact ⟨0, Nat.zero_le _, rfl, HF.out, HCB.out⟩
  case round =>
    obtain ⟨n, hn, rfl, hF, hC⟩ := hrel
    by_cases hlt : n < os.length
    · obtain ⟨b, off, rfl, c1, c2, c3⟩ := (HB.out.sl.below hF.old) n hlt
      have hin : n < is.length := by rw [HC.out.len]; exact hlt
      obtain ⟨m1, m2, m3, m4, m5⟩ := HC.out.at_ n hin hlt
      have hI := hF.items.item n hin
      obtain ⟨cs, hcs, hcr⟩ := hF.items.row
      have g1 : wr.cell? ⟨g, n, none⟩ = some (.pointer (some ⟨is[n].b, 0, none⟩)) := (cell_look hcs).trans (hcr n hin)
      clear hcs hcr
      have HF2 : Hid (Fin w0 ss sm rB pB lB sB tB kB g cap is k a nx2 vl n2 xs2 vo wr) := hF
      have HC2 : Hid (wr.heap[cB]? = some (.cells (itemCells os[j].ty os[j].id st tx) 37 (0, 0))) := hC
      have hCB := hC
      clear hF hC
      unfold Nd.cells at hI
      rw [m1, m2, m3, m4, m5] at hI
      clear m1 m2 m3 m4 m5
      generalize is[n].ix = ix at hI
      generalize is[n].b = nb at hI g1
      by_cases hnj : n = j
      · subst hnj
        simp only [if_true] at hI
        obtain ⟨s, hs⟩ : ∃ s, s = os[n] := ⟨_, rfl⟩
        rw [← hs] at c1 c2 c3 hI hCB
        have HSL : Hid (s = os[n]) := hs
        clear hs
        obtain ⟨id, ty, dn⟩ := s
        dsimp only at c1 c2 c3 hI hCB
        go_wp2_with fail
        refine (openItem_any id ty dn _).mono ?_
        rintro e w1 ⟨rfl, rfl⟩
        have q0 : ∀ o1 o2 o3 : Obj, (((wr.alloc o1).alloc o2).alloc o3).cell? ⟨cB, 0, none⟩ = some (.string ty) := fun _ _ _ => cell_below (below_alE wr _ _ _) (cell_look hCB)
        have q1 : ∀ o1 o2 o3 : Obj, (((wr.alloc o1).alloc o2).alloc o3).cell? ⟨cB, 1, none⟩ = some (.string id) := fun _ _ _ => cell_below (below_alE wr _ _ _) (cell_look hCB)
        have q2 : ∀ o1 o2 o3 : Obj, (((wr.alloc o1).alloc o2).alloc o3).cell? ⟨cB, 2, none⟩ = some (.string st) := fun _ _ _ => cell_below (below_alE wr _ _ _) (cell_look hCB)
        have q3 : ∀ o1 o2 o3 : Obj, (((wr.alloc o1).alloc o2).alloc o3).cell? ⟨cB, 3, none⟩ = some (.string ⟨#[]⟩) := fun _ _ _ => cell_below (below_alE wr _ _ _) (cell_look hCB)
        have q4 : ∀ o1 o2 o3 : Obj, (((wr.alloc o1).alloc o2).alloc o3).cell? ⟨cB, 4, none⟩ = some (.slice none 0 0) := fun _ _ _ => cell_below (below_alE wr _ _ _) (cell_look hCB)
        have q5 : ∀ o1 o2 o3 : Obj, (((wr.alloc o1).alloc o2).alloc o3).cell? ⟨cB, 5, none⟩ = some (.string ⟨#[]⟩) := fun _ _ _ => cell_below (below_alE wr _ _ _) (cell_look hCB)
        have q6 : ∀ o1 o2 o3 : Obj, (((wr.alloc o1).alloc o2).alloc o3).cell? ⟨cB, 6, none⟩ = some (.string ⟨#[]⟩) := fun _ _ _ => cell_below (below_alE wr _ _ _) (cell_look hCB)
        have q7 : ∀ o1 o2 o3 : Obj, (((wr.alloc o1).alloc o2).alloc o3).cell? ⟨cB, 7, none⟩ = some (.string ⟨#[]⟩) := fun _ _ _ => cell_below (below_alE wr _ _ _) (cell_look hCB)
        have q8 : ∀ o1 o2 o3 : Obj, (((wr.alloc o1).alloc o2).alloc o3).cell? ⟨cB, 8, none⟩ = some (.string ⟨#[]⟩) := fun _ _ _ => cell_below (below_alE wr _ _ _) (cell_look hCB)
        have q9 : ∀ o1 o2 o3 : Obj, (((wr.alloc o1).alloc o2).alloc o3).cell? ⟨cB, 9, none⟩ = some (.bool false) := fun _ _ _ => cell_below (below_alE wr _ _ _) (cell_look hCB)
        have q10 : ∀ o1 o2 o3 : Obj, (((wr.alloc o1).alloc o2).alloc o3).cell? ⟨cB, 10, none⟩ = some (.string tx) := fun _ _ _ => cell_below (below_alE wr _ _ _) (cell_look hCB)
        have p1 : ∀ o1 o2 o3 : Obj, (((wr.alloc o1).alloc o2).alloc o3).cell? ⟨b, off + n * 3 + 2, none⟩ = some (.bool dn) := fun _ _ _ => cell_below (below_alE wr _ _ _) c3
        have p2 : ∀ o1 o2 o3 : Obj, (((wr.alloc o1).alloc o2).alloc o3).cell? ⟨g, n, none⟩ = some (.pointer (some ⟨nb, 0, none⟩)) := fun _ _ _ => cell_below (below_alE wr _ _ _) g1
        clear hCB
        go_upto_region 45 with fail
        refine gen_world ?_
        intro W hW
        have hWb : Below wr.heap.size wr W := by rw [hW]; exact below_alE _ _ _ _
        have hWw : W.heap[wr.heap.size + 1 + 1]? = some (.cells (itemCells ty id st tx) 37 (0, 0)) := by rw [hW]; exact al3_last' _ _ _ _
        clear hW p1 p2 q0 q1 q2 q3 q4 q5 q6 q7 q8 q9 q10
        have hI2 : W.heap[nb]? = some (.cells (siCells ty id st tx ix true) 94 (0, 0)) := (hWb.block _ (lt_of_look hI)).trans hI
        have g2 : W.cell? ⟨g, n, none⟩ = some (.pointer (some ⟨nb, 0, none⟩)) := cell_below hWb g1
        have hd12 : W.cell? ⟨nb, 12, none⟩ = some (.bool true) := cell_look hI2
        have hu37 := Try.underlying37
        have hi37 : (Try.prog.info? 37).map (·.size) = some (itemCells ty id st tx).toList.length := by kernel_rfl
        have HK1 : Hid (∀ w', Below W.heap.size W w' → w'.cell? ⟨g, n, none⟩ = some (.pointer (some ⟨nb, 0, none⟩)) ∧ w'.cell? ⟨wr.heap.size + 1 + 1, 0, none⟩ = some (.string ty) ∧ w'.cell? ⟨wr.heap.size + 1 + 1, 1, none⟩ = some (.string id) ∧ w'.cell? ⟨wr.heap.size + 1 + 1, 2, none⟩ = some (.string st) ∧ w'.cell? ⟨wr.heap.size + 1 + 1, 3, none⟩ = some (.string ⟨#[]⟩) ∧ w'.cell? ⟨wr.heap.size + 1 + 1, 4, none⟩ = some (.slice none 0 0) ∧ w'.cell? ⟨wr.heap.size + 1 + 1, 5, none⟩ = some (.string ⟨#[]⟩) ∧ w'.cell? ⟨wr.heap.size + 1 + 1, 6, none⟩ = some (.string ⟨#[]⟩) ∧ w'.cell? ⟨wr.heap.size + 1 + 1, 7, none⟩ = some (.string ⟨#[]⟩) ∧ w'.cell? ⟨wr.heap.size + 1 + 1, 8, none⟩ = some (.string ⟨#[]⟩) ∧ w'.cell? ⟨wr.heap.size + 1 + 1, 9, none⟩ = some (.bool false) ∧ w'.cell? ⟨wr.heap.size + 1 + 1, 10, none⟩ = some (.string tx)) := fun w' hb => ⟨cell_below hb g2, cell_below hb (cell_look hWw), cell_below hb (cell_look hWw), cell_below hb (cell_look hWw), cell_below hb (cell_look hWw), cell_below hb (cell_look hWw), cell_below hb (cell_look hWw), cell_below hb (cell_look hWw), cell_below hb (cell_look hWw), cell_below hb (cell_look hWw), cell_below hb (cell_look hWw), cell_below hb (cell_look hWw)⟩
        have HWB : Hid (Below wr.heap.size wr W) := hWb
        have HI2 : Hid (W.heap[nb]? = some (.cells (siCells ty id st tx ix true) 94 (0, 0))) := hI2
        clear hI hI2 hWw hWb c1 c2 c3 g1
        go_region_held3 (fun w' => w'.cell? ⟨g, n, none⟩ = some (.pointer (some ⟨nb, 0, none⟩)) ∧ w'.cell? ⟨wr.heap.size + 1 + 1, 0, none⟩ = some (.string ty) ∧ w'.cell? ⟨wr.heap.size + 1 + 1, 1, none⟩ = some (.string id) ∧ w'.cell? ⟨wr.heap.size + 1 + 1, 2, none⟩ = some (.string st) ∧ w'.cell? ⟨wr.heap.size + 1 + 1, 3, none⟩ = some (.string ⟨#[]⟩) ∧ w'.cell? ⟨wr.heap.size + 1 + 1, 4, none⟩ = some (.slice none 0 0) ∧ w'.cell? ⟨wr.heap.size + 1 + 1, 5, none⟩ = some (.string ⟨#[]⟩) ∧ w'.cell? ⟨wr.heap.size + 1 + 1, 6, none⟩ = some (.string ⟨#[]⟩) ∧ w'.cell? ⟨wr.heap.size + 1 + 1, 7, none⟩ = some (.string ⟨#[]⟩) ∧ w'.cell? ⟨wr.heap.size + 1 + 1, 8, none⟩ = some (.string ⟨#[]⟩) ∧ w'.cell? ⟨wr.heap.size + 1 + 1, 9, none⟩ = some (.bool false) ∧ w'.cell? ⟨wr.heap.size + 1 + 1, 10, none⟩ = some (.string tx))
          (first | exact HK1.out _ (below_drewN (Below.refl _ W) 1) | exact HK1.out _ (below_drewN (below_al1 W _) 1) | exact HK1.out _ (Below.trans (below_drewN (below_al1 W _) 1) (Below.mono hb5 (by simp))) | fail "not kept")
          (first
            | (go_at_call 18; refine (itemDone_any nb _ _ (by exact hd12)).mono ?_; rintro e w4 ⟨rfl, rfl⟩)
            | (go_at_call 20; refine (itemOf_any nb ty id st tx ix true _ (by exact HI2.out)).mono ?_; rintro e w4 ⟨rfl, rfl⟩)
            | (go_at_call 19; refine (eqItem_any ty id st tx _).mono ?_; rintro e w5 ⟨rfl, hb5⟩)
            | fail "no contract")
        have HB5 : Hid (Below wr.heap.size wr w5) := HWB.out.trans (Below.mono (Below.trans (below_drewN (below_al1 W _) 1) (Below.mono hb5 (by simp))) HWB.out.size)
        clear hb5
        go_wp2
        go_round
        case rel => exact ⟨n + 1, by omega, by go_num, HF2.out.below HB5.out, (HB5.out.block _ (lt_of_look HC2.out)).trans HC2.out⟩
        case measure => simp [intOf]; omega
      · rw [if_neg hnj, if_neg hnj, if_neg hnj] at hI
        have hnj2 : ¬ ((n : Int) = (j : Int)) := by omega
        clear hCB
        obtain ⟨s, hs⟩ : ∃ s, s = os[n] := ⟨_, rfl⟩
        rw [← hs] at c1 c2 c3 hI
        have HSL : Hid (s = os[n]) := hs
        clear hs
        obtain ⟨id, ty, dn⟩ := s
        dsimp only at c1 c2 c3 hI
        go_wp2_with fail
        refine (openItem_any id ty dn _).mono ?_
        rintro e w1 ⟨rfl, rfl⟩
        have p1 : ∀ o1 o2 o3 : Obj, (((wr.alloc o1).alloc o2).alloc o3).cell? ⟨b, off + n * 3 + 2, none⟩ = some (.bool dn) := fun _ _ _ => cell_below (below_alE wr _ _ _) c3
        have p2 : ∀ o1 o2 o3 : Obj, (((wr.alloc o1).alloc o2).alloc o3).cell? ⟨g, n, none⟩ = some (.pointer (some ⟨nb, 0, none⟩)) := fun _ _ _ => cell_below (below_alE wr _ _ _) g1
        go_upto_region 45 with fail
        refine gen_world ?_
        intro W hW
        have hWb : Below wr.heap.size wr W := by rw [hW]; exact below_alE _ _ _ _
        have hWw : W.heap[wr.heap.size + 1 + 1]? = some (.cells (itemCells ty id (stOf dn) eS) 37 (0, 0)) := by rw [hW]; exact al3_last' _ _ _ _
        clear hW p1 p2 hnj2
        have hI2 : W.heap[nb]? = some (.cells (siCells ty id (stOf dn) eS ix dn) 94 (0, 0)) := (hWb.block _ (lt_of_look hI)).trans hI
        have g2 : W.cell? ⟨g, n, none⟩ = some (.pointer (some ⟨nb, 0, none⟩)) := cell_below hWb g1
        have hd12 : W.cell? ⟨nb, 12, none⟩ = some (.bool dn) := cell_look hI2
        have hu37 := Try.underlying37
        have hi37 : (Try.prog.info? 37).map (·.size) = some (itemCells ty id (stOf dn) eS).toList.length := by kernel_rfl
        have HK1 : Hid (∀ w', Below W.heap.size W w' → w'.cell? ⟨g, n, none⟩ = some (.pointer (some ⟨nb, 0, none⟩)) ∧ w'.cell? ⟨wr.heap.size + 1 + 1, 0, none⟩ = some (.string ty) ∧ w'.cell? ⟨wr.heap.size + 1 + 1, 1, none⟩ = some (.string id) ∧ w'.cell? ⟨wr.heap.size + 1 + 1, 2, none⟩ = some (.string (stOf dn)) ∧ w'.cell? ⟨wr.heap.size + 1 + 1, 3, none⟩ = some (.string ⟨#[]⟩) ∧ w'.cell? ⟨wr.heap.size + 1 + 1, 4, none⟩ = some (.slice none 0 0) ∧ w'.cell? ⟨wr.heap.size + 1 + 1, 5, none⟩ = some (.string ⟨#[]⟩) ∧ w'.cell? ⟨wr.heap.size + 1 + 1, 6, none⟩ = some (.string ⟨#[]⟩) ∧ w'.cell? ⟨wr.heap.size + 1 + 1, 7, none⟩ = some (.string ⟨#[]⟩) ∧ w'.cell? ⟨wr.heap.size + 1 + 1, 8, none⟩ = some (.string ⟨#[]⟩) ∧ w'.cell? ⟨wr.heap.size + 1 + 1, 9, none⟩ = some (.bool false) ∧ w'.cell? ⟨wr.heap.size + 1 + 1, 10, none⟩ = some (.string eS)) := fun w' hb => ⟨cell_below hb g2, cell_below hb (cell_look hWw), cell_below hb (cell_look hWw), cell_below hb (cell_look hWw), cell_below hb (cell_look hWw), cell_below hb (cell_look hWw), cell_below hb (cell_look hWw), cell_below hb (cell_look hWw), cell_below hb (cell_look hWw), cell_below hb (cell_look hWw), cell_below hb (cell_look hWw), cell_below hb (cell_look hWw)⟩
        have HWB : Hid (Below wr.heap.size wr W) := hWb
        have HI2 : Hid (W.heap[nb]? = some (.cells (siCells ty id (stOf dn) eS ix dn) 94 (0, 0))) := hI2
        clear hI hI2 hWw hWb c1 c2 c3 g1
        go_region_held3 (fun w' => w'.cell? ⟨g, n, none⟩ = some (.pointer (some ⟨nb, 0, none⟩)) ∧ w'.cell? ⟨wr.heap.size + 1 + 1, 0, none⟩ = some (.string ty) ∧ w'.cell? ⟨wr.heap.size + 1 + 1, 1, none⟩ = some (.string id) ∧ w'.cell? ⟨wr.heap.size + 1 + 1, 2, none⟩ = some (.string (stOf dn)) ∧ w'.cell? ⟨wr.heap.size + 1 + 1, 3, none⟩ = some (.string ⟨#[]⟩) ∧ w'.cell? ⟨wr.heap.size + 1 + 1, 4, none⟩ = some (.slice none 0 0) ∧ w'.cell? ⟨wr.heap.size + 1 + 1, 5, none⟩ = some (.string ⟨#[]⟩) ∧ w'.cell? ⟨wr.heap.size + 1 + 1, 6, none⟩ = some (.string ⟨#[]⟩) ∧ w'.cell? ⟨wr.heap.size + 1 + 1, 7, none⟩ = some (.string ⟨#[]⟩) ∧ w'.cell? ⟨wr.heap.size + 1 + 1, 8, none⟩ = some (.string ⟨#[]⟩) ∧ w'.cell? ⟨wr.heap.size + 1 + 1, 9, none⟩ = some (.bool false) ∧ w'.cell? ⟨wr.heap.size + 1 + 1, 10, none⟩ = some (.string eS))
          (first | exact HK1.out _ (below_drewN (Below.refl _ W) 1) | exact HK1.out _ (below_drewN (below_al1 W _) 1) | exact HK1.out _ (Below.trans (below_drewN (below_al1 W _) 1) (Below.mono hb5 (by simp))) | fail "not kept")
          (first
            | (go_at_call 18; refine (itemDone_any nb _ _ (by exact hd12)).mono ?_; rintro e w4 ⟨rfl, rfl⟩)
            | (go_at_call 20; refine (itemOf_any nb ty id (stOf dn) eS ix dn _ (by exact HI2.out)).mono ?_; rintro e w4 ⟨rfl, rfl⟩)
            | (go_at_call 19; refine (eqItem_any ty id (stOf dn) eS _).mono ?_; rintro e w5 ⟨rfl, hb5⟩)
            | fail "no contract")
        have HB5 : Hid (Below wr.heap.size wr w5) := HWB.out.trans (Below.mono (Below.trans (below_drewN (below_al1 W _) 1) (Below.mono hb5 (by simp))) HWB.out.size)
        clear hb5
        go_wp2
        go_round
        case rel => exact ⟨n + 1, by omega, by go_num, HF2.out.below HB5.out, (HB5.out.block _ (lt_of_look HC2.out)).trans HC2.out⟩
        case measure => simp [intOf]; omega
    · have hno : n = os.length := by omega
      subst hno
      go_wp2
      refine HK.out _ _ ?_
      have next := HN.out
      unfold PhF at next
      apply next
      · exact HB.out
      · exact HC.out
      · exact hF
      · exact HE.out
      · exact fun _ => hC
end Go.Proofs.Qxb6612221a.Cl
