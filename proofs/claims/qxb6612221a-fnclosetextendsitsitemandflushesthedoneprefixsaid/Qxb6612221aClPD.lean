/- The law's function: the closed item, and how many are flushed. -/
import Derived.Test.Qxb6612221aClJ
namespace Go.Proofs.Qxb6612221a.Cl
open Go.RowKit
attribute [local go_sem ↓] Go.wp_at_zero Go.wp_at_succ
theorem below_al3 (w : World) (o1 o2 o3 : Obj) : Below w.heap.size w (((w.alloc o1).alloc o2).alloc o3) := (((Below.refl _ w).alloc (Nat.le_refl _) o1).alloc (by simp) o2).alloc (by simp; omega) o3
theorem al3_last (w : World) (o1 o2 o3 : Obj) : (((w.alloc o1).alloc o2).alloc o3).heap[w.heap.size + 2]? = some o3 := by
  have h := heap_alloc_new ((w.alloc o1).alloc o2) o3
  rw [show ((w.alloc o1).alloc o2).heap.size = w.heap.size + 2 by simp] at h
  exact h
set_option maxRecDepth 1000000 in
set_option maxHeartbeats 8000000 in
theorem phD (next : PhE) : PhD := by
  unfold PhD
  intro w0 ao bo ca cb ss os j nx kd tx st pt sm rB pB lB sB tB kB g cap is k a nx2 vl n2 xs2 vo w
  intros
  rename_i hB hcl hfin hev
  conv => arg 2; whnf
  have l1 := hB.l1
  have l2 := hB.l2
  have hjl := hB.hj
  have klen := hcl.kle
  rw [hcl.len] at klen
  obtain ⟨b, off, rfl, c1, c2, c3⟩ := (hB.sl.below hfin.old) j hjl
  have HB : Hid (Base w0 ao (some ⟨b, off, none⟩) ss os j) := hB
  have HN : Hid PhE := next
  have HE : Hid (∀ h : j < os.length, Evs sm pt nx ((ss.length : Int) + j) kd tx st os[j].ty os[j].id nx2 n2 xs2) := hev
  have HC : Hid (Closed ss.length os j st tx is k a cap) := hcl
  have HF : Hid (Fin w0 ss sm rB pB lB sB tB kB g cap is k a nx2 vl n2 xs2 vo w) := hfin
  clear hB hcl next hfin hev
  obtain ⟨s, hs⟩ : ∃ s, s = os[j] := ⟨_, rfl⟩
  rw [← hs] at c1 c2 c3
  have HSL : Hid (s = os[j]) := hs
  clear hs
  obtain ⟨id, ty, dn⟩ := s
  dsimp only at c1 c2 c3
  go_wp2_with fail
  refine (openItem_any id ty dn _).mono ?_
  rintro e w1 ⟨rfl, rfl⟩
  go_wp2
  rename_i K hK
  have HK : Hid _ := hK
  clear hK
  go_loopw [30, 31] (fun v i wr => ∃ n : Nat, n ≤ k ∧ i = .int .i64 n ∧ v = .int .i64 (os.length : Int) ∧ Fin w0 ss sm rB pB lB sB tB kB g cap is k a nx2 vl n2 xs2 vo wr ∧ wr.heap[w.heap.size + 2]? = some (.cells (itemCells ty id st tx) 37 (0, 0))) (fun _ i _ => os.length - (intOf i).toNat)
  case atStart => exact ⟨0, Nat.zero_le _, rfl, rfl, HF.out.below (below_al3 _ _ _ _), al3_last _ _ _ _⟩
  case round =>
    obtain ⟨n, hn, rfl, rfl, hF, hC⟩ := hrel
    have HF2 : Hid (Fin w0 ss sm rB pB lB sB tB kB g cap is k a nx2 vl n2 xs2 vo wr) := hF
    have HC2 : Hid (wr.heap[w.heap.size + 2]? = some (.cells (itemCells ty id st tx) 37 (0, 0))) := hC
    have HEnd : Hid (∀ h : j < os.length, wr.heap[w.heap.size + 2]? = some (.cells (itemCells os[j].ty os[j].id st tx) 37 (0, 0))) := fun h => by rw [← HSL.out]; exact hC
    clear hF hC
    by_cases hlt : n < os.length
    · obtain ⟨b', off', e', d1, d2, d3⟩ := (HB.out.sl.below HF2.out.old) n hlt
      cases e'
      clear d1 d2
      obtain ⟨m1, m2, m3, m4, m5⟩ := HC.out.at_ n (by rw [HC.out.len]; exact hlt) hlt
      clear m1 m2 m3 m4
      have hst := HC.out.stop
      have hpre := HC.out.pre n (by rw [HC.out.len]; exact hlt)
      by_cases hnk : n = k
      · subst hnk
        rw [hst (by rw [HC.out.len]; exact hlt)] at m5
        have hnj : n ≠ j := fun e => by simp [e] at m5
        rw [if_neg hnj] at m5
        rw [← m5] at d3
        clear hst hpre m5
        have hnj2 : ((n : Int) != (j : Int)) = true := by simp; omega
        have hnj3 : ¬ ((n : Int) = (j : Int)) := by omega
        go_wp2
        refine HK.out _ _ ?_
        have next := HN.out
        unfold PhE at next
        apply next
        · exact HB.out
        · exact HC.out
        · exact HF2.out
        · exact HE.out
        · exact HEnd.out
        · rfl
      · rw [hpre (by omega)] at m5
        clear hst hpre
        by_cases hnj : n = j
        · have hnj2 : ((n : Int) != (j : Int)) = false := by simp [hnj]
          clear m5
          go_wp2
          go_round
          case rel => exact ⟨n + 1, by omega, by go_num, rfl, HF2.out, HC2.out⟩
          case measure => simp [intOf]; omega
        · rw [if_neg hnj] at m5
          rw [← m5] at d3
          clear m5
          have hnj2 : ((n : Int) != (j : Int)) = true := by simp; omega
          go_wp2
          go_round
          case rel => exact ⟨n + 1, by omega, by go_num, rfl, HF2.out, HC2.out⟩
          case measure => simp [intOf]; omega
    · have hnk : n = k := by omega
      subst hnk
      have hno : n = os.length := by omega
      go_wp2
      refine HK.out _ _ ?_
      have next := HN.out
      unfold PhE at next
      apply next
      · exact HB.out
      · exact HC.out
      · exact HF2.out
      · exact HE.out
      · exact HEnd.out
      · rw [← hno]
end Go.Proofs.Qxb6612221a.Cl
