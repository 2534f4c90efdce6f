/- The law's function: what is still announced. -/
import Derived.Test.Qxb6612221aClJ
import Derived.Lib.Builder
namespace Go.Proofs.Qxb6612221a.Cl
open Go.RowKit
attribute [local go_sem ↓] Go.wp_at_zero Go.wp_at_succ
theorem info94 : (Try.prog.info? 94).isSome = true := by kernel_rfl
theorem neq_same (q : Nat) (w : World) : Sem.run Try.prog (binOp BinOp.neq 40 (.pointer (some ⟨q, 0, none⟩)) (.pointer (some ⟨q, 0, none⟩))) w = .ok (.bool false) w := by
  obtain ⟨i, hi⟩ := Option.isSome_iff_exists.1 info94
  exact Lib.run_neq_ptr_same w _ Try.underlying40 hi
set_option maxRecDepth 1000000 in
set_option maxHeartbeats 8000000 in
theorem phH (next : PhI) : PhH := by
  unfold PhH
  intro w0 ao bo ca cb ss os j nx kd tx st pt sm rB pB lB sB tB kB g cap is k a nx2 vl n2 xs2 vo cB w
  intros
  rename_i hB hcl hfin hev hcB
  conv => arg 2; whnf
  have l1 := hB.l1
  have l2 := hB.l2
  have hjl := hB.hj
  have klen := hcl.kle
  rw [hcl.len] at klen
  have t1 : w.cell? ⟨rB, 13, none⟩ = some (.slice (some ⟨g, a, none⟩) (os.length - k) (cap - k)) := by
    have := hfin.log.run
    rw [hcl.len] at this
    exact cell_look this
  have hsub : ((os.length - k : Nat) : Int) = (os.length : Int) - (k : Int) := by omega
  have hwr : IntKind.i64.wrap ((os.length : Int) - (k : Int)) = (os.length : Int) - (k : Int) := IntWalk.i64_in _ (by omega)
  have HB : Hid (Base w0 ao bo ss os j) := hB
  have HN : Hid PhI := next
  have HE : Hid (∀ h : j < os.length, Evs sm pt nx ((ss.length : Int) + j) kd tx st os[j].ty os[j].id nx2 n2 xs2) := hev
  have HC : Hid (Closed ss.length os j st tx is k a cap) := hcl
  have HF : Hid (Fin w0 ss sm rB pB lB sB tB kB g cap is k a nx2 vl n2 xs2 vo w) := hfin
  have HCB : Hid (w.heap[cB]? = some (.cells (itemCells os[j].ty os[j].id st tx) 37 (0, 0))) := hcB hjl
  clear hB hcl next hfin hev hcB
  go_wp2_with fail
  refine (runOpen_any rB _ _ t1).mono ?_
  rintro e w1 ⟨rfl, rfl⟩
  go_wp2
  rename_i K hK
  have HK : Hid _ := hK
  clear hK
  go_loopw [40] (fun i wr => ∃ n : Nat, n ≤ os.length - k ∧ i = .int .i64 n ∧ Fin w0 ss sm rB pB lB sB tB kB g cap is k a nx2 vl n2 xs2 vo wr ∧ wr.heap[cB]? = some (.cells (itemCells os[j].ty os[j].id st tx) 37 (0, 0))) (fun i _ => os.length - k - (intOf i).toNat)
  case atStart => exact ⟨0, Nat.zero_le _, rfl, HF.out, HCB.out⟩
  case round =>
    obtain ⟨n, hn, rfl, hF, hC⟩ := hrel
    by_cases hlt : n < os.length - k
    · have hak : a = k := HC.out.ha (by rw [HC.out.len]; omega)
      subst hak
      have hin : a + n < is.length := by rw [HC.out.len]; omega
      obtain ⟨cs, hcs, hcr⟩ := hF.items.row
      have g1 : wr.cell? ⟨g, a + n, none⟩ = some (.pointer (some ⟨is[a + n].b, 0, none⟩)) := (cell_look hcs).trans (hcr (a + n) hin)
      clear hcs hcr
      generalize is[a + n].b = nb at g1
      have HF2 : Hid (Fin w0 ss sm rB pB lB sB tB kB g cap is a a nx2 vl n2 xs2 vo wr) := hF
      have HC2 : Hid (wr.heap[cB]? = some (.cells (itemCells os[j].ty os[j].id st tx) 37 (0, 0))) := hC
      clear hF hC
      have hwr2 : IntKind.i64.wrap ((a : Int) + (n : Int)) = (a : Int) + (n : Int) := IntWalk.i64_in _ (by omega)
      have hrun := neq_same
      have hix : ((a : Int) + (n : Int)).toNat = a + n := by omega
      have hnn : (0 : Int) ≤ (a : Int) + (n : Int) := by omega
      have hlti : (a : Int) + (n : Int) < (os.length : Int) := by omega
      have hlti2 : (n : Int) < (os.length : Int) - (a : Int) := by omega
      go_wp2_with fail
      go_region_held3 (fun w' => w'.cell? ⟨g, a + n, none⟩ = some (.pointer (some ⟨nb, 0, none⟩))) (first | exact g1 | fail "not kept") (fail)
      go_wp2
      go_round
      case rel => exact ⟨n + 1, by omega, by go_num, HF2.out.below (below_drewN (Below.refl _ _) 1), HC2.out⟩
      case measure => simp [intOf]; omega
    · have hno : n = os.length - k := by omega
      subst hno
      go_wp2
      refine HK.out _ _ ?_
      have next := HN.out
      unfold PhI at next
      apply next
      · exact HB.out
      · exact HC.out
      · exact hF
      · exact HE.out
      · exact fun _ => hC
end Go.Proofs.Qxb6612221a.Cl
