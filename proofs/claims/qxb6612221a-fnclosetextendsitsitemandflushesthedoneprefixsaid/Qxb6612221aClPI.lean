/- The law's function: the count of events and of numbers. -/
import Derived.Test.Qxb6612221aClPJ
namespace Go.Proofs.Qxb6612221a.Cl
open Go.RowKit
attribute [local go_sem ↓] Go.wp_at_zero Go.wp_at_succ
theorem wrap_two (n : Int) : wrap64 (wrap64 (n + 1) + 1) = wrap64 (n + 2) := by unfold wrap64; omega
theorem wrap_three (n : Int) : wrap64 (wrap64 (wrap64 (n + 1) + 1) + 1) = wrap64 (n + 3) := by unfold wrap64; omega
theorem wrap_last2 (n : Int) : wrap64 (wrap64 (n + 2) - 1) = wrap64 (n + 1) := by unfold wrap64; omega
theorem wrap_last3 (n : Int) : wrap64 (wrap64 (n + 3) - 1) = wrap64 (wrap64 (n + 1) + 1) := by unfold wrap64; omega
theorem range_part {w : World} {B0 : Nat} {e : TypeId} {size lg n cap : Nat} {xs a b c : List Value} (h : w.ownsRow B0 e size (.slice (some ⟨lg, 0, none⟩) n cap) n xs) (hx : xs = a ++ b ++ c) (o : Nat) (ho : a.length = o) : w.rangeAt lg o b := fun i v hv => by
  have hi := (List.getElem?_eq_some_iff.1 hv).1
  have hl := h.1
  rw [hx] at hl
  simp at hl
  rw [h.cellAt _ (by omega), hx, List.append_assoc, List.getElem?_append_right (by omega), ← ho, show a.length + i - a.length = i by omega, List.getElem?_append_left hi]
  exact hv
set_option maxRecDepth 1000000 in
set_option maxHeartbeats 8000000 in
theorem phI (next : PhK) : PhI := by
  unfold PhI
  intro w0 ao bo ca cb ss os j nx kd tx st pt sm rB pB lB sB tB kB g cap is k a nx2 vl n2 xs2 vo cB w
  intros
  rename_i hB hcl hfin hev hcB
  conv => arg 2; whnf
  have hjl := hB.hj
  obtain ⟨x, y, hev⟩ := hev hjl
  have hlog := hfin.log
  have v1 : w.cell? ⟨lB, 0, none⟩ = some vl := cell_look hlog.var
  have v2 : w.cell? ⟨rB, 2, none⟩ = some (.int .i64 nx2) := cell_look hlog.run
  have HO : Hid (Below w0.heap.size w0 w) := hfin.old
  have HN : Hid PhK := next
  have HB : Hid (Base w0 ao bo ss os j) := hB
  have HCB : Hid (w.heap[cB]? = some (.cells (itemCells os[j].ty os[j].id st tx) 37 (0, 0))) := hcB hjl
  clear hB hcl next hfin hcB
  cases sm with
  | false =>
    have hn : nx2 = nx := by
      cases pt
      · exact hev.1
      · exact hev.1
    subst hn
    have hv := hlog.nilv rfl
    subst hv
    have hnil := fun w => Lib.run_eql_slice_nil (P := Try.prog) w 43 _ none 0 0 0 0 Try.underlying43
    clear hev hlog
    go_wp2_with fail
    refine (runNext_any rB _ _ v2).mono ?_
    rintro e w1 ⟨rfl, rfl⟩
    go_wp2
    go_ret
    exact ⟨rfl, HO.out⟩
  | true =>
    cases pt with
    | false =>
      obtain ⟨h1, h2, h3⟩ := hev
      have hn : nx2 = wrap64 (nx + 2) := h1.trans (wrap_two nx)
      subst hn
      have h2' : n2 = 2 := h2
      subst h2'
      obtain ⟨lg, lc, rfl, _, _⟩ := hlog.row.form (by omega)
      have HL : Hid (Lg lB lg lc 2 cB false nx ((ss.length : Int) + j) kd tx st os[j].ty os[j].id x y w0 w) := by
        refine ⟨HO.out, v1, rfl, ?_, ?_, ?_, HCB.out⟩
        · exact range_part hlog.row (a := []) (c := ev3 (wrap64 (nx + 1)) ((ss.length : Int) + j) os[j].ty os[j].id st tx) (h3.trans (by simp [logOf, nxOf])) 0 rfl
        · intro h
          cases h
        · refine range_part hlog.row (a := ev1 kd nx ((ss.length : Int) + j) os[j].id tx) (c := []) (h3.trans ?_) 24 rfl
          rw [show ((2 : Nat) : Int) = 2 from rfl, wrap_last2]
          simp [logOf, nxOf]
      clear h1 h2 h3 hlog
      go_wp2_with fail
      refine (runNext_any rB _ _ v2).mono ?_
      rintro e w1 ⟨rfl, rfl⟩
      rename_i K1 h1 K2 h2 K3 h3
      have HK : Hid _ := h1
      clear h1
      go_wp2
      refine HK.out _ _ ?_
      have next := HN.out
      unfold PhK at next
      apply next
      · exact HB.out
      · exact (rfl : _ = Value.int .i64 ((2 : Nat) : Int))
      · exact fun _ => HL.out
    | true =>
      obtain ⟨h1, h2, h3⟩ := hev
      have hn : nx2 = wrap64 (nx + 3) := h1.trans (wrap_three nx)
      subst hn
      have h2' : n2 = 3 := h2
      subst h2'
      obtain ⟨lg, lc, rfl, _, _⟩ := hlog.row.form (by omega)
      have HL : Hid (Lg lB lg lc 3 cB true nx ((ss.length : Int) + j) kd tx st os[j].ty os[j].id x y w0 w) := by
        refine ⟨HO.out, v1, rfl, ?_, ?_, ?_, HCB.out⟩
        · exact range_part hlog.row (a := []) (c := ev2 (wrap64 (nx + 1)) ((ss.length : Int) + j) os[j].id tx x y ++ ev3 (wrap64 (wrap64 (nx + 1) + 1)) ((ss.length : Int) + j) os[j].ty os[j].id st tx) (h3.trans (by simp [logOf, nxOf])) 0 rfl
        · intro _
          exact range_part hlog.row (a := ev1 kd nx ((ss.length : Int) + j) os[j].id tx) (c := ev3 (wrap64 (wrap64 (nx + 1) + 1)) ((ss.length : Int) + j) os[j].ty os[j].id st tx) (h3.trans (by simp [logOf, nxOf])) 24 rfl
        · refine range_part hlog.row (a := ev1 kd nx ((ss.length : Int) + j) os[j].id tx ++ ev2 (wrap64 (nx + 1)) ((ss.length : Int) + j) os[j].id tx x y) (c := []) (h3.trans ?_) 48 rfl
          rw [show ((3 : Nat) : Int) = 3 from rfl, wrap_last3]
          simp [logOf, nxOf]
      clear h1 h2 h3 hlog
      go_wp2_with fail
      refine (runNext_any rB _ _ v2).mono ?_
      rintro e w1 ⟨rfl, rfl⟩
      rename_i K1 h1 K2 h2 K3 h3
      have HK : Hid _ := h1
      clear h1
      go_wp2
      refine HK.out _ _ ?_
      have next := HN.out
      unfold PhK at next
      apply next
      · exact HB.out
      · exact (rfl : _ = Value.int .i64 ((3 : Nat) : Int))
      · exact fun _ => HL.out
end Go.Proofs.Qxb6612221a.Cl
