/- The law's function: the first event. -/
import Derived.Test.Qxb6612221aClPJ
import Derived.Deep.DeepCutAuto
import Derived.Deep.CutBlock
namespace Go.Proofs.Qxb6612221a.Cl
open Go.RowKit
attribute [local go_sem ↓] Go.wp_at_zero Go.wp_at_succ
theorem there_new (w : World) (cs : Array Value) (t : TypeId) (n : Nat) (hn : n ≤ cs.size) : (w.alloc (.cells cs t)).there w.heap.size 0 n := fun j hj => by
  have h := heap_alloc_new w (.cells cs t)
  refine ⟨?_, frozen_look h⟩
  rw [cell_look h]
  simp
  omega
theorem setCells_kept (b : Nat) : ∀ (vs : List Value) (o : Nat) (w : World), Kept (fun k => k = b) w (w.setCells b o vs)
  | [], _, _ => ⟨rfl, rfl, rfl, Nat.le_refl _, fun _ _ _ => rfl⟩
  | v :: r, o, w => (Kept.set (fun k => k = b) w b o v rfl).trans (setCells_kept b r (o + 1) _)
theorem new_ev (w W : World) (zs : Array Value) (t : TypeId) (cs : List Value) (hW : W = (w.alloc (.cells zs t)).setCells w.heap.size 0 cs) (hz : cs.length ≤ zs.size) : Below w.heap.size w W ∧ W.rangeAt w.heap.size 0 cs := by
  have hK := setCells_kept w.heap.size cs 0 (w.alloc (.cells zs t))
  rw [← hW] at hK
  refine ⟨⟨hK.os, hK.tape, hK.output, Nat.le_trans (by simp) hK.size, fun k hk => (hK.block k (by simp; omega) (by omega)).trans (heap_alloc_old _ _ hk)⟩, ?_⟩
  rw [hW]
  exact World.rangeAt_setCells_same _ _ _ _ (there_new w zs t _ hz)
set_option maxRecDepth 1000000 in
set_option maxHeartbeats 8000000 in
theorem phK (next : PhL) : PhK := by
  unfold PhK
  intro w0 ao bo ca cb ss os j nx kd tx st pt lB lg lc m cB x y mv w
  intros
  rename_i hB hmv hL
  subst hmv
  conv => arg 2; whnf
  have l1 := hB.l1
  have l2 := hB.l2
  have hjl := hB.hj
  have hL := hL hjl
  obtain ⟨b, off, rfl, c1, c2, c3⟩ := (hB.sl.below hL.old) j hjl
  have hwr : IntKind.i64.wrap ((ss.length : Int) + (j : Int)) = (ss.length : Int) + (j : Int) := IntWalk.i64_in _ (by omega)
  have HB : Hid (Base w0 ao (some ⟨b, off, none⟩) ss os j) := hB
  have HN : Hid PhL := next
  have HL : Hid (Lg lB lg lc m cB pt nx ((ss.length : Int) + j) kd tx st os[j].ty os[j].id x y w0 w) := hL
  have hm2 : 2 ≤ m := by have := hL.hm; split at this <;> omega
  clear hB next hL
  obtain ⟨s, hs⟩ : ∃ s, s = os[j] := ⟨_, rfl⟩
  rw [← hs] at c1 c2 c3 HL
  have HSL : Hid (s = os[j]) := hs
  clear hs
  obtain ⟨id, ty, dn⟩ := s
  dsimp only at c1 c2 c3 HL
  clear c2 c3
  go_upto_region 79 with (refine wpList_store_mid (op := { dst := none, op := Op.store 85 (Operand.tmp 42) (Operand.tmp 328), type := _, pos := _, after := _, guard := _ }) ?h0 85 (.tmp 42) (.tmp 328) ?h1 w.heap.size 0 (evCells kd nx ((ss.length : Int) + j) eS eS eS eS id eS eS (.slice none 0 0) (.slice none 0 0) tx) ?h2 ?h3 ?g1 ?g2 ?g3 ?_)
  case h0 => rfl
  case h1 => rfl
  case h2 => rfl
  case h3 => rfl
  case g2 => kernel_rfl
  case g3 => simp [Value.oneCell']
  case g1 => exact there_new _ _ _ _ (Nat.le_refl 24)
  rename_i K1 h1 K2 h2
  have HK : Hid _ := h1
  clear h1
  refine gen_world2 ?_
  intro W hW
  obtain ⟨hWb, hx⟩ := new_ev w W _ _ _ hW (Nat.le_refl 24)
  clear hW
  have HLW : Hid (Lg lB lg lc m cB pt nx ((ss.length : Int) + j) kd tx st ty id x y w0 W) := HL.out.below hWb
  refine wp_region_tail 4 (by kernel_rfl) (by kernel_rfl) ?_
  intro w2 hw2
  have hx2 : w2.rangeAt w.heap.size 0 (evCells kd nx ((ss.length : Int) + j) eS eS eS eS id eS eS (.slice none 0 0) (.slice none 0 0) tx).toList := by rw [hw2]; exact hx
  have HL2 : Hid (Lg lB lg lc m cB pt nx ((ss.length : Int) + j) kd tx st ty id x y w0 w2) := by rw [hw2]; exact HLW.out.below (below_drewN (Below.refl _ _) 1)
  clear hw2 hx hWb c1 HLW HL
  have lv := HL2.out.lv
  have he1 := HL2.out.e1
  have hi85 := info85s (ev1 kd nx ((ss.length : Int) + j) id tx) rfl
  have hm0 : (0 : Int) < (m : Int) := by omega
  have hm1 : 0 < m := by omega
  simp only [List.take_succ_cons, List.take_zero, List.drop_succ_cons, List.drop_zero]
  still_step
  still_step
  refine still_load_mid rfl 85 (.tmp 330) rfl lg 0 rfl _ _ he1 Try.underlying85 rfl hi85 ?_
  refine still_load_mid rfl 85 (.tmp 42) rfl w.heap.size 0 rfl _ _ hx2 Try.underlying85 rfl hi85 ?_
  refine wpStill_nil ?_
  go_wp2_with fail
  refine (eqEv_any kd nx ((ss.length : Int) + j) eS eS eS eS id eS eS eS eS none none none none 0 0 0 0 0 0 0 0 tx _).mono ?_
  rintro e w5 ⟨rfl, hb5⟩
  have HL5 : Hid (Lg lB lg lc m cB pt nx ((ss.length : Int) + j) kd tx st ty id x y w0 w5) := HL2.out.below hb5
  clear hb5 HL2 lv he1 hx2 hi85
  have lv := HL5.out.lv
  have p17 : w5.cell? ⟨lg, 17, none⟩ = some (.string eS) := HL5.out.e1 17 _ rfl
  have p18 : w5.cell? ⟨lg, 18, none⟩ = some (.string eS) := HL5.out.e1 18 _ rfl
  have p19 : w5.cell? ⟨lg, 19, none⟩ = some (.slice none 0 0) := HL5.out.e1 19 _ rfl
  have p20 : w5.cell? ⟨lg, 20, none⟩ = some (.slice none 0 0) := HL5.out.e1 20 _ rfl
  go_wp2_with fail
  refine (zeroPart_any _).mono ?_
  rintro e w6 ⟨rfl, hb6⟩
  have HL6 : Hid (Lg lB lg lc m cB pt nx ((ss.length : Int) + j) kd tx st ty id x y w0 w6) := HL5.out.below hb6
  clear hb6 HL5 lv p17 p18 p19 p20
  go_wp2
  refine HK.out _ _ ?_
  have next := HN.out
  unfold PhL at next
  apply next
  · exact HB.out
  · rfl
  · intro _
    rw [← HSL.out]
    exact HL6.out
end Go.Proofs.Qxb6612221a.Cl
