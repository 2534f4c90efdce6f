/- The law's function: the part's event. -/
import Derived.Test.Qxb6612221aClPK
namespace Go.Proofs.Qxb6612221a.Cl
open Go.RowKit
attribute [local go_sem ↓] Go.wp_at_zero Go.wp_at_succ
theorem info83 : (Try.prog.info? 83).map (·.size) = some 4 := by kernel_rfl
set_option maxRecDepth 1000000 in
set_option maxHeartbeats 8000000 in
theorem phL (next : PhM) : PhL := by
  unfold PhL
  intro w0 ao bo ca cb ss os j nx kd tx st pt lB lg lc m cB x y mv w
  intros
  rename_i hB hmv hL
  subst hmv
  conv => arg 2; whnf
  have l1 := hB.l1
  have l2 := hB.l2
  have hjl := hB.hj
  have hL := hL hjl
  obtain ⟨b, off, rfl, c1, c2, c3⟩ := (hB.sl.below hL.old) j hjl
  have hwr : IntKind.i64.wrap ((ss.length : Int) + (j : Int)) = (ss.length : Int) + (j : Int) := IntWalk.i64_in _ (by omega)
  have HB : Hid (Base w0 ao (some ⟨b, off, none⟩) ss os j) := hB
  have HN : Hid PhM := next
  have HL : Hid (Lg lB lg lc m cB pt nx ((ss.length : Int) + j) kd tx st os[j].ty os[j].id x y w0 w) := hL
  clear hB next hL
  obtain ⟨s, hs⟩ : ∃ s, s = os[j] := ⟨_, rfl⟩
  rw [← hs] at c1 c2 c3 HL
  have HSL : Hid (s = os[j]) := hs
  clear hs
  obtain ⟨id, ty, dn⟩ := s
  dsimp only at c1 c2 c3 HL
  go_upto_region 81 with fail
  rename_i K1 h1 K2 h2
  have HK : Hid _ := h1
  clear h1
  cases pt with
  | false =>
    go_wp2
    refine HK.out _ _ ?_
    have next := HN.out
    unfold PhM at next
    apply next
    · exact HB.out
    · rfl
    · intro _
      rw [← HSL.out]
      exact HL.out
  | true =>
    have hm3 : m = 3 := HL.out.hm
    subst hm3
    go_upto_region 83 with (refine wpList_store_mid (op := { dst := none, op := Op.store 85 (Operand.tmp 43) (Operand.tmp 354), type := _, pos := _, after := _, guard := _ }) ?h0 85 (.tmp 43) (.tmp 354) ?h1 w.heap.size 0 (evCells partDoneS (wrap64 (nx + 1)) ((ss.length : Int) + j) eS eS eS eS id eS eS (.slice none 0 0) (.slice none 0 0) eS) ?h2 ?h3 ?g1 ?g2 ?g3 ?_)
    case h0 => rfl
    case h1 => rfl
    case h2 => rfl
    case h3 => rfl
    case g2 => kernel_rfl
    case g3 => simp [Value.oneCell']
    case g1 => exact there_new _ _ _ _ (Nat.le_refl 24)
    refine gen_world2 ?_
    intro W hW
    obtain ⟨hWb, hx⟩ := new_ev w W _ _ _ hW (Nat.le_refl 24)
    clear hW
    have HLW : Hid (Lg lB lg lc 3 cB true nx ((ss.length : Int) + j) kd tx st ty id x y w0 W) := HL.out.below hWb
    have HS : Hid (∀ w', Below W.heap.size W w' → w'.cell? ⟨lB, 0, none⟩ = some (.slice (some ⟨lg, 0, none⟩) 3 lc) ∧ w'.rangeAt lg 24 (ev2 (wrap64 (nx + 1)) ((ss.length : Int) + j) id tx x y) ∧ w'.rangeAt w.heap.size 0 (evCells partDoneS (wrap64 (nx + 1)) ((ss.length : Int) + j) eS eS eS eS id eS eS (.slice none 0 0) (.slice none 0 0) eS).toList ∧ w'.rangeAt lg 41 [.string otS, .string tx, .slice (some x) 0 0, .slice (some y) 0 0]) := fun w' hb => ⟨cell_below hb HLW.out.lv, range_below hb (HLW.out.e2 rfl), range_below hb hx, fun i v hv => by
      have h4 : i < 4 := (List.getElem?_eq_some_iff.1 hv).1
      have := HLW.out.e2 rfl (17 + i) v (by
        rcases i with _ | _ | _ | _ | i
        · exact hv
        · exact hv
        · exact hv
        · exact hv
        · omega)
      rw [show 24 + (17 + i) = 41 + i by omega] at this
      exact cell_below hb this⟩
    have hi85 := info85s (ev2 (wrap64 (nx + 1)) ((ss.length : Int) + j) id tx x y) rfl
    have hi85w := info85s (evCells partDoneS (wrap64 (nx + 1)) ((ss.length : Int) + j) eS eS eS eS id eS eS (.slice none 0 0) (.slice none 0 0) eS).toList rfl
    have hi83 := info83
    clear hx hWb c1 c2 c3 HL
    refine wp_region_noPanic ?_
    refine wp_region_held_drew (S := (fun w' => w'.cell? ⟨lB, 0, none⟩ = some (.slice (some ⟨lg, 0, none⟩) 3 lc) ∧ w'.rangeAt lg 24 (ev2 (wrap64 (nx + 1)) ((ss.length : Int) + j) id tx x y) ∧ w'.rangeAt w.heap.size 0 (evCells partDoneS (wrap64 (nx + 1)) ((ss.length : Int) + j) eS eS eS eS id eS eS (.slice none 0 0) (.slice none 0 0) eS).toList ∧ w'.rangeAt lg 41 [.string otS, .string tx, .slice (some x) 0 0, .slice (some y) 0 0])) (by kernel_rfl) (HS.out _ (below_drewN (Below.refl _ _) 1)) (fun hHeld => ?_)
    refine wpAnyH_take (i := 0) (oi := { dst := some 355, op := Op.load 43 (Operand.tmp 24), type := 43, pos := "laws_engine_b1.go:328", after := #[], guard := none }) (v := ?_) rfl (by kernel_rfl) (by kernel_rfl) (by kernel_rfl) (fun _ _ _ h => h) (Or.inl ⟨by rfl, ?_⟩) (by assumption) ?_
    rotate_left
    · (intro w hSw; (try dsimp only at hSw); go_simp; try with_reducible rfl)
    try simp only [Act.put, List.setIfInBounds_toArray, List.set_cons_zero, List.set_cons_succ]
    refine wpAnyH_take (i := 1) (oi := { dst := some 356, op := Op.indexAddr 43 (Operand.tmp 355) (Operand.const (Value.int IntKind.i64 1)), type := 0, pos := "laws_engine_b1.go:328", after := #[{ on := 0, ground := Ground.data }], guard := none }) (v := ?_) rfl (by kernel_rfl) (by kernel_rfl) (by kernel_rfl) (fun _ _ _ h => h) (Or.inl ⟨by rfl, ?_⟩) (by assumption) ?_
    rotate_left
    · (intro w hSw; (try dsimp only at hSw); go_simp; try with_reducible rfl)
    try simp only [Act.put, List.setIfInBounds_toArray, List.set_cons_zero, List.set_cons_succ]
    refine wpAnyH_take (i := 2) (oi := { dst := some 357, op := Op.load 85 (Operand.tmp 356), type := 85, pos := "laws_engine_b1.go:328", after := #[{ on := 1, ground := Ground.data }], guard := none }) (v := .agg (ev2 (wrap64 (nx + 1)) ((ss.length : Int) + j) id tx x y).toArray) rfl (by kernel_rfl) (by kernel_rfl) (by kernel_rfl) (fun _ _ _ h => h) (yieldsIf_load_mid (by rfl) 85 (.tmp 356) rfl lg 24 rfl (ev2 (wrap64 (nx + 1)) ((ss.length : Int) + j) id tx x y) _ (fun w' h => h.2.1) Try.underlying85 rfl hi85) (by assumption) ?_
    try simp only [Act.put, List.setIfInBounds_toArray, List.set_cons_zero, List.set_cons_succ]
    refine wpAnyH_take (i := 3) (oi := { dst := some 358, op := Op.load 85 (Operand.tmp 43), type := 85, pos := "laws_engine_b1.go:328", after := #[], guard := none }) (v := .agg ((evCells partDoneS (wrap64 (nx + 1)) ((ss.length : Int) + j) eS eS eS eS id eS eS (.slice none 0 0) (.slice none 0 0) eS).toList).toArray) rfl (by kernel_rfl) (by kernel_rfl) (by kernel_rfl) (fun _ _ _ h => h) (yieldsIf_load_mid (by rfl) 85 (.tmp 43) rfl w.heap.size 0 rfl ((evCells partDoneS (wrap64 (nx + 1)) ((ss.length : Int) + j) eS eS eS eS id eS eS (.slice none 0 0) (.slice none 0 0) eS).toList) _ (fun w' h => h.2.2.1) Try.underlying85 rfl hi85w) (by assumption) ?_
    try simp only [Act.put, List.setIfInBounds_toArray, List.set_cons_zero, List.set_cons_succ]
    refine wpAnyH_ready (rs := [4]) (by kernel_rfl) (by simp) ?_
    refine AllReadyH.cons (o := { dst := some 359, op := Op.call { callee := Callee.value (Operand.func 23), args := #[Operand.tmp 357, Operand.tmp 358], argTypes := #[85, 85] }, type := 4, pos := "laws_engine_b1.go:328", after := #[{ on := 2, ground := Ground.data }, { on := 3, ground := Ground.data }], guard := none }) rfl (fun K hK => ?_) AllReadyH.nil
    go_simp
    refine (eqEv_any partDoneS (wrap64 (nx + 1)) ((ss.length : Int) + j) eS eS eS eS id otS tx eS eS (some x) (some y) none none 0 0 0 0 0 0 0 0 eS _).mono ?_
    rintro e w5 ⟨rfl, hb5⟩
    have hb5' : Below W.heap.size W w5 := (below_drewN (Below.refl _ W) 1).trans hb5
    clear hb5
    try dsimp only
    refine hK.out _ _ (HS.out _ hb5') (fun hHeld => ?_)
    try simp only [Act.put, List.setIfInBounds_toArray, List.set_cons_zero, List.set_cons_succ]
    refine wpAnyH_take (i := 5) (oi := { dst := some 360, op := Op.unOp UnOp.not 4 (Operand.tmp 359), type := 4, pos := "laws_engine_b1.go:328", after := #[{ on := 4, ground := Ground.data }], guard := none }) (v := ?_) rfl (by kernel_rfl) (by kernel_rfl) (by kernel_rfl) (fun _ _ _ h => h) (Or.inl ⟨by rfl, ?_⟩) (by assumption) ?_
    rotate_left
    · (intro w hSw; (try dsimp only at hSw); go_simp; try with_reducible rfl)
    try simp only [Act.put, List.setIfInBounds_toArray, List.set_cons_zero, List.set_cons_succ]
    refine wpAnyH_take (i := 6) (oi := { dst := some 361, op := Op.move (Operand.tmp 360), type := 4, pos := "laws_engine_b1.go:328", after := #[{ on := 5, ground := Ground.data }, { on := 4, ground := Ground.chain }], guard := none }) (v := ?_) rfl (by kernel_rfl) (by kernel_rfl) (by kernel_rfl) (fun _ _ _ h => h) (Or.inl ⟨by rfl, ?_⟩) (by assumption) ?_
    rotate_left
    · (intro w hSw; (try dsimp only at hSw); go_simp; try with_reducible rfl)
    try simp only [Act.put, List.setIfInBounds_toArray, List.set_cons_zero, List.set_cons_succ]
    refine wpAnyH_take (i := 7) (oi := { dst := some 362, op := Op.load 43 (Operand.tmp 24), type := 43, pos := "laws_engine_b1.go:328", after := #[{ on := 6, ground := Ground.guard }], guard := some (6, false) }) (v := ?_) rfl (by kernel_rfl) (by kernel_rfl) (by kernel_rfl) (fun _ _ _ h => h) (Or.inl ⟨by rfl, ?_⟩) (by assumption) ?_
    rotate_left
    · (intro w hSw; (try dsimp only at hSw); go_simp; try with_reducible rfl)
    try simp only [Act.put, List.setIfInBounds_toArray, List.set_cons_zero, List.set_cons_succ]
    refine wpAnyH_take (i := 8) (oi := { dst := some 363, op := Op.indexAddr 43 (Operand.tmp 362) (Operand.const (Value.int IntKind.i64 1)), type := 0, pos := "laws_engine_b1.go:328", after := #[{ on := 7, ground := Ground.data }, { on := 6, ground := Ground.guard }], guard := some (6, false) }) (v := ?_) rfl (by kernel_rfl) (by kernel_rfl) (by kernel_rfl) (fun _ _ _ h => h) (Or.inl ⟨by rfl, ?_⟩) (by assumption) ?_
    rotate_left
    · (intro w hSw; (try dsimp only at hSw); go_simp; try with_reducible rfl)
    try simp only [Act.put, List.setIfInBounds_toArray, List.set_cons_zero, List.set_cons_succ]
    refine wpAnyH_take (i := 9) (oi := { dst := some 364, op := Op.fieldAddr 85 (Operand.tmp 363) 7, type := 0, pos := "laws_engine_b1.go:328", after := #[{ on := 8, ground := Ground.data }, { on := 6, ground := Ground.guard }], guard := some (6, false) }) (v := ?_) rfl (by kernel_rfl) (by kernel_rfl) (by kernel_rfl) (fun _ _ _ h => h) (Or.inl ⟨by rfl, ?_⟩) (by assumption) ?_
    rotate_left
    · (intro w hSw; (try dsimp only at hSw); go_simp; try with_reducible rfl)
    try simp only [Act.put, List.setIfInBounds_toArray, List.set_cons_zero, List.set_cons_succ]
    refine wpAnyH_take (i := 10) (oi := { dst := some 365, op := Op.load 83 (Operand.tmp 364), type := 83, pos := "laws_engine_b1.go:328", after := #[{ on := 9, ground := Ground.data }, { on := 6, ground := Ground.guard }], guard := some (6, false) }) (v := .agg ([.string otS, .string tx, .slice (some x) 0 0, .slice (some y) 0 0]).toArray) rfl (by kernel_rfl) (by kernel_rfl) (by kernel_rfl) (fun _ _ _ h => h) (yieldsIf_load_mid (by rfl) 83 (.tmp 364) rfl lg 41 rfl ([.string otS, .string tx, .slice (some x) 0 0, .slice (some y) 0 0]) _ (fun w' h => h.2.2.2) Try.underlying83 rfl hi83) (by assumption) ?_
    try simp only [Act.put, List.setIfInBounds_toArray, List.set_cons_zero, List.set_cons_succ]
    refine wpAnyH_take (i := 11) (oi := { dst := some 366, op := Op.move (Operand.tmp 7), type := 9, pos := "laws_engine_b1.go:328", after := #[{ on := 6, ground := Ground.guard }], guard := some (6, false) }) (v := ?_) rfl (by kernel_rfl) (by kernel_rfl) (by kernel_rfl) (fun _ _ _ h => h) (Or.inl ⟨by rfl, ?_⟩) (by assumption) ?_
    rotate_left
    · (intro w hSw; (try dsimp only at hSw); go_simp; try with_reducible rfl)
    try simp only [Act.put, List.setIfInBounds_toArray, List.set_cons_zero, List.set_cons_succ]
    refine wpAnyH_ready (rs := [12]) (by kernel_rfl) (by simp) ?_
    refine AllReadyH.cons (o := { dst := some 367, op := Op.call { callee := Callee.value (Operand.func 25), args := #[Operand.tmp 365, Operand.tmp 366], argTypes := #[83, 9] }, type := 4, pos := "laws_engine_b1.go:328", after := #[{ on := 10, ground := Ground.data }, { on := 11, ground := Ground.data }, { on := 6, ground := Ground.chain }, { on := 6, ground := Ground.guard }], guard := some (6, false) }) rfl (fun K hK => ?_) AllReadyH.nil
    go_simp
    refine (freshPart_any tx x y 0 0 _).mono ?_
    rintro e w6 ⟨rfl, hb6⟩
    have hb6' : Below W.heap.size W w6 := hb5'.trans (Below.mono hb6 hb5'.size)
    clear hb6
    try dsimp only
    refine hK.out _ _ (HS.out _ hb6') (fun hHeld => ?_)
    try simp only [Act.put, List.setIfInBounds_toArray, List.set_cons_zero, List.set_cons_succ]
    refine wpAnyH_take (i := 13) (oi := { dst := some 368, op := Op.unOp UnOp.not 4 (Operand.tmp 367), type := 4, pos := "laws_engine_b1.go:328", after := #[{ on := 12, ground := Ground.data }, { on := 6, ground := Ground.guard }], guard := some (6, false) }) (v := ?_) rfl (by kernel_rfl) (by kernel_rfl) (by kernel_rfl) (fun _ _ _ h => h) (Or.inl ⟨by rfl, ?_⟩) (by assumption) ?_
    rotate_left
    · (intro w hSw; (try dsimp only at hSw); go_simp; try with_reducible rfl)
    try simp only [Act.put, List.setIfInBounds_toArray, List.set_cons_zero, List.set_cons_succ]
    refine wpAnyH_take (i := 14) (oi := { dst := some 369, op := Op.pick (Operand.tmp 361) (Operand.const (Value.bool true)) (Operand.tmp 368), type := 4, pos := "laws_engine_b1.go:328", after := #[{ on := 6, ground := Ground.data }, { on := 13, ground := Ground.data }], guard := none }) (v := ?_) rfl (by kernel_rfl) (by kernel_rfl) (by kernel_rfl) (fun _ _ _ h => h) (Or.inl ⟨by rfl, ?_⟩) (by assumption) ?_
    rotate_left
    · (intro w hSw; (try dsimp only at hSw); go_simp; try with_reducible rfl)
    try simp only [Act.put, List.setIfInBounds_toArray, List.set_cons_zero, List.set_cons_succ]
    refine wpAnyH_done (by kernel_rfl) ?_ _
    refine NoPanic.normal ?_
    have HL6 : Hid (Lg lB lg lc 3 cB true nx ((ss.length : Int) + j) kd tx st ty id x y w0 w6) := HLW.out.below hb6'
    clear hb5' hb6'
    go_wp2
    refine HK.out _ _ ?_
    have next := HN.out
    unfold PhM at next
    apply next
    · exact HB.out
    · rfl
    · intro _
      rw [← HSL.out]
      exact HL6.out
end Go.Proofs.Qxb6612221a.Cl
