/- The law's function: the item's event. -/
import Derived.Test.Qxb6612221aClPL
namespace Go.Proofs.Qxb6612221a.Cl
open Go.RowKit
attribute [local go_sem ↓] Go.wp_at_zero Go.wp_at_succ
set_option maxRecDepth 1000000 in
set_option maxHeartbeats 8000000 in
theorem phM : PhM := by
  unfold PhM
  intro w0 ao bo ca cb ss os j nx kd tx st pt lB lg lc m cB x y mv w
  intros
  rename_i hB hmv hL
  subst hmv
  conv => arg 2; whnf
  have l1 := hB.l1
  have l2 := hB.l2
  have hjl := hB.hj
  have hL := hL hjl
  obtain ⟨b, off, rfl, c1, c2, c3⟩ := (hB.sl.below hL.old) j hjl
  have hwr : IntKind.i64.wrap ((ss.length : Int) + (j : Int)) = (ss.length : Int) + (j : Int) := IntWalk.i64_in _ (by omega)
  have HB : Hid (Base w0 ao (some ⟨b, off, none⟩) ss os j) := hB
  have HL : Hid (Lg lB lg lc m cB pt nx ((ss.length : Int) + j) kd tx st os[j].ty os[j].id x y w0 w) := hL
  clear hB hL
  obtain ⟨s, hs⟩ : ∃ s, s = os[j] := ⟨_, rfl⟩
  rw [← hs] at c1 c2 c3 HL
  have HSL : Hid (s = os[j]) := hs
  clear hs
  obtain ⟨id, ty, dn⟩ := s
  dsimp only at c1 c2 c3 HL
  have q0 : w.cell? ⟨cB, 0, none⟩ = some (.string ty) := cell_look HL.out.cl
  have q1 : w.cell? ⟨cB, 1, none⟩ = some (.string id) := cell_look HL.out.cl
  have q2 : w.cell? ⟨cB, 2, none⟩ = some (.string st) := cell_look HL.out.cl
  have q3 : w.cell? ⟨cB, 3, none⟩ = some (.string ⟨#[]⟩) := cell_look HL.out.cl
  have q4 : w.cell? ⟨cB, 4, none⟩ = some (.slice none 0 0) := cell_look HL.out.cl
  have q5 : w.cell? ⟨cB, 5, none⟩ = some (.string ⟨#[]⟩) := cell_look HL.out.cl
  have q6 : w.cell? ⟨cB, 6, none⟩ = some (.string ⟨#[]⟩) := cell_look HL.out.cl
  have q7 : w.cell? ⟨cB, 7, none⟩ = some (.string ⟨#[]⟩) := cell_look HL.out.cl
  have q8 : w.cell? ⟨cB, 8, none⟩ = some (.string ⟨#[]⟩) := cell_look HL.out.cl
  have q9 : w.cell? ⟨cB, 9, none⟩ = some (.bool false) := cell_look HL.out.cl
  have q10 : w.cell? ⟨cB, 10, none⟩ = some (.string tx) := cell_look HL.out.cl
  cases pt with
  | false =>
    have hmm : m = 2 := HL.out.hm
    subst hmm
    go_upto_region 86 with (refine wpList_store_mid (op := { dst := none, op := Op.store 85 (Operand.tmp 44) (Operand.tmp 378), type := _, pos := _, after := _, guard := _ }) ?h0 85 (.tmp 44) (.tmp 378) ?h1 w.heap.size 0 (evCells itemDoneS (wrap64 (wrap64 (nx + 2) - 1)) ((ss.length : Int) + j) ty id st tx eS eS eS (.slice none 0 0) (.slice none 0 0) eS) ?h2 ?h3 ?g1 ?g2 ?g3 ?_)
    case h0 => rfl
    case h1 => rfl
    case h2 => rfl
    case h3 => rfl
    case g2 => kernel_rfl
    case g3 => simp [Value.oneCell']
    case g1 => exact there_new _ _ _ _ (Nat.le_refl 24)
    refine gen_world2 ?_
    intro W hW
    obtain ⟨hWb, hx⟩ := new_ev w W _ _ _ hW (Nat.le_refl 24)
    clear hW
    have HLW : Hid (Lg lB lg lc 2 cB false nx ((ss.length : Int) + j) kd tx st ty id x y w0 W) := HL.out.below hWb
    have HS : Hid (∀ w', Below W.heap.size W w' → w'.cell? ⟨lB, 0, none⟩ = some (.slice (some ⟨lg, 0, none⟩) 2 lc) ∧ w'.rangeAt lg 24 (ev3 (wrap64 (wrap64 (nx + 2) - 1)) ((ss.length : Int) + j) ty id st tx) ∧ w'.rangeAt w.heap.size 0 (evCells itemDoneS (wrap64 (wrap64 (nx + 2) - 1)) ((ss.length : Int) + j) ty id st tx eS eS eS (.slice none 0 0) (.slice none 0 0) eS).toList ∧ w'.rangeAt lg 41 [.string eS, .string eS, .slice none 0 0, .slice none 0 0]) := fun w' hb => ⟨cell_below hb HLW.out.lv, range_below hb HLW.out.e3, range_below hb hx, fun i v hv => by
      have h4 : i < 4 := (List.getElem?_eq_some_iff.1 hv).1
      have := HLW.out.e3 (17 + i) v (by
        rcases i with _ | _ | _ | _ | i
        · exact hv
        · exact hv
        · exact hv
        · exact hv
        · omega)
      rw [show (2 - 1) * 24 + (17 + i) = 41 + i by omega] at this
      exact cell_below hb this⟩
    have hi85 := info85s (ev3 (wrap64 (wrap64 (nx + 2) - 1)) ((ss.length : Int) + j) ty id st tx) rfl
    have hi85w := info85s (evCells itemDoneS (wrap64 (wrap64 (nx + 2) - 1)) ((ss.length : Int) + j) ty id st tx eS eS eS (.slice none 0 0) (.slice none 0 0) eS).toList rfl
    have hi83 := info83
    have hw1 : IntKind.i64.wrap 1 = 1 := IntWalk.i64_in _ (by omega)
    have hw2 : IntKind.i64.wrap 2 = 2 := IntWalk.i64_in _ (by omega)
    clear hx hWb c1 c2 c3 HL q0 q1 q2 q3 q4 q5 q6 q7 q8 q9 q10
    refine wp_region_noPanic ?_
    refine wp_region_held_drew (S := (fun w' => w'.cell? ⟨lB, 0, none⟩ = some (.slice (some ⟨lg, 0, none⟩) 2 lc) ∧ w'.rangeAt lg 24 (ev3 (wrap64 (wrap64 (nx + 2) - 1)) ((ss.length : Int) + j) ty id st tx) ∧ w'.rangeAt w.heap.size 0 (evCells itemDoneS (wrap64 (wrap64 (nx + 2) - 1)) ((ss.length : Int) + j) ty id st tx eS eS eS (.slice none 0 0) (.slice none 0 0) eS).toList ∧ w'.rangeAt lg 41 [.string eS, .string eS, .slice none 0 0, .slice none 0 0])) (by kernel_rfl) (HS.out _ (below_drewN (Below.refl _ _) 1)) (fun hHeld => ?_)
    refine wpAnyH_take (i := 0) (oi := { dst := some 379, op := Op.load 43 (Operand.tmp 24), type := 43, pos := "laws_engine_b1.go:333", after := #[], guard := none }) (v := ?_) rfl (by kernel_rfl) (by kernel_rfl) (by kernel_rfl) (fun _ _ _ h => h) (Or.inl ⟨by rfl, ?_⟩) (by assumption) ?_
    rotate_left
    · (intro w hSw; (try dsimp only at hSw); go_simp; try with_reducible rfl)
    try simp only [Act.put, List.setIfInBounds_toArray, List.set_cons_zero, List.set_cons_succ]
    refine wpAnyH_take (i := 1) (oi := { dst := some 380, op := Op.move (Operand.tmp 41), type := 3, pos := "laws_engine_b1.go:333", after := #[], guard := none }) (v := ?_) rfl (by kernel_rfl) (by kernel_rfl) (by kernel_rfl) (fun _ _ _ h => h) (Or.inl ⟨by rfl, ?_⟩) (by assumption) ?_
    rotate_left
    · (intro w hSw; (try dsimp only at hSw); go_simp; try with_reducible rfl)
    try simp only [Act.put, List.setIfInBounds_toArray, List.set_cons_zero, List.set_cons_succ]
    refine wpAnyH_take (i := 2) (oi := { dst := some 381, op := Op.binOp BinOp.sub 3 (Operand.tmp 380) (Operand.const (Value.int IntKind.i64 1)) 3, type := 3, pos := "laws_engine_b1.go:333", after := #[{ on := 1, ground := Ground.data }], guard := none }) (v := ?_) rfl (by kernel_rfl) (by kernel_rfl) (by kernel_rfl) (fun _ _ _ h => h) (Or.inl ⟨by rfl, ?_⟩) (by assumption) ?_
    rotate_left
    · (intro w hSw; (try dsimp only at hSw); go_simp; try with_reducible rfl)
    try simp only [Act.put, List.setIfInBounds_toArray, List.set_cons_zero, List.set_cons_succ]
    refine wpAnyH_take (i := 3) (oi := { dst := some 382, op := Op.indexAddr 43 (Operand.tmp 379) (Operand.tmp 381), type := 0, pos := "laws_engine_b1.go:333", after := #[{ on := 0, ground := Ground.data }, { on := 2, ground := Ground.data }], guard := none }) (v := ?_) rfl (by kernel_rfl) (by kernel_rfl) (by kernel_rfl) (fun _ _ _ h => h) (Or.inl ⟨by rfl, ?_⟩) (by assumption) ?_
    rotate_left
    · (intro w hSw; (try dsimp only at hSw); go_simp; try with_reducible rfl)
    try simp only [Act.put, List.setIfInBounds_toArray, List.set_cons_zero, List.set_cons_succ]
    refine wpAnyH_take (i := 4) (oi := { dst := some 383, op := Op.load 85 (Operand.tmp 382), type := 85, pos := "laws_engine_b1.go:333", after := #[{ on := 3, ground := Ground.data }], guard := none }) (v := .agg (ev3 (wrap64 (wrap64 (nx + 2) - 1)) ((ss.length : Int) + j) ty id st tx).toArray) rfl (by kernel_rfl) (by kernel_rfl) (by kernel_rfl) (fun _ _ _ h => h) (yieldsIf_load_mid (by rfl) 85 (.tmp 382) rfl lg 24 rfl (ev3 (wrap64 (wrap64 (nx + 2) - 1)) ((ss.length : Int) + j) ty id st tx) _ (fun w' h => h.2.1) Try.underlying85 rfl hi85) (by assumption) ?_
    try simp only [Act.put, List.setIfInBounds_toArray, List.set_cons_zero, List.set_cons_succ]
    refine wpAnyH_take (i := 5) (oi := { dst := some 384, op := Op.load 85 (Operand.tmp 44), type := 85, pos := "laws_engine_b1.go:333", after := #[], guard := none }) (v := .agg ((evCells itemDoneS (wrap64 (wrap64 (nx + 2) - 1)) ((ss.length : Int) + j) ty id st tx eS eS eS (.slice none 0 0) (.slice none 0 0) eS).toList).toArray) rfl (by kernel_rfl) (by kernel_rfl) (by kernel_rfl) (fun _ _ _ h => h) (yieldsIf_load_mid (by rfl) 85 (.tmp 44) rfl w.heap.size 0 rfl ((evCells itemDoneS (wrap64 (wrap64 (nx + 2) - 1)) ((ss.length : Int) + j) ty id st tx eS eS eS (.slice none 0 0) (.slice none 0 0) eS).toList) _ (fun w' h => h.2.2.1) Try.underlying85 rfl hi85w) (by assumption) ?_
    try simp only [Act.put, List.setIfInBounds_toArray, List.set_cons_zero, List.set_cons_succ]
    refine wpAnyH_ready (rs := [6]) (by kernel_rfl) (by simp) ?_
    refine AllReadyH.cons (o := { dst := some 385, op := Op.call { callee := Callee.value (Operand.func 23), args := #[Operand.tmp 383, Operand.tmp 384], argTypes := #[85, 85] }, type := 4, pos := "laws_engine_b1.go:333", after := #[{ on := 4, ground := Ground.data }, { on := 5, ground := Ground.data }], guard := none }) rfl (fun K hK => ?_) AllReadyH.nil
    go_simp
    refine (eqEv_any itemDoneS (wrap64 (wrap64 (nx + 2) - 1)) ((ss.length : Int) + j) ty id st tx eS eS eS eS eS none none none none 0 0 0 0 0 0 0 0 eS _).mono ?_
    rintro e w5 ⟨rfl, hb5⟩
    have hb5' : Below W.heap.size W w5 := (below_drewN (Below.refl _ W) 1).trans hb5
    clear hb5
    try dsimp only
    refine hK.out _ _ (HS.out _ hb5') (fun hHeld => ?_)
    try simp only [Act.put, List.setIfInBounds_toArray, List.set_cons_zero, List.set_cons_succ]
    refine wpAnyH_take (i := 7) (oi := { dst := some 386, op := Op.move (Operand.tmp 385), type := 4, pos := "laws_engine_b1.go:333", after := #[{ on := 6, ground := Ground.data }, { on := 6, ground := Ground.chain }], guard := none }) (v := ?_) rfl (by kernel_rfl) (by kernel_rfl) (by kernel_rfl) (fun _ _ _ h => h) (Or.inl ⟨by rfl, ?_⟩) (by assumption) ?_
    rotate_left
    · (intro w hSw; (try dsimp only at hSw); go_simp; try with_reducible rfl)
    try simp only [Act.put, List.setIfInBounds_toArray, List.set_cons_zero, List.set_cons_succ]
    refine wpAnyH_take (i := 8) (oi := { dst := some 387, op := Op.load 43 (Operand.tmp 24), type := 43, pos := "laws_engine_b1.go:333", after := #[{ on := 7, ground := Ground.guard }], guard := some (7, true) }) (v := ?_) rfl (by kernel_rfl) (by kernel_rfl) (by kernel_rfl) (fun _ _ _ h => h) (Or.inl ⟨by rfl, ?_⟩) (by assumption) ?_
    rotate_left
    · (intro w hSw; (try dsimp only at hSw); go_simp; try with_reducible rfl)
    try simp only [Act.put, List.setIfInBounds_toArray, List.set_cons_zero, List.set_cons_succ]
    refine wpAnyH_take (i := 9) (oi := { dst := some 388, op := Op.move (Operand.tmp 41), type := 3, pos := "laws_engine_b1.go:333", after := #[{ on := 7, ground := Ground.guard }], guard := some (7, true) }) (v := ?_) rfl (by kernel_rfl) (by kernel_rfl) (by kernel_rfl) (fun _ _ _ h => h) (Or.inl ⟨by rfl, ?_⟩) (by assumption) ?_
    rotate_left
    · (intro w hSw; (try dsimp only at hSw); go_simp; try with_reducible rfl)
    try simp only [Act.put, List.setIfInBounds_toArray, List.set_cons_zero, List.set_cons_succ]
    refine wpAnyH_take (i := 10) (oi := { dst := some 389, op := Op.binOp BinOp.sub 3 (Operand.tmp 388) (Operand.const (Value.int IntKind.i64 1)) 3, type := 3, pos := "laws_engine_b1.go:333", after := #[{ on := 9, ground := Ground.data }, { on := 7, ground := Ground.guard }], guard := some (7, true) }) (v := ?_) rfl (by kernel_rfl) (by kernel_rfl) (by kernel_rfl) (fun _ _ _ h => h) (Or.inl ⟨by rfl, ?_⟩) (by assumption) ?_
    rotate_left
    · (intro w hSw; (try dsimp only at hSw); go_simp; try with_reducible rfl)
    try simp only [Act.put, List.setIfInBounds_toArray, List.set_cons_zero, List.set_cons_succ]
    refine wpAnyH_take (i := 11) (oi := { dst := some 390, op := Op.indexAddr 43 (Operand.tmp 387) (Operand.tmp 389), type := 0, pos := "laws_engine_b1.go:333", after := #[{ on := 8, ground := Ground.data }, { on := 10, ground := Ground.data }, { on := 7, ground := Ground.guard }], guard := some (7, true) }) (v := ?_) rfl (by kernel_rfl) (by kernel_rfl) (by kernel_rfl) (fun _ _ _ h => h) (Or.inl ⟨by rfl, ?_⟩) (by assumption) ?_
    rotate_left
    · (intro w hSw; (try dsimp only at hSw); go_simp; try with_reducible rfl)
    try simp only [Act.put, List.setIfInBounds_toArray, List.set_cons_zero, List.set_cons_succ]
    refine wpAnyH_take (i := 12) (oi := { dst := some 391, op := Op.fieldAddr 85 (Operand.tmp 390) 7, type := 0, pos := "laws_engine_b1.go:333", after := #[{ on := 11, ground := Ground.data }, { on := 7, ground := Ground.guard }], guard := some (7, true) }) (v := ?_) rfl (by kernel_rfl) (by kernel_rfl) (by kernel_rfl) (fun _ _ _ h => h) (Or.inl ⟨by rfl, ?_⟩) (by assumption) ?_
    rotate_left
    · (intro w hSw; (try dsimp only at hSw); go_simp; try with_reducible rfl)
    try simp only [Act.put, List.setIfInBounds_toArray, List.set_cons_zero, List.set_cons_succ]
    refine wpAnyH_take (i := 13) (oi := { dst := some 392, op := Op.load 83 (Operand.tmp 391), type := 83, pos := "laws_engine_b1.go:333", after := #[{ on := 12, ground := Ground.data }, { on := 7, ground := Ground.guard }], guard := some (7, true) }) (v := .agg ([.string eS, .string eS, .slice none 0 0, .slice none 0 0]).toArray) rfl (by kernel_rfl) (by kernel_rfl) (by kernel_rfl) (fun _ _ _ h => h) (yieldsIf_load_mid (by rfl) 83 (.tmp 391) rfl lg 41 rfl ([.string eS, .string eS, .slice none 0 0, .slice none 0 0]) _ (fun w' h => h.2.2.2) Try.underlying83 rfl hi83) (by assumption) ?_
    try simp only [Act.put, List.setIfInBounds_toArray, List.set_cons_zero, List.set_cons_succ]
    refine wpAnyH_ready (rs := [14]) (by kernel_rfl) (by simp) ?_
    refine AllReadyH.cons (o := { dst := some 393, op := Op.call { callee := Callee.value (Operand.func 24), args := #[Operand.tmp 392], argTypes := #[83] }, type := 4, pos := "laws_engine_b1.go:333", after := #[{ on := 13, ground := Ground.data }, { on := 7, ground := Ground.chain }, { on := 7, ground := Ground.guard }], guard := some (7, true) }) rfl (fun K hK => ?_) AllReadyH.nil
    go_simp
    refine (zeroPart_any _).mono ?_
    rintro e w6 ⟨rfl, hb6⟩
    have hb6' : Below W.heap.size W w6 := hb5'.trans (Below.mono hb6 hb5'.size)
    clear hb6
    try dsimp only
    refine hK.out _ _ (HS.out _ hb6') (fun hHeld => ?_)
    try simp only [Act.put, List.setIfInBounds_toArray, List.set_cons_zero, List.set_cons_succ]
    refine wpAnyH_take (i := 15) (oi := { dst := some 394, op := Op.pick (Operand.tmp 386) (Operand.tmp 393) (Operand.const (Value.bool false)), type := 4, pos := "laws_engine_b1.go:333", after := #[{ on := 7, ground := Ground.data }, { on := 14, ground := Ground.data }], guard := none }) (v := ?_) rfl (by kernel_rfl) (by kernel_rfl) (by kernel_rfl) (fun _ _ _ h => h) (Or.inl ⟨by rfl, ?_⟩) (by assumption) ?_
    rotate_left
    · (intro w hSw; (try dsimp only at hSw); go_simp; try with_reducible rfl)
    try simp only [Act.put, List.setIfInBounds_toArray, List.set_cons_zero, List.set_cons_succ]
    refine wpAnyH_take (i := 16) (oi := { dst := some 18, op := Op.assign (Operand.tmp 394), type := 4, pos := "laws_engine_b1.go:333", after := #[{ on := 15, ground := Ground.data }, { on := 14, ground := Ground.chain }, { on := 0, ground := Ground.phase }, { on := 1, ground := Ground.phase }, { on := 2, ground := Ground.phase }, { on := 3, ground := Ground.phase }, { on := 4, ground := Ground.phase }, { on := 5, ground := Ground.phase }, { on := 6, ground := Ground.phase }, { on := 7, ground := Ground.phase }, { on := 8, ground := Ground.phase }, { on := 9, ground := Ground.phase }, { on := 10, ground := Ground.phase }, { on := 11, ground := Ground.phase }, { on := 12, ground := Ground.phase }, { on := 13, ground := Ground.phase }, { on := 14, ground := Ground.phase }, { on := 15, ground := Ground.phase }], guard := none }) (v := ?_) rfl (by kernel_rfl) (by kernel_rfl) (by kernel_rfl) (fun _ _ _ h => h) (Or.inl ⟨by rfl, ?_⟩) (by assumption) ?_
    rotate_left
    · (intro w hSw; (try dsimp only at hSw); go_simp; try with_reducible rfl)
    try simp only [Act.put, List.setIfInBounds_toArray, List.set_cons_zero, List.set_cons_succ]
    refine wpAnyH_done (by kernel_rfl) ?_ _
    refine NoPanic.normal ?_
    have HL6 : Hid (Below w0.heap.size w0 w6) := (HLW.out.below hb6').old
    clear hb5' hb6'
    go_wp2
    go_ret
    exact ⟨rfl, HL6.out⟩
  | true =>
    have hmm : m = 3 := HL.out.hm
    subst hmm
    go_upto_region 86 with (refine wpList_store_mid (op := { dst := none, op := Op.store 85 (Operand.tmp 44) (Operand.tmp 378), type := _, pos := _, after := _, guard := _ }) ?h0 85 (.tmp 44) (.tmp 378) ?h1 w.heap.size 0 (evCells itemDoneS (wrap64 (wrap64 (nx + 3) - 1)) ((ss.length : Int) + j) ty id st tx eS eS eS (.slice none 0 0) (.slice none 0 0) eS) ?h2 ?h3 ?g1 ?g2 ?g3 ?_)
    case h0 => rfl
    case h1 => rfl
    case h2 => rfl
    case h3 => rfl
    case g2 => kernel_rfl
    case g3 => simp [Value.oneCell']
    case g1 => exact there_new _ _ _ _ (Nat.le_refl 24)
    refine gen_world2 ?_
    intro W hW
    obtain ⟨hWb, hx⟩ := new_ev w W _ _ _ hW (Nat.le_refl 24)
    clear hW
    have HLW : Hid (Lg lB lg lc 3 cB true nx ((ss.length : Int) + j) kd tx st ty id x y w0 W) := HL.out.below hWb
    have HS : Hid (∀ w', Below W.heap.size W w' → w'.cell? ⟨lB, 0, none⟩ = some (.slice (some ⟨lg, 0, none⟩) 3 lc) ∧ w'.rangeAt lg 48 (ev3 (wrap64 (wrap64 (nx + 3) - 1)) ((ss.length : Int) + j) ty id st tx) ∧ w'.rangeAt w.heap.size 0 (evCells itemDoneS (wrap64 (wrap64 (nx + 3) - 1)) ((ss.length : Int) + j) ty id st tx eS eS eS (.slice none 0 0) (.slice none 0 0) eS).toList ∧ w'.rangeAt lg 65 [.string eS, .string eS, .slice none 0 0, .slice none 0 0]) := fun w' hb => ⟨cell_below hb HLW.out.lv, range_below hb HLW.out.e3, range_below hb hx, fun i v hv => by
      have h4 : i < 4 := (List.getElem?_eq_some_iff.1 hv).1
      have := HLW.out.e3 (17 + i) v (by
        rcases i with _ | _ | _ | _ | i
        · exact hv
        · exact hv
        · exact hv
        · exact hv
        · omega)
      rw [show (3 - 1) * 24 + (17 + i) = 65 + i by omega] at this
      exact cell_below hb this⟩
    have hi85 := info85s (ev3 (wrap64 (wrap64 (nx + 3) - 1)) ((ss.length : Int) + j) ty id st tx) rfl
    have hi85w := info85s (evCells itemDoneS (wrap64 (wrap64 (nx + 3) - 1)) ((ss.length : Int) + j) ty id st tx eS eS eS (.slice none 0 0) (.slice none 0 0) eS).toList rfl
    have hi83 := info83
    have hw1 : IntKind.i64.wrap 1 = 1 := IntWalk.i64_in _ (by omega)
    have hw2 : IntKind.i64.wrap 2 = 2 := IntWalk.i64_in _ (by omega)
    clear hx hWb c1 c2 c3 HL q0 q1 q2 q3 q4 q5 q6 q7 q8 q9 q10
    refine wp_region_noPanic ?_
    refine wp_region_held_drew (S := (fun w' => w'.cell? ⟨lB, 0, none⟩ = some (.slice (some ⟨lg, 0, none⟩) 3 lc) ∧ w'.rangeAt lg 48 (ev3 (wrap64 (wrap64 (nx + 3) - 1)) ((ss.length : Int) + j) ty id st tx) ∧ w'.rangeAt w.heap.size 0 (evCells itemDoneS (wrap64 (wrap64 (nx + 3) - 1)) ((ss.length : Int) + j) ty id st tx eS eS eS (.slice none 0 0) (.slice none 0 0) eS).toList ∧ w'.rangeAt lg 65 [.string eS, .string eS, .slice none 0 0, .slice none 0 0])) (by kernel_rfl) (HS.out _ (below_drewN (Below.refl _ _) 1)) (fun hHeld => ?_)
    refine wpAnyH_take (i := 0) (oi := { dst := some 379, op := Op.load 43 (Operand.tmp 24), type := 43, pos := "laws_engine_b1.go:333", after := #[], guard := none }) (v := ?_) rfl (by kernel_rfl) (by kernel_rfl) (by kernel_rfl) (fun _ _ _ h => h) (Or.inl ⟨by rfl, ?_⟩) (by assumption) ?_
    rotate_left
    · (intro w hSw; (try dsimp only at hSw); go_simp; try with_reducible rfl)
    try simp only [Act.put, List.setIfInBounds_toArray, List.set_cons_zero, List.set_cons_succ]
    refine wpAnyH_take (i := 1) (oi := { dst := some 380, op := Op.move (Operand.tmp 41), type := 3, pos := "laws_engine_b1.go:333", after := #[], guard := none }) (v := ?_) rfl (by kernel_rfl) (by kernel_rfl) (by kernel_rfl) (fun _ _ _ h => h) (Or.inl ⟨by rfl, ?_⟩) (by assumption) ?_
    rotate_left
    · (intro w hSw; (try dsimp only at hSw); go_simp; try with_reducible rfl)
    try simp only [Act.put, List.setIfInBounds_toArray, List.set_cons_zero, List.set_cons_succ]
    refine wpAnyH_take (i := 2) (oi := { dst := some 381, op := Op.binOp BinOp.sub 3 (Operand.tmp 380) (Operand.const (Value.int IntKind.i64 1)) 3, type := 3, pos := "laws_engine_b1.go:333", after := #[{ on := 1, ground := Ground.data }], guard := none }) (v := ?_) rfl (by kernel_rfl) (by kernel_rfl) (by kernel_rfl) (fun _ _ _ h => h) (Or.inl ⟨by rfl, ?_⟩) (by assumption) ?_
    rotate_left
    · (intro w hSw; (try dsimp only at hSw); go_simp; try with_reducible rfl)
    try simp only [Act.put, List.setIfInBounds_toArray, List.set_cons_zero, List.set_cons_succ]
    refine wpAnyH_take (i := 3) (oi := { dst := some 382, op := Op.indexAddr 43 (Operand.tmp 379) (Operand.tmp 381), type := 0, pos := "laws_engine_b1.go:333", after := #[{ on := 0, ground := Ground.data }, { on := 2, ground := Ground.data }], guard := none }) (v := ?_) rfl (by kernel_rfl) (by kernel_rfl) (by kernel_rfl) (fun _ _ _ h => h) (Or.inl ⟨by rfl, ?_⟩) (by assumption) ?_
    rotate_left
    · (intro w hSw; (try dsimp only at hSw); go_simp; try with_reducible rfl)
    try simp only [Act.put, List.setIfInBounds_toArray, List.set_cons_zero, List.set_cons_succ]
    refine wpAnyH_take (i := 4) (oi := { dst := some 383, op := Op.load 85 (Operand.tmp 382), type := 85, pos := "laws_engine_b1.go:333", after := #[{ on := 3, ground := Ground.data }], guard := none }) (v := .agg (ev3 (wrap64 (wrap64 (nx + 3) - 1)) ((ss.length : Int) + j) ty id st tx).toArray) rfl (by kernel_rfl) (by kernel_rfl) (by kernel_rfl) (fun _ _ _ h => h) (yieldsIf_load_mid (by rfl) 85 (.tmp 382) rfl lg 48 rfl (ev3 (wrap64 (wrap64 (nx + 3) - 1)) ((ss.length : Int) + j) ty id st tx) _ (fun w' h => h.2.1) Try.underlying85 rfl hi85) (by assumption) ?_
    try simp only [Act.put, List.setIfInBounds_toArray, List.set_cons_zero, List.set_cons_succ]
    refine wpAnyH_take (i := 5) (oi := { dst := some 384, op := Op.load 85 (Operand.tmp 44), type := 85, pos := "laws_engine_b1.go:333", after := #[], guard := none }) (v := .agg ((evCells itemDoneS (wrap64 (wrap64 (nx + 3) - 1)) ((ss.length : Int) + j) ty id st tx eS eS eS (.slice none 0 0) (.slice none 0 0) eS).toList).toArray) rfl (by kernel_rfl) (by kernel_rfl) (by kernel_rfl) (fun _ _ _ h => h) (yieldsIf_load_mid (by rfl) 85 (.tmp 44) rfl w.heap.size 0 rfl ((evCells itemDoneS (wrap64 (wrap64 (nx + 3) - 1)) ((ss.length : Int) + j) ty id st tx eS eS eS (.slice none 0 0) (.slice none 0 0) eS).toList) _ (fun w' h => h.2.2.1) Try.underlying85 rfl hi85w) (by assumption) ?_
    try simp only [Act.put, List.setIfInBounds_toArray, List.set_cons_zero, List.set_cons_succ]
    refine wpAnyH_ready (rs := [6]) (by kernel_rfl) (by simp) ?_
    refine AllReadyH.cons (o := { dst := some 385, op := Op.call { callee := Callee.value (Operand.func 23), args := #[Operand.tmp 383, Operand.tmp 384], argTypes := #[85, 85] }, type := 4, pos := "laws_engine_b1.go:333", after := #[{ on := 4, ground := Ground.data }, { on := 5, ground := Ground.data }], guard := none }) rfl (fun K hK => ?_) AllReadyH.nil
    go_simp
    refine (eqEv_any itemDoneS (wrap64 (wrap64 (nx + 3) - 1)) ((ss.length : Int) + j) ty id st tx eS eS eS eS eS none none none none 0 0 0 0 0 0 0 0 eS _).mono ?_
    rintro e w5 ⟨rfl, hb5⟩
    have hb5' : Below W.heap.size W w5 := (below_drewN (Below.refl _ W) 1).trans hb5
    clear hb5
    try dsimp only
    refine hK.out _ _ (HS.out _ hb5') (fun hHeld => ?_)
    try simp only [Act.put, List.setIfInBounds_toArray, List.set_cons_zero, List.set_cons_succ]
    refine wpAnyH_take (i := 7) (oi := { dst := some 386, op := Op.move (Operand.tmp 385), type := 4, pos := "laws_engine_b1.go:333", after := #[{ on := 6, ground := Ground.data }, { on := 6, ground := Ground.chain }], guard := none }) (v := ?_) rfl (by kernel_rfl) (by kernel_rfl) (by kernel_rfl) (fun _ _ _ h => h) (Or.inl ⟨by rfl, ?_⟩) (by assumption) ?_
    rotate_left
    · (intro w hSw; (try dsimp only at hSw); go_simp; try with_reducible rfl)
    try simp only [Act.put, List.setIfInBounds_toArray, List.set_cons_zero, List.set_cons_succ]
    refine wpAnyH_take (i := 8) (oi := { dst := some 387, op := Op.load 43 (Operand.tmp 24), type := 43, pos := "laws_engine_b1.go:333", after := #[{ on := 7, ground := Ground.guard }], guard := some (7, true) }) (v := ?_) rfl (by kernel_rfl) (by kernel_rfl) (by kernel_rfl) (fun _ _ _ h => h) (Or.inl ⟨by rfl, ?_⟩) (by assumption) ?_
    rotate_left
    · (intro w hSw; (try dsimp only at hSw); go_simp; try with_reducible rfl)
    try simp only [Act.put, List.setIfInBounds_toArray, List.set_cons_zero, List.set_cons_succ]
    refine wpAnyH_take (i := 9) (oi := { dst := some 388, op := Op.move (Operand.tmp 41), type := 3, pos := "laws_engine_b1.go:333", after := #[{ on := 7, ground := Ground.guard }], guard := some (7, true) }) (v := ?_) rfl (by kernel_rfl) (by kernel_rfl) (by kernel_rfl) (fun _ _ _ h => h) (Or.inl ⟨by rfl, ?_⟩) (by assumption) ?_
    rotate_left
    · (intro w hSw; (try dsimp only at hSw); go_simp; try with_reducible rfl)
    try simp only [Act.put, List.setIfInBounds_toArray, List.set_cons_zero, List.set_cons_succ]
    refine wpAnyH_take (i := 10) (oi := { dst := some 389, op := Op.binOp BinOp.sub 3 (Operand.tmp 388) (Operand.const (Value.int IntKind.i64 1)) 3, type := 3, pos := "laws_engine_b1.go:333", after := #[{ on := 9, ground := Ground.data }, { on := 7, ground := Ground.guard }], guard := some (7, true) }) (v := ?_) rfl (by kernel_rfl) (by kernel_rfl) (by kernel_rfl) (fun _ _ _ h => h) (Or.inl ⟨by rfl, ?_⟩) (by assumption) ?_
    rotate_left
    · (intro w hSw; (try dsimp only at hSw); go_simp; try with_reducible rfl)
    try simp only [Act.put, List.setIfInBounds_toArray, List.set_cons_zero, List.set_cons_succ]
    refine wpAnyH_take (i := 11) (oi := { dst := some 390, op := Op.indexAddr 43 (Operand.tmp 387) (Operand.tmp 389), type := 0, pos := "laws_engine_b1.go:333", after := #[{ on := 8, ground := Ground.data }, { on := 10, ground := Ground.data }, { on := 7, ground := Ground.guard }], guard := some (7, true) }) (v := ?_) rfl (by kernel_rfl) (by kernel_rfl) (by kernel_rfl) (fun _ _ _ h => h) (Or.inl ⟨by rfl, ?_⟩) (by assumption) ?_
    rotate_left
    · (intro w hSw; (try dsimp only at hSw); go_simp; try with_reducible rfl)
    try simp only [Act.put, List.setIfInBounds_toArray, List.set_cons_zero, List.set_cons_succ]
    refine wpAnyH_take (i := 12) (oi := { dst := some 391, op := Op.fieldAddr 85 (Operand.tmp 390) 7, type := 0, pos := "laws_engine_b1.go:333", after := #[{ on := 11, ground := Ground.data }, { on := 7, ground := Ground.guard }], guard := some (7, true) }) (v := ?_) rfl (by kernel_rfl) (by kernel_rfl) (by kernel_rfl) (fun _ _ _ h => h) (Or.inl ⟨by rfl, ?_⟩) (by assumption) ?_
    rotate_left
    · (intro w hSw; (try dsimp only at hSw); go_simp; try with_reducible rfl)
    try simp only [Act.put, List.setIfInBounds_toArray, List.set_cons_zero, List.set_cons_succ]
    refine wpAnyH_take (i := 13) (oi := { dst := some 392, op := Op.load 83 (Operand.tmp 391), type := 83, pos := "laws_engine_b1.go:333", after := #[{ on := 12, ground := Ground.data }, { on := 7, ground := Ground.guard }], guard := some (7, true) }) (v := .agg ([.string eS, .string eS, .slice none 0 0, .slice none 0 0]).toArray) rfl (by kernel_rfl) (by kernel_rfl) (by kernel_rfl) (fun _ _ _ h => h) (yieldsIf_load_mid (by rfl) 83 (.tmp 391) rfl lg 65 rfl ([.string eS, .string eS, .slice none 0 0, .slice none 0 0]) _ (fun w' h => h.2.2.2) Try.underlying83 rfl hi83) (by assumption) ?_
    try simp only [Act.put, List.setIfInBounds_toArray, List.set_cons_zero, List.set_cons_succ]
    refine wpAnyH_ready (rs := [14]) (by kernel_rfl) (by simp) ?_
    refine AllReadyH.cons (o := { dst := some 393, op := Op.call { callee := Callee.value (Operand.func 24), args := #[Operand.tmp 392], argTypes := #[83] }, type := 4, pos := "laws_engine_b1.go:333", after := #[{ on := 13, ground := Ground.data }, { on := 7, ground := Ground.chain }, { on := 7, ground := Ground.guard }], guard := some (7, true) }) rfl (fun K hK => ?_) AllReadyH.nil
    go_simp
    refine (zeroPart_any _).mono ?_
    rintro e w6 ⟨rfl, hb6⟩
    have hb6' : Below W.heap.size W w6 := hb5'.trans (Below.mono hb6 hb5'.size)
    clear hb6
    try dsimp only
    refine hK.out _ _ (HS.out _ hb6') (fun hHeld => ?_)
    try simp only [Act.put, List.setIfInBounds_toArray, List.set_cons_zero, List.set_cons_succ]
    refine wpAnyH_take (i := 15) (oi := { dst := some 394, op := Op.pick (Operand.tmp 386) (Operand.tmp 393) (Operand.const (Value.bool false)), type := 4, pos := "laws_engine_b1.go:333", after := #[{ on := 7, ground := Ground.data }, { on := 14, ground := Ground.data }], guard := none }) (v := ?_) rfl (by kernel_rfl) (by kernel_rfl) (by kernel_rfl) (fun _ _ _ h => h) (Or.inl ⟨by rfl, ?_⟩) (by assumption) ?_
    rotate_left
    · (intro w hSw; (try dsimp only at hSw); go_simp; try with_reducible rfl)
    try simp only [Act.put, List.setIfInBounds_toArray, List.set_cons_zero, List.set_cons_succ]
    refine wpAnyH_take (i := 16) (oi := { dst := some 18, op := Op.assign (Operand.tmp 394), type := 4, pos := "laws_engine_b1.go:333", after := #[{ on := 15, ground := Ground.data }, { on := 14, ground := Ground.chain }, { on := 0, ground := Ground.phase }, { on := 1, ground := Ground.phase }, { on := 2, ground := Ground.phase }, { on := 3, ground := Ground.phase }, { on := 4, ground := Ground.phase }, { on := 5, ground := Ground.phase }, { on := 6, ground := Ground.phase }, { on := 7, ground := Ground.phase }, { on := 8, ground := Ground.phase }, { on := 9, ground := Ground.phase }, { on := 10, ground := Ground.phase }, { on := 11, ground := Ground.phase }, { on := 12, ground := Ground.phase }, { on := 13, ground := Ground.phase }, { on := 14, ground := Ground.phase }, { on := 15, ground := Ground.phase }], guard := none }) (v := ?_) rfl (by kernel_rfl) (by kernel_rfl) (by kernel_rfl) (fun _ _ _ h => h) (Or.inl ⟨by rfl, ?_⟩) (by assumption) ?_
    rotate_left
    · (intro w hSw; (try dsimp only at hSw); go_simp; try with_reducible rfl)
    try simp only [Act.put, List.setIfInBounds_toArray, List.set_cons_zero, List.set_cons_succ]
    refine wpAnyH_done (by kernel_rfl) ?_ _
    refine NoPanic.normal ?_
    have HL6 : Hid (Below w0.heap.size w0 w6) := (HLW.out.below hb6').old
    clear hb5' hb6'
    go_wp2
    go_ret
    exact ⟨rfl, HL6.out⟩
end Go.Proofs.Qxb6612221a.Cl
