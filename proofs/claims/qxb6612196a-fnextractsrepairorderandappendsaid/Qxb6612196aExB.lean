/- THE WALK of 'ZZExtracts'. -/
import Derived.Test.Qxb6612196aExMem
namespace Go.Proofs.Qxb6612196a.Ex
open Go.RowKit ExPlain
theorem info33 : (Try.prog.info? 33).map (fun i => (i.zero, i.size, i.bytes)) = some (some (.pointer none), 1, 8) := by kernel_rfl

theorem slice_shape {w : World} {base : Nat} {e : TypeId} {v : Value} {n : Nat} {xs : List Value} (h : w.ownsRow base e 1 v (n + 1) xs) : ∃ g cap, v = .slice (some ⟨g, 0, none⟩) (n + 1) cap := by
  rcases h.2 with ⟨_, hz⟩ | ⟨g, cap, cur, h, _⟩
  · omega
  · exact ⟨g, cap, h⟩
theorem cell_one (w : World) (x : Value) (t : TypeId) : ∀ j u, [x][j]? = some u → (w.alloc (.cells #[x] t)).cell? ((⟨w.heap.size, 0, none⟩ : Addr).add j) = some u := cell_one_new w x t
theorem cell_one' (w : World) (o : Obj) (x : Value) (t : TypeId) : ∀ j u, [x][j]? = some u → ((w.alloc o).alloc (.cells #[x] t)).cell? ((⟨w.heap.size + 1, 0, none⟩ : Addr).add j) = some u := by
  have h := cell_one_new (w.alloc o) x t
  have e : (w.alloc o).heap.size = w.heap.size + 1 := by simp
  rw [e] at h
  exact h

set_option maxHeartbeats 2000000 in
theorem zz_any (an ar : Option Addr) (cn cr : Nat) (ns : List ByteArray) (rs : List (List ByteArray)) (arch : ByteArray) (w : World) (hn : StrRow w an ns) (hr : RowRow w ar rs)
   (hl : ns.length ≤ 1073741824) (_hl2 : rs.length ≤ 1073741824) :
    Calls Try.prog 6 #[.slice an ns.length cn, .slice ar rs.length cr, .string arch] w fun e w' => e = .returned (.bool (ext (lines ns rs) arch)) ∧ Below w.heap.size w w' := by
  have HN : Hid (StrRow w an ns) := hn
  have HR : Hid (RowRow w ar rs) := hr
  clear hn hr
  obtain ⟨i0, hi, hz0, hz1, hz2⟩ := info_parts info33
  have HI : Hid (Try.prog.info? 33 = some i0 ∧ i0.zero = some (.pointer none) ∧ i0.size = 1 ∧ i0.bytes = 8) := ⟨hi, hz0, hz1, hz2⟩
  clear hi hz0 hz1 hz2
  go_enter Try.func6, Try.ntmps6
  go_wp2
  go_loopw [18] (fun i wr => ∃ (k : Nat) (v : Value) (ps : List Nat), k ≤ ns.length ∧ i = .int .i64 k ∧ Hid (Below w.heap.size w wr) ∧ w.heap.size < wr.heap.size ∧ Built wr w.heap.size v ((lines ns rs).take k) ps) (fun i _ => ns.length - (intOf i).toNat)
  case atStart => exact ⟨0, _, _, Nat.zero_le _, rfl, (Below.refl _ _).alloc (Nat.le_refl _) _, by simp, built_start w⟩
  case round =>
    obtain ⟨k, v, ps, hk, rfl, HB, hz, hbt⟩ := hrel
    have HT : Hid (Built wr w.heap.size v ((lines ns rs).take k) ps) := hbt
    clear hbt
    by_cases hlt : k < ns.length
    · obtain ⟨b, off, rfl, hc⟩ := HN.out k hlt
      have hc' : wr.cell? ⟨b, off + k, none⟩ = some (.string ns[k]) := cell_below HB.out hc
      clear hc
      obtain ⟨wo, rfl⟩ : ∃ wo : World, wo = wr := ⟨_, rfl⟩
      by_cases hkr : k < rs.length
      · obtain ⟨b2, off2, ai, ci, rfl, hd, hd2, hd3⟩ := HR.out k hkr
        have hd' : ∀ o, (wo.alloc o).cell? ⟨b2, off2 + k, none⟩ = some (.slice ai rs[k].length ci) := fun o => cell_below (HB.out.trans (((Below.refl _ _).alloc (Nat.le_refl _) o).mono HB.out.size)) hd
        have HS : Hid (StrRow w ai rs[k]) := hd2
        clear hd hd2
        go_wp2
        go_loopw [39] (fun i wr => ∃ (j : Nat) (v2 : Value) (es : List Nat), j ≤ rs[k].length ∧ i = .int .i64 j ∧ Hid (Below wo.heap.size wo wr) ∧ wo.heap.size < wr.heap.size ∧ ArgsB wr wo.heap.size ns[k] v2 (rs[k].take j) es) (fun i _ => rs[k].length - (intOf i).toNat)
        case atStart => exact ⟨0, _, _, Nat.zero_le _, rfl, (Below.refl _ _).alloc (Nat.le_refl _) _, by simp, argsB_start wo _⟩
        case round =>
          obtain ⟨j, v2, es, hj, rfl, HBi, hzi, hab⟩ := hrel
          have HA : Hid (ArgsB wr wo.heap.size ns[k] v2 (rs[k].take j) es) := hab
          obtain ⟨-, m5, -⟩ := expr_cells hab.blk
          clear hab
          by_cases hjl : j < rs[k].length
          · obtain ⟨b3, off3, rfl, hs⟩ := HS.out j hjl
            have hs' : wr.cell? ⟨b3, off3 + j, none⟩ = some (.string rs[k][j]) := cell_below (HB.out.trans (HBi.out.mono HB.out.size)) hs
            clear hs
            have m5' : ∀ o, (wr.alloc o).cell? ⟨wo.heap.size, 5, none⟩ = some v2 := fun o => cell_below ((Below.refl _ _).alloc (Nat.le_refl _) o) m5
            have hown := HA.out.own
            have HA2 := HA.out.len
            obtain ⟨hi, hz0, hz1, hz2⟩ := HI.out
            have hjn : (rs[k].take j).length = j := by rw [List.length_take]; omega
            rw [hjn] at hown
            have HW : Hid (wr.ownsRow (wo.heap.size + 1) 33 1 v2 j (es.map ptrTo)) := hown
            clear hown HA2 hjn
            go_wp2_with (at_builtin; refine wpList_append_own_at _ rfl _ _ 30 rfl (wo.heap.size + 1) 33 i0 (.pointer none) 1 8 Try.underlying30 hi hz0 hz1 hz2 rfl (by decide) v2 j (es.map ptrTo) rfl ((HW.out.alloc _).alloc _) ⟨wr.heap.size + 1, 0, none⟩ 1 1 [ptrTo wr.heap.size] rfl rfl ?c1 ?c2 ?c3 ?c4 ?c5 ?_)
            case c1 => exact cell_one' wr _ _ _
            case c2 => intro u hu; simp at hu; subst hu; rfl
            case c3 => unfold maxLen; omega
            case c4 => omega
            case c5 => simp; omega
            · intro v' w2 hown' hgrow hnn hat
              obtain ⟨g, cap, hv⟩ := slice_shape hown'
              subst hv
              have R := argsB_step (a := rs[k][j]) HA.out (by rw [List.length_take, Nat.min_eq_left hj]; exact hown') hgrow (by simpa using hat)
              obtain ⟨R1, R2, R3⟩ := R
              rw [← take_snoc _ _ hjl] at R1
              obtain ⟨-, q5, q5f⟩ := expr_cells R3
              have HR1 : Hid (ArgsB (w2.setCell ⟨wo.heap.size, 5, none⟩ (.slice (some ⟨g, 0, none⟩) (j + 1) cap)) wo.heap.size ns[k] (.slice (some ⟨g, 0, none⟩) (j + 1) cap) (rs[k].take (j + 1)) (es ++ [wr.heap.size])) := R1
              have HR2 : Hid (Below wo.heap.size wr (w2.setCell ⟨wo.heap.size, 5, none⟩ (.slice (some ⟨g, 0, none⟩) (j + 1) cap))) := R2
              clear R1 R2 R3 hown' hgrow hnn hat hi hz0 hz1 hz2 m5 m5' hs' HW
              go_wp2
              go_roundw
              case rel => exact ⟨j + 1, _, _, by omega, by go_num, HBi.out.trans HR2.out, Nat.lt_of_lt_of_le hzi HR2.out.size, HR1⟩
              case measure => simp [intOf]; omega
          · have hjl' : j = rs[k].length := by omega
            have HF : Hid (MetaA wr (Off w.heap.size v) wo.heap.size ns[k] rs[k]) := by
              have h1 := HA.out
              rw [hjl', List.take_of_length_le (Nat.le_refl _)] at h1
              refine metaA_of h1 _ (fun q hq hO => ?_) hd3
              rcases hO with h2 | h2
              · omega
              · have := (HT.out.own.lt q h2.symm).2; omega
            have HT2 : Hid (Built wr w.heap.size v ((lines ns rs).take k) ps) := HT.out.below HBi.out
            obtain ⟨d4, -⟩ := def_cells HT2.out.blk
            have hkn := lines_len_take ns rs k hk
            have hown := HT2.out.own
            rw [hkn] at hown
            have HW : Hid (wr.ownsRow (w.heap.size + 1) 33 1 v k (ps.map ptrTo)) := hown
            obtain ⟨hi, hz0, hz1, hz2⟩ := HI.out
            clear hown hkn m5 hjl'
            go_wp2_with (at_builtin; refine wpList_append_own_at _ rfl _ _ 30 rfl (w.heap.size + 1) 33 i0 (.pointer none) 1 8 Try.underlying30 hi hz0 hz1 hz2 rfl (by decide) v k (ps.map ptrTo) rfl (HW.out.alloc _) ⟨wr.heap.size, 0, none⟩ 1 1 [ptrTo wo.heap.size] rfl rfl ?d1 ?d2 ?d3 ?d4 ?d5 ?_)
            case d1 => exact cell_one wr _ _
            case d2 => intro u hu; simp at hu; subst hu; rfl
            case d3 => unfold maxLen; omega
            case d4 => omega
            case d5 => simp; omega
            · intro v' w2 hown' hgrow hnn hat
              obtain ⟨g, cap, hv⟩ := slice_shape hown'
              subst hv
              have R := built_step HT2.out HF.out (by rw [lines_len_take ns rs k hk]; exact hown') hgrow (by simpa using hat)
              obtain ⟨R1, R2, R3⟩ := R
              have e : rs[k] = rs.getD k [] := by rw [List.getD_eq_getElem?_getD, List.getElem?_eq_getElem hkr]; rfl
              rw [e, ← lines_take ns rs k hlt] at R1
              obtain ⟨q4, q4f⟩ := def_cells R3
              have HR1 : Hid (Built (w2.setCell ⟨w.heap.size, 4, none⟩ (.slice (some ⟨g, 0, none⟩) (k + 1) cap)) w.heap.size (.slice (some ⟨g, 0, none⟩) (k + 1) cap) ((lines ns rs).take (k + 1)) (ps ++ [wo.heap.size])) := R1
              have HR2 : Hid (Below w.heap.size wr (w2.setCell ⟨w.heap.size, 4, none⟩ (.slice (some ⟨g, 0, none⟩) (k + 1) cap))) := R2
              clear R1 R2 R3 hown' hgrow hnn hat hi hz0 hz1 hz2 e d4 HW hc' hd'
              go_wp2
              go_roundw
              case rel => exact ⟨k + 1, _, _, by omega, by go_num, (HB.out.trans (HBi.out.mono HB.out.size)).trans HR2.out, by have := HR2.out.size; omega, HR1⟩
              case measure => simp [intOf]; omega
      · -- no options
        have HF : Hid (MetaA (wo.alloc (.cells (exprCells ns[k] (.slice none 0 0)) 40)) (Off w.heap.size v) wo.heap.size ns[k] []) := by
          refine metaA_of (argsB_start wo ns[k]) _ (fun q hq hO => ?_) (by simp)
          rcases hO with h2 | h2
          · omega
          · have := (HT.out.own.lt q h2.symm).2; omega
        have hba : Below wo.heap.size wo (wo.alloc (.cells (exprCells ns[k] (.slice none 0 0)) 40)) := (Below.refl _ _).alloc (Nat.le_refl _) _
        have HT2 : Hid (Built (wo.alloc (.cells (exprCells ns[k] (.slice none 0 0)) 40)) w.heap.size v ((lines ns rs).take k) ps) := HT.out.below hba
        obtain ⟨d4, -⟩ := def_cells HT2.out.blk
        have hkn := lines_len_take ns rs k hk
        have hown := HT2.out.own
        rw [hkn] at hown
        have HW : Hid ((wo.alloc (.cells (exprCells ns[k] (.slice none 0 0)) 40)).ownsRow (w.heap.size + 1) 33 1 v k (ps.map ptrTo)) := hown
        have HBa : Hid (Below wo.heap.size wo (wo.alloc (.cells (exprCells ns[k] (.slice none 0 0)) 40))) := hba
        obtain ⟨hi, hz0, hz1, hz2⟩ := HI.out
        clear hown hkn hba
        go_wp2_with (at_builtin; refine wpList_append_own_at _ rfl _ _ 30 rfl (w.heap.size + 1) 33 i0 (.pointer none) 1 8 Try.underlying30 hi hz0 hz1 hz2 rfl (by decide) v k (ps.map ptrTo) rfl (HW.out.alloc _) ⟨wo.heap.size + 1, 0, none⟩ 1 1 [ptrTo wo.heap.size] rfl rfl ?e1 ?e2 ?e3 ?e4 ?e5 ?_)
        case e1 => exact cell_one' wo _ _ _
        case e2 => intro u hu; simp at hu; subst hu; rfl
        case e3 => unfold maxLen; omega
        case e4 => omega
        case e5 => simp; omega
        · intro v' w2 hown' hgrow hnn hat
          obtain ⟨g, cap, hv⟩ := slice_shape hown'
          subst hv
          have R := built_step HT2.out HF.out (by rw [lines_len_take ns rs k hk]; exact hown') hgrow (by simpa using hat)
          obtain ⟨R1, R2, R3⟩ := R
          have e : ([] : List ByteArray) = rs.getD k [] := by rw [List.getD_eq_getElem?_getD, List.getElem?_eq_none (by omega)]; rfl
          rw [e, ← lines_take ns rs k hlt] at R1
          obtain ⟨q4, q4f⟩ := def_cells R3
          have HR1 : Hid (Built (w2.setCell ⟨w.heap.size, 4, none⟩ (.slice (some ⟨g, 0, none⟩) (k + 1) cap)) w.heap.size (.slice (some ⟨g, 0, none⟩) (k + 1) cap) ((lines ns rs).take (k + 1)) (ps ++ [wo.heap.size])) := R1
          have HR2 : Hid (Below w.heap.size (wo.alloc (.cells (exprCells ns[k] (.slice none 0 0)) 40)) (w2.setCell ⟨w.heap.size, 4, none⟩ (.slice (some ⟨g, 0, none⟩) (k + 1) cap))) := R2
          clear R1 R2 R3 hown' hgrow hnn hat hi hz0 hz1 hz2 e d4 HW hc'
          go_wp2
          go_roundw
          case rel => exact ⟨k + 1, _, _, by omega, by go_num, (HB.out.trans (HBa.out.mono HB.out.size)).trans HR2.out, by have h3 := HR2.out.size; have h4 := HBa.out.size; omega, HR1⟩
          case measure => simp [intOf]; omega
    · have hkn : k = ns.length := by omega
      have h1 := HT.out
      rw [hkn, List.take_of_length_le (by rw [lines_length]; exact Nat.le_refl _)] at h1
      obtain ⟨ao, cap, d4, hm⟩ := built_end h1
      have HM : Hid (MetasIs wr ao (lines ns rs)) := hm
      have hll : (lines ns rs).length ≤ 1099511627776 := by rw [lines_length]; omega
      clear h1 hkn hm
      go_wp2_with (go_at_call 8; refine (extracts_any w.heap.size cap ao (lines ns rs) arch _ (by exact d4) HM.out hll).mono ?_; rintro e w3 ⟨rfl, hb3⟩; have HB3 : Hid (Below wr.heap.size wr w3) := hb3; clear hb3)
      go_ret
      rename_i HB3
      exact ⟨rfl, HB.out.trans (HB3.out.mono HB.out.size)⟩
end Go.Proofs.Qxb6612196a.Ex
