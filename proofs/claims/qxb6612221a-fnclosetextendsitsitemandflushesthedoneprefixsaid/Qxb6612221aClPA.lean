/- The law's function: the output's row. -/
import Derived.Test.Qxb6612221aClJ
namespace Go.Proofs.Qxb6612221a.Cl
open Go.RowKit
set_option maxRecDepth 1000000 in
set_option maxHeartbeats 8000000 in
theorem phA (next : PhB) : PhA := by
  unfold PhA
  intro w0 ao bo ca cb ss os j nx kd tx st pt sm w
  intros
  rename_i hB hb
  conv => arg 2; whnf
  obtain ⟨i0, hi0, hz0, hz1, hz2⟩ := info_parts info37
  have HS : Hid (StrRow w0 ao ss) := hB.sr
  have l1 := hB.l1
  have HB : Hid (Base w0 ao bo ss os j) := hB
  have HN : Hid PhB := next
  have Hb : Hid (Below w0.heap.size w0 w) := hb
  clear hB hb next
  go_wp2
  rename_i K hK
  have HK : Hid _ := hK
  clear hK
  go_loopw [19, 20] (fun v i wr => ∃ k : Nat, k ≤ ss.length ∧ i = .int .i64 k ∧ Below w0.heap.size w0 wr ∧ wr.ownsRow w0.heap.size 37 11 v k (outs (ss.take k))) (fun _ i _ => ss.length - (intOf i).toNat)
  case atStart => exact ⟨0, Nat.zero_le _, rfl, Hb.out, rfl, .inl ⟨rfl, rfl⟩⟩
  case round =>
    obtain ⟨k, hk, rfl, hbr, hown⟩ := hrel
    by_cases hlt : k < ss.length
    · obtain ⟨b, off, rfl, hc⟩ := (HS.out.below hbr) k hlt
      have HBR : Hid (Below w0.heap.size w0 wr) := hbr
      have HOW : Hid (wr.ownsRow w0.heap.size 37 11 u19 k (outs (List.take k ss))) := hown
      have hsz := hbr.size
      clear hbr hown
      obtain ⟨s, hs⟩ : ∃ s, ss[k] = s := ⟨_, rfl⟩
      rw [hs] at hc
      go_wp2_with fail
      refine (outItem_any _ _).mono ?_
      rintro e w1 ⟨rfl, rfl⟩
      go_wp2_with (at_builtin; refine wpList_append_lies _ rfl _ _ 34 rfl w0.heap.size 37 i0 _ 11 176 Try.underlying34 hi0 hz0 hz1 hz2 rfl (by decide) _ _ _ rfl ((HOW.out.alloc _).alloc _) ⟨wr.heap.size + 1, 0, none⟩ 1 1 (itemCells msgS s compS eS).toList rfl rfl ?c1 ?c2 ?c3 ?c4 ?c5 ?c6 _ rfl ?_)
      case c2 => simp [Value.oneCell']
      case c3 => omega
      case c4 => unfold maxLen; omega
      case c5 => omega
      case c6 => simp; omega
      intro gg ncap w2 hown2 hgrow hat hlt2
      have HOW2 : Hid (w2.ownsRow w0.heap.size 37 11 (.slice (some ⟨gg, 0, none⟩) (k + 1) ncap) (k + 1) (outs (ss.take (k + 1)))) := by
        have : outs (ss.take (k + 1)) = outs (ss.take k) ++ (itemCells msgS s compS eS).toList := by
          rw [List.take_succ_eq_append_getElem hlt, hs]
          simp [outs]
        rw [this]
        exact hown2
      have HB2 : Hid (Below w0.heap.size w0 w2) := by
        refine HBR.out.trans ⟨hgrow.os, hgrow.tape, hgrow.output, Nat.le_trans (by simp; omega) hgrow.size, fun q hq => ?_⟩
        refine (hgrow.block q (by simp; omega) (fun e => ?_)).trans ((heap_alloc_old _ _ (by simp; omega)).trans (heap_alloc_old _ _ (by omega)))
        have := (HOW.out.lt _ e.symm).1
        omega
      clear hown2 hgrow hat hlt2
      go_wp2
      go_round
      case rel => exact ⟨k + 1, by omega, by go_num, HB2.out, HOW2.out⟩
      case measure => simp [intOf]; omega
    · have : k = ss.length := by omega
      subst this
      go_wp2
      refine HK.out _ _ ?_
      have next := HN.out
      unfold PhB at next
      apply next
      · exact HB.out
      · exact hbr
      · rw [List.take_length] at hown
        exact hown
end Go.Proofs.Qxb6612221a.Cl
