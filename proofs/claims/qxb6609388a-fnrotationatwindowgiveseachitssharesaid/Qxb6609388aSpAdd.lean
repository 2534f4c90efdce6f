/- WALKS of 'ZZaddPart' and of the turn of two targets. -/
import Derived.Test.Qxb6609388aSpAt
import Derived.OneCell
import Derived.OwnWalk
import Derived.Test.Qxb6609388aTabWalks
namespace Go.Proofs.Qxb6609388a.Sp
open Go.RowKit SpPlain

theorem info43 : (Try.prog.info? 43).map (fun i => (i.zero, i.size, i.bytes)) = some (some (.agg #[.int .u8 0, .int .u32 0, .int .i32 0, .int .i32 0, .int .u64 0]), 5, 24) := by kernel_rfl

theorem cell4 {w : World} {b : Nat} {c0 c1 c2 c3 : Value} {t : TypeId} (h : w.heap[b]? = some (.cells #[c0, c1, c2, c3] t (0, 0))) :
    w.cell? ⟨b, 0, none⟩ = some c0 ∧ w.cell? ⟨b, 2, none⟩ = some c2 ∧ w.frozen? ⟨b, 2, none⟩ = false := by simp [World.cell?, World.frozen?, h]
theorem set4 {w : World} {b : Nat} {c0 c1 c2 c3 u : Value} {t : TypeId} (h : w.heap[b]? = some (.cells #[c0, c1, c2, c3] t (0, 0))) :
    (w.setCell ⟨b, 2, none⟩ u).heap[b]? = some (.cells #[c0, c1, u, c3] t (0, 0)) := by
  have hlt := lt_of_block h
  have h' : w.heap[b] = .cells #[c0, c1, c2, c3] t (0, 0) := by simpa [Array.getElem?_eq_getElem hlt] using h
  show (w.heap.modify b _)[b]? = _
  rw [Array.getElem?_eq_getElem (by simpa using hlt), Array.getElem_modify_self, h']
  rfl

set_option maxHeartbeats 1000000 in
theorem addPart_any (B n : Nat) (c0 c1 v c3 : Value) (xs : List Value) (kd tt f s len : Int) (w : World) (hb : w.heap[B]? = some (.cells #[c0, c1, v, c3] 38 (0, 0))) (hown : w.ownsRow (B + 1) 43 5 v n xs) (hn : n ≤ 2) :
    Calls Try.prog 13 #[.pointer (some ⟨B, 0, none⟩), .int .u8 kd, .int .u32 tt, .int .i32 f, .int .i32 s, .int .u64 len] w fun e w' => e = .returned (.tuple #[]) ∧
      ∃ g cap, w'.heap[B]? = some (.cells #[c0, c1, .slice (some ⟨g, 0, none⟩) (n + 1) cap, c3] 38 (0, 0)) ∧ w'.ownsRow (B + 1) 43 5 (.slice (some ⟨g, 0, none⟩) (n + 1) cap) (n + 1) (xs ++ [.int .u8 kd, .int .u32 tt, .int .i32 f, .int .i32 s, .int .u64 len]) ∧ Below B w w' := by
  obtain ⟨h0, h2, h2f⟩ := cell4 hb
  have hlt := lt_of_block hb
  obtain ⟨i0, hi, hz0, hz1, hz2⟩ := info_parts info43
  go_enter Try.func13, Try.ntmps13
  go_wp2_with (at_builtin; refine wpList_append_own _ rfl _ _ 35 rfl (B + 1) 43 i0 (.agg #[.int .u8 0, .int .u32 0, .int .i32 0, .int .i32 0, .int .u64 0]) 5 24 Try.underlying35 hi hz0 hz1 hz2 rfl (by decide) _ _ _ rfl (hown.alloc _) ⟨w.heap.size, 0, none⟩ 1 1 [.int .u8 kd, .int .u32 tt, .int .i32 f, .int .i32 s, .int .u64 len] rfl rfl ?c1 ?c2 ?c3 ?c4 ?c5 ?_)
  case c1 =>
    intro j u hj
    match j, hj with
    | 0, hj => simp at hj; subst hj; simp [Addr.add]
    | 1, hj => simp at hj; subst hj; simp [Addr.add]
    | 2, hj => simp at hj; subst hj; simp [Addr.add]
    | 3, hj => simp at hj; subst hj; simp [Addr.add]
    | 4, hj => simp at hj; subst hj; simp [Addr.add]
    | j + 5, hj => simp at hj
  case c2 => intro u hu; simp at hu; rcases hu with rfl | rfl | rfl | rfl | rfl <;> rfl
  case c3 => unfold maxLen; omega
  case c4 => omega
  case c5 => simp; omega
  · intro v' w1 hown' hgrow hnn
    have hex : ∃ g cap, v' = .slice (some ⟨g, 0, none⟩) (n + 1) cap ∧ B + 1 ≤ g := by
      rcases hown'.2 with ⟨h, _⟩ | ⟨g, cap, cur, h, hg, _⟩
      · exact absurd h hnn
      · exact ⟨g, cap, h, hg⟩
    obtain ⟨g, cap, hv, hg⟩ := hex
    subst hv
    have hrow : ∀ k, v.ownBlock = some k → B + 1 ≤ k := fun k hk => (hown.lt k hk).1
    have hb1 : w1.heap[B]? = some (.cells #[c0, c1, v, c3] 38 (0, 0)) := by
      rw [hgrow.block B (by simp; omega) (fun e => by have := hrow B e.symm; omega), Below.heap_alloc _ _ _ hlt]
      exact hb
    have hbel : Below B w w1 := ((Below.refl B w).alloc (by omega) _).grown hgrow (by simp; omega) (fun k hk => by have := hrow k hk; omega)
    obtain ⟨g0, g2, g2f⟩ := cell4 hb1
    clear hgrow hnn hrow hown hb h0 h2 h2f
    have HO : Hid (w1.ownsRow (B + 1) 43 5 (.slice (some ⟨g, 0, none⟩) (n + 1) cap) (n + 1) (xs ++ [.int .u8 kd, .int .u32 tt, .int .i32 f, .int .i32 s, .int .u64 len])) := hown'
    clear hown'
    go_wp2
    go_end0
    exact ⟨rfl, g, cap, set4 hb1, ownsRow_setCell_below HO.out (by simp) _, hbel.setCell (Nat.le_refl _) _⟩

/-- What the turn of two targets is in memory. -/
structure IsRot (w : World) (b g cap : Nat) (tA n tB m L : Int) : Prop where
  r0 : w.cell? ⟨b, 0, none⟩ = some (.int .u64 L)
  r2 : w.cell? ⟨b, 2, none⟩ = some (.slice (some ⟨g, 0, none⟩) 3 cap)
  pl : IsPlan w g tA n tB m L

theorem IsRot.drewN {w : World} {b g cap : Nat} {tA n tB m L : Int} (h : IsRot w b g cap tA n tB m L) (k : Nat) : IsRot (w.drewN k) b g cap tA n tB m L :=
  ⟨h.r0, h.r2, h.pl.drewN k⟩

theorem isPlan_of_owns {w : World} {base g cap : Nat} {tA n tB m L : Int} (h : w.ownsRow base 43 5 (.slice (some ⟨g, 0, none⟩) 3 cap) 3 (planCells tA n tB m L)) : IsPlan w g tA n tB m L := by
  have hc := fun j hj => h.cellAt j hj
  exact ⟨hc 0 (by decide), hc 1 (by decide), hc 4 (by decide), hc 5 (by decide), hc 6 (by decide), hc 9 (by decide), hc 10 (by decide), hc 12 (by decide), hc 13 (by decide), hc 14 (by decide)⟩

set_option maxHeartbeats 1000000 in
/-- 'b1SpreadRotation' -/
theorem spreadRot_any (tA n tB m : Int) (w : World) (n0 : 1 ≤ n) (n1 : n ≤ 65536) (m0 : 1 ≤ m) (m1 : m ≤ 65536) :
    Calls Try.prog 9 #[.int .u32 tA, .int .u64 n, .int .u32 tB, .int .u64 m] w fun e w' => e = .returned (.pointer (some ⟨w.heap.size, 0, none⟩)) ∧
      ∃ g cap, IsRot w' w.heap.size g cap tA n tB m (n + m) ∧ Below w.heap.size w w' := by
  go_enter Try.func9, Try.ntmps9
  go_wp2_with (go_at_call 8; refine (Tab.zznew_any _ _ _).mono ?_; rintro e w' ⟨rfl, rfl⟩)
  refine (addPart_any w.heap.size 0 _ _ (.slice none 0 0) _ [] 0 tA 0 0 n _ (heap_alloc_new w _) (World.ownsRow_nil _ _ _ _) (by omega)).mono ?_
  rintro e w1 ⟨rfl, g1, cap1, hb1, ho1, hbel1⟩
  go_wp2_with fail
  refine (addPart_any w.heap.size 1 _ _ _ _ _ 0 tB 0 0 m _ hb1 ho1 (by omega)).mono ?_
  rintro e w2 ⟨rfl, g2, cap2, hb2, ho2, hbel2⟩
  clear hb1 ho1
  go_wp2_with fail
  refine (addPart_any w.heap.size 2 _ _ _ _ _ 1 0 0 1 (n + m) _ hb2 ho2 (by omega)).mono ?_
  rintro e w3 ⟨rfl, g3, cap3, hb3, ho3, hbel3⟩
  clear hb2 ho2
  have HB : Hid (w3.heap[w.heap.size]? = some (.cells #[.int .u64 (n + m), .int .i64 2, .slice (some ⟨g3, 0, none⟩) 3 cap3, .slice none 0 0] 38 (0, 0))) := hb3
  have HO : Hid (w3.ownsRow (w.heap.size + 1) 43 5 (.slice (some ⟨g3, 0, none⟩) 3 cap3) 3 (planCells tA n tB m (n + m))) := ho3
  clear hb3 ho3
  go_wp2
  go_ret
  refine ⟨rfl, g3, cap3, ⟨(cell4 HB.out).1, (cell4 HB.out).2.1, isPlan_of_owns HO.out⟩, ?_⟩
  exact (((Below.refl _ w).alloc (Nat.le_refl _) _).trans hbel1).trans (hbel2.trans hbel3)
end Go.Proofs.Qxb6609388a.Sp
