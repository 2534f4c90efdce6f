/- WALKS of the closure in 'extracts', slices.IndexFunc, slices.ContainsFunc, extracts. -/
import Derived.Test.Qxb6612196aRows
import Derived.WalkKit
import Derived.ProofKit
import Derived.Below
import Derived.RegionTactic
import Derived.Deep.QuietTactic
import Derived.BigQuiet
import Derived.Outline
import Derived.WalkSpells
import Derived.Test.Qxb6612196aExPlain
namespace Go.Proofs.Qxb6612196a.Ex
open Go.RowKit ExPlain

theorem ret_int {k : IntKind} {a b : Int} (h : a = b) : Ending.returned (.int k a) = .returned (.int k b) := by rw [h]
theorem ret_bool {a b : Bool} (h : a = b) : Ending.returned (.bool a) = .returned (.bool b) := by rw [h]

set_option maxHeartbeats 400000 in
theorem same_any (e ab : Nat) (s arch : ByteArray) (w : World) (h0 : w.cell? ⟨e, 0, none⟩ = some (.string s)) (h1 : w.cell? ⟨ab, 0, none⟩ = some (.string arch)) :
    Calls Try.prog 10 #[.pointer (some ⟨e, 0, none⟩), .pointer (some ⟨ab, 0, none⟩)] w fun e w' => e = .returned (.bool (s.toList == arch.toList)) ∧ ∃ n, w' = w.drewN n := by
  go_enter Try.func10, Try.ntmps10
  go_wp2
  go_quiet (fail)
  go_wp2
  go_ret
  exact ⟨rfl, _, rfl⟩

/-- A slice of pointers to nodes, each node's first cell a string. -/
def PtrStrs (w : World) (ao : Option Addr) (ol : List ByteArray) : Prop :=
  ∀ i (h : i < ol.length), ∃ g e, ao = some ⟨g, 0, none⟩ ∧ w.cell? ⟨g, i, none⟩ = some (.pointer (some ⟨e, 0, none⟩)) ∧ w.cell? ⟨e, 0, none⟩ = some (.string ol[i])

set_option maxHeartbeats 1000000 in
theorem index_any (ao : Option Addr) (cap ab : Nat) (ol : List ByteArray) (arch : ByteArray) (w : World) (hp : PtrStrs w ao ol) (hab : w.cell? ⟨ab, 0, none⟩ = some (.string arch)) (hl : ol.length ≤ 1099511627776) :
    Calls Try.prog 11 #[.slice ao ol.length cap, .func (Fn.func 10) #[] #[.pointer (some ⟨ab, 0, none⟩)]] w fun e w' => (∃ r : Int, e = .returned (.int .i64 r) ∧ decide (0 ≤ r) = hasS ol arch) ∧ ∃ n, w' = w.drewN n := by
  have HP : Hid (PtrStrs w ao ol) := hp
  clear hp
  go_enter Try.func11, Try.ntmps11
  go_wp2
  go_loopw [8] (fun i wr => ∃ (k j : Nat), k ≤ ol.length ∧ i = .int .i64 k ∧ Hid (hasS (ol.take k) arch = false) ∧ wr = w.drewN j) (fun i _ => ol.length - (intOf i).toNat)
  case atStart => exact ⟨0, 0, Nat.zero_le _, rfl, hasS_take_zero _ _, rfl⟩
  case round =>
    obtain ⟨k, j, hk, rfl, hm, rfl⟩ := hrel
    by_cases hlt : k < ol.length
    · obtain ⟨g, e, rfl, c1, c2⟩ := HP.out k hlt
      cases he : (ol[k].toList == arch.toList)
      · have HM := hasS_miss ol arch k hlt he hm.out
        have HE : Hid ((ol[k].toList == arch.toList) = false) := he
        clear he
        go_wp2_with (go_at_call 10; refine (same_any e ab ol[k] arch _ (by exact c2) (by exact hab)).mono ?_; rintro e w1 ⟨rfl, j2, rfl⟩; rw [HE.out])
        go_roundw
        case rel => exact ⟨k + 1, _, by omega, by go_num, HM, rfl⟩
        case measure => simp [intOf]; omega
      · have HM : Hid (hasS ol arch = true) := hasS_hit ol arch k hlt he
        have HE : Hid ((ol[k].toList == arch.toList) = true) := he
        clear he
        go_wp2_with (go_at_call 10; refine (same_any e ab ol[k] arch _ (by exact c2) (by exact hab)).mono ?_; rintro e w1 ⟨rfl, j2, rfl⟩; rw [HE.out])
        go_ret
        exact ⟨⟨_, rfl, by rw [HM.out]; simp⟩, _, rfl⟩
    · have HM : Hid (hasS ol arch = false) := hasS_end ol arch k (by omega) hm.out
      go_wp2
      go_ret
      exact ⟨⟨-1, rfl, by rw [HM.out]; decide⟩, _, rfl⟩

set_option maxHeartbeats 1000000 in
theorem contains_any (ao : Option Addr) (cap ab : Nat) (ol : List ByteArray) (arch : ByteArray) (w : World) (hp : PtrStrs w ao ol) (hab : w.cell? ⟨ab, 0, none⟩ = some (.string arch)) (hl : ol.length ≤ 1099511627776) :
    Calls Try.prog 9 #[.slice ao ol.length cap, .func (Fn.func 10) #[] #[.pointer (some ⟨ab, 0, none⟩)]] w fun e w' => e = .returned (.bool (hasS ol arch)) ∧ ∃ n, w' = w.drewN n := by
  have HP : Hid (PtrStrs w ao ol) := hp
  clear hp
  go_enter Try.func9, Try.ntmps9
  go_wp2_with (go_at_call 11; refine (index_any ao cap ab ol arch _ HP.out hab hl).mono ?_; rintro e w1 ⟨⟨r, rfl, hr⟩, n, rfl⟩; have HR : Hid (decide (0 ≤ r) = hasS ol arch) := hr; clear hr)
  go_ret
  exact ⟨ret_bool (Hid.out (by assumption)), _, rfl⟩

/-- A meta line in memory: its name, its options. -/
def MetaIs (w : World) (p : Nat) (nm : ByteArray) (ol : List ByteArray) : Prop :=
  w.cell? ⟨p, 0, none⟩ = some (.string nm) ∧ ∃ ao cap, w.cell? ⟨p, 5, none⟩ = some (.slice ao ol.length cap) ∧ PtrStrs w ao ol ∧ ol.length ≤ 1099511627776
def MetasIs (w : World) (ao : Option Addr) (ls : List Line) : Prop :=
  ∀ i (h : i < ls.length), ∃ g p, ao = some ⟨g, 0, none⟩ ∧ w.cell? ⟨g, i, none⟩ = some (.pointer (some ⟨p, 0, none⟩)) ∧ MetaIs w p ls[i].1 ls[i].2

theorem cell_below {w w' : World} (hb : Below w.heap.size w w') {a : Addr} {v : Value} (h : w.cell? a = some v) : w'.cell? a = some v :=
  (hb.cell (World.block_lt_of_cell? w a h)).trans h
theorem PtrStrs.below {w w' : World} (hb : Below w.heap.size w w') {ao : Option Addr} {ol : List ByteArray} (h : PtrStrs w ao ol) : PtrStrs w' ao ol := fun i hi => by
  obtain ⟨g, e, h1, h2, h3⟩ := h i hi
  exact ⟨g, e, h1, cell_below hb h2, cell_below hb h3⟩
theorem MetaIs.below {w w' : World} (hb : Below w.heap.size w w') {p : Nat} {nm : ByteArray} {ol : List ByteArray} (h : MetaIs w p nm ol) : MetaIs w' p nm ol := by
  obtain ⟨h1, ao, cap, h2, h3, h4⟩ := h
  exact ⟨cell_below hb h1, ao, cap, cell_below hb h2, h3.below hb, h4⟩
theorem MetasIs.below {w w' : World} (hb : Below w.heap.size w w') {ao : Option Addr} {ls : List Line} (h : MetasIs w ao ls) : MetasIs w' ao ls := fun i hi => by
  obtain ⟨g, p, h1, h2, h3⟩ := h i hi
  exact ⟨g, p, h1, cell_below hb h2, h3.below hb⟩
theorem below_drewN {B : Nat} {a w : World} (h : Below B a w) (n : Nat) : Below B a (w.drewN n) := h.trans ⟨rfl, rfl, rfl, Nat.le_refl _, fun _ _ => rfl⟩

set_option maxHeartbeats 1000000 in
theorem extracts_any (D cap : Nat) (ao : Option Addr) (ls : List Line) (arch : ByteArray) (w : World) (hD : w.cell? ⟨D, 4, none⟩ = some (.slice ao ls.length cap)) (hm : MetasIs w ao ls) (hl : ls.length ≤ 1099511627776) :
    Calls Try.prog 8 #[.pointer (some ⟨D, 0, none⟩), .string arch] w fun e w' => e = .returned (.bool (ext ls arch)) ∧ Below w.heap.size w w' := by
  have hb : Below w.heap.size w (w.alloc (.cells #[.string arch] 9)) := (Below.refl _ _).alloc (Nat.le_refl _) _
  have hD' := cell_below hb hD
  have HM : Hid (MetasIs (w.alloc (.cells #[.string arch] 9)) ao ls) := hm.below hb
  have hab : (w.alloc (.cells #[.string arch] 9)).cell? ⟨w.heap.size, 0, none⟩ = some (.string arch) := by simp
  have HB : Hid (Below w.heap.size w (w.alloc (.cells #[.string arch] 9))) := hb
  clear hm hD hb
  go_enter Try.func8, Try.ntmps8
  go_wp2
  go_loopw [12] (fun i wr => ∃ (k j : Nat), k ≤ ls.length ∧ i = .int .i64 k ∧ Hid (ext (ls.take k) arch = true) ∧ wr = (w.alloc (.cells #[.string arch] 9)).drewN j) (fun i _ => ls.length - (intOf i).toNat)
  case atStart => exact ⟨0, 0, Nat.zero_le _, rfl, ext_zero _ _, rfl⟩
  case round =>
    obtain ⟨k, j, hk, rfl, hx, rfl⟩ := hrel
    by_cases hlt : k < ls.length
    · obtain ⟨g, p, rfl, c1, c2, ao2, cap2, c3, hp, hl2⟩ := HM.out k hlt
      have HP : Hid (PtrStrs (w.alloc (.cells #[.string arch] 9)) ao2 ls[k].2) := hp
      have HG : Hid (okL ls[k].1 ls[k].2 arch = true → ext (ls.take (k + 1)) arch = true) := fun h => ext_good ls arch k hlt h hx.out
      have HX : Hid (okL ls[k].1 ls[k].2 arch = false → ext ls arch = false) := fun h => ext_bad ls arch k hlt h
      clear hp
      obtain ⟨nm, ol, hls⟩ : ∃ nm ol, ls[k] = (nm, ol) := ⟨_, _, rfl⟩
      rw [hls] at c2 c3 HP HG HX hl2
      clear hls
      simp only at c2 c3 HP HG HX hl2
      cases b1 : (nm.toList == [110, 111, 101, 120, 116, 114, 97, 99, 116])
      · cases b2 : (nm.toList == [97, 114, 99, 104, 101, 115])
        · have HE := HG.out (by simp [okL, noW, arW, b1, b2])
          clear HX HG
          go_wp2
          go_roundw
          case rel => exact ⟨k + 1, _, by omega, by go_num, HE, rfl⟩
          case measure => simp [intOf]; omega
        · cases b3 : hasS ol arch
          · have HE : Hid (ext ls arch = false) := HX.out (by simp [okL, b3, arW, b2])
            have H3 : Hid (hasS ol arch = false) := b3
            clear HX HG b3
            go_wp2_with (go_at_call 9; refine (contains_any ao2 cap2 w.heap.size ol arch _ (by exact HP.out) (by exact hab) hl2).mono ?_; rintro e w1 ⟨rfl, j2, rfl⟩; rw [H3.out])
            go_ret
            exact ⟨ret_bool HE.out.symm, below_drewN HB.out _⟩
          · have HE := HG.out (by simp [okL, b3, noW, b1])
            have H3 : Hid (hasS ol arch = true) := b3
            clear HX HG b3
            go_wp2_with (go_at_call 9; refine (contains_any ao2 cap2 w.heap.size ol arch _ (by exact HP.out) (by exact hab) hl2).mono ?_; rintro e w1 ⟨rfl, j2, rfl⟩; rw [H3.out])
            go_roundw
            case rel => exact ⟨k + 1, _, by omega, by go_num, HE, rfl⟩
            case measure => simp [intOf]; omega
      · have HE : Hid (ext ls arch = false) := HX.out (by simp [okL, noW, b1])
        clear HX HG
        go_wp2
        go_ret
        exact ⟨ret_bool HE.out.symm, below_drewN HB.out _⟩
    · have HX : Hid (ext ls arch = true) := ext_end ls arch k (by omega) hx.out
      go_wp2
      go_ret
      exact ⟨ret_bool HX.out.symm, below_drewN HB.out _⟩
end Go.Proofs.Qxb6612196a.Ex
