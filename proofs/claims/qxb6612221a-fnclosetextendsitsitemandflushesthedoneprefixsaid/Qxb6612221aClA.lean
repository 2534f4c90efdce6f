/- WALKS of the size guards on the road of 'FnCloseText..'. -/
import Derived.Test.Qxb6612221aRows
import Derived.WalkKit
import Derived.ProofKit
import Derived.Below
import Derived.RegionTactic
import Derived.Deep.QuietTactic
import Derived.BigQuiet
import Derived.Outline
import Derived.WalkSpells
import Derived.OneCell
import Derived.OwnWalk
namespace Go.Proofs.Qxb6612221a.Cl
open Go.RowKit

/-- An announced item as plain data. -/
structure Sl where
  id : ByteArray
  ty : ByteArray
  dn : Bool
theorem cell_below {w w' : World} (hb : Below w.heap.size w w') {a : Addr} {v : Value} (h : w.cell? a = some v) : w'.cell? a = some v :=
  (hb.cell (World.block_lt_of_cell? w a h)).trans h
theorem below_drewN {B : Nat} {a w : World} (h : Below B a w) (n : Nat) : Below B a (w.drewN n) := h.trans ⟨rfl, rfl, rfl, Nat.le_refl _, fun _ _ => rfl⟩
theorem ret_bool {a b : Bool} (h : a = b) : Ending.returned (.bool a) = .returned (.bool b) := by rw [h]
def StrRow (w : World) (ao : Option Addr) (ss : List ByteArray) : Prop :=
  ∀ i (h : i < ss.length), ∃ b off, ao = some ⟨b, off, none⟩ ∧ w.cell? ⟨b, off + i, none⟩ = some (.string ss[i])
theorem StrRow.below {w w' : World} (hb : Below w.heap.size w w') {ao : Option Addr} {ss : List ByteArray} (h : StrRow w ao ss) : StrRow w' ao ss := fun i hi => by
  obtain ⟨b, off, h1, h2⟩ := h i hi
  exact ⟨b, off, h1, cell_below hb h2⟩
/-- the slots in memory, three cells a slot -/
def SlotRow (w : World) (ao : Option Addr) (os : List Sl) : Prop :=
  ∀ i (h : i < os.length), ∃ b off, ao = some ⟨b, off, none⟩ ∧ w.cell? ⟨b, off + i * 3, none⟩ = some (.string os[i].id) ∧ w.cell? ⟨b, off + i * 3 + 1, none⟩ = some (.string os[i].ty) ∧ w.cell? ⟨b, off + i * 3 + 2, none⟩ = some (.bool os[i].dn)
theorem SlotRow.below {w w' : World} (hb : Below w.heap.size w w') {ao : Option Addr} {os : List Sl} (h : SlotRow w ao os) : SlotRow w' ao os := fun i hi => by
  obtain ⟨b, off, h1, h2, h3, h4⟩ := h i hi
  exact ⟨b, off, h1, cell_below hb h2, cell_below hb h3, cell_below hb h4⟩

def BytesSay (n m : Nat) (e : Ending) : Prop := ∃ b, e = .returned (.bool b) ∧ (b = true → n ≤ 1048576 ∧ m ≤ 1048576)
set_option maxRecDepth 100000 in
set_option maxHeartbeats 4000000 in
theorem bytes_any (ao bo : Option Addr) (ca cb : Nat) (ss : List ByteArray) (os : List Sl) (j nx : Int) (kd tx st : ByteArray) (pt sm : Bool) (w : World) (hs : StrRow w ao ss) (ho : SlotRow w bo os) (hl : ss.length ≤ maxLen) (hl2 : os.length ≤ maxLen) :
    Calls Try.prog 8 #[.slice ao ss.length ca, .slice bo os.length cb, .int .i64 j, .string kd, .bool pt, .bool sm, .int .i64 nx, .string tx, .string st] w fun e w' => BytesSay ss.length os.length e ∧ w = w' := by
  have HS : Hid (StrRow w ao ss) := hs
  have HO : Hid (SlotRow w bo os) := ho
  clear hs ho
  unfold maxLen at hl hl2
  by_cases n1 : 1048576 < ss.length
  · go_enter Try.func8, Try.ntmps8
    go_wp2
    go_ret
    exact ⟨⟨_, rfl, fun h => by cases h⟩, rfl⟩
  have n1' : ss.length ≤ 1048576 := by omega
  clear n1
  go_enter Try.func8, Try.ntmps8
  go_wp2
  go_loop [19, 20] (fun t i => ∃ (k : Nat) (z : Int), k ≤ ss.length ∧ i = .int .i64 k ∧ t = .int .i64 z ∧ 0 ≤ z ∧ z ≤ 1048576) (fun _ i => ss.length - (intOf i).toNat)
  case atStart => exact ⟨0, _, Nat.zero_le _, rfl, rfl, by omega, by omega⟩
  case round =>
    obtain ⟨k, z, hk, rfl, rfl, z0, z1⟩ := hrel
    by_cases hlt : k < ss.length
    · obtain ⟨b, off, rfl, hc⟩ := HS.out k hlt
      generalize ss[k] = s at *
      by_cases h1 : 1048576 < s.size
      · go_wp2
        go_ret
        exact ⟨⟨_, rfl, fun h => by cases h⟩, rfl⟩
      by_cases h2 : 1048576 < z + s.size
      · go_wp2
        go_ret
        exact ⟨⟨_, rfl, fun h => by cases h⟩, rfl⟩
      · go_wp2
        go_round
        case rel => exact ⟨k + 1, _, by omega, by go_num, rfl, by omega, by omega⟩
        case measure => simp [intOf]; omega
    · by_cases r1 : 1048576 < os.length
      · go_wp2
        go_ret
        exact ⟨⟨_, rfl, fun h => by cases h⟩, rfl⟩
      by_cases r2 : 1048576 < z + os.length
      · go_wp2
        go_ret
        exact ⟨⟨_, rfl, fun h => by cases h⟩, rfl⟩
      have r1' : os.length ≤ 1048576 := by omega
      go_wp2
      go_loop [19, 21] (fun t i => ∃ (k : Nat) (z : Int), k ≤ os.length ∧ i = .int .i64 k ∧ t = .int .i64 z ∧ 0 ≤ z ∧ z ≤ 1048576) (fun _ i => os.length - (intOf i).toNat)
      case atStart => exact ⟨0, _, Nat.zero_le _, rfl, rfl, by omega, by omega⟩
      case round =>
        obtain ⟨q, y, hq, rfl, rfl, y0, y1⟩ := hrel
        by_cases hqt : q < os.length
        · obtain ⟨b, off, rfl, hc, hd, -⟩ := HO.out q hqt
          generalize os[q].id = s at *
          generalize os[q].ty = s2 at *
          by_cases h1 : 1048576 < s.size
          · go_wp2
            go_ret
            exact ⟨⟨_, rfl, fun h => by cases h⟩, rfl⟩
          by_cases h2 : 1048576 < y + s.size
          · go_wp2
            go_ret
            exact ⟨⟨_, rfl, fun h => by cases h⟩, rfl⟩
          by_cases h3 : 1048576 < s2.size
          · go_wp2
            go_ret
            exact ⟨⟨_, rfl, fun h => by cases h⟩, rfl⟩
          by_cases h4 : 1048576 < y + s.size + s2.size
          · go_wp2
            go_ret
            exact ⟨⟨_, rfl, fun h => by cases h⟩, rfl⟩
          · go_wp2
            go_round
            case rel => exact ⟨q + 1, _, by omega, by go_num, rfl, by omega, by omega⟩
            case measure => simp [intOf]; omega
        · by_cases h1 : 1048576 < kd.size
          · go_wp2
            go_ret
            exact ⟨⟨_, rfl, fun h => by cases h⟩, rfl⟩
          by_cases h2 : 1048576 < y + kd.size
          · go_wp2
            go_ret
            exact ⟨⟨_, rfl, fun h => by cases h⟩, rfl⟩
          by_cases h3 : 1048576 < tx.size
          · go_wp2
            go_ret
            exact ⟨⟨_, rfl, fun h => by cases h⟩, rfl⟩
          by_cases h4 : 1048576 < y + kd.size + tx.size
          · go_wp2
            go_ret
            exact ⟨⟨_, rfl, fun h => by cases h⟩, rfl⟩
          by_cases h5 : 1048576 < st.size
          · go_wp2
            go_ret
            exact ⟨⟨_, rfl, fun h => by cases h⟩, rfl⟩
          by_cases h6 : 1048576 < y + kd.size + tx.size + st.size
          · go_wp2
            go_ret
            exact ⟨⟨_, rfl, fun h => by cases h⟩, rfl⟩
          · go_wp2
            go_ret
            exact ⟨⟨_, rfl, fun _ => ⟨n1', r1'⟩⟩, rfl⟩
end Go.Proofs.Qxb6612221a.Cl
