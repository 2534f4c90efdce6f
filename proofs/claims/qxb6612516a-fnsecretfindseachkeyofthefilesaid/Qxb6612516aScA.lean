/- WALKS of the two size guards. -/
import Derived.Test.Qxb6612516aRows
import Derived.WalkKit
import Derived.ProofKit
import Derived.Below
import Derived.RegionTactic
import Derived.Deep.QuietTactic
import Derived.BigQuiet
import Derived.Outline
import Derived.WalkSpells
import Derived.OneCell
import Derived.OwnWalk
import Derived.Deep.OwnRows
namespace Go.Proofs.Qxb6612516a.Sc
open Go.RowKit

/-- A key: its id; its secret's slice value. -/
structure Kd where
  id : ByteArray
  sa : Option Addr
  sl : Nat
  sc : Nat
theorem cell_below {w w' : World} (hb : Below w.heap.size w w') {a : Addr} {v : Value} (h : w.cell? a = some v) : w'.cell? a = some v :=
  (hb.cell (World.block_lt_of_cell? w a h)).trans h
theorem below_drewN {B : Nat} {a w : World} (h : Below B a w) (n : Nat) : Below B a (w.drewN n) := h.trans ⟨rfl, rfl, rfl, Nat.le_refl _, fun _ _ => rfl⟩
theorem ret_bool {a b : Bool} (h : a = b) : Ending.returned (.bool a) = .returned (.bool b) := by rw [h]

/-- the keys in memory, two cells a key -/
def KeyRow (w : World) (ao : Option Addr) (ks : List Kd) : Prop :=
  ∀ i (h : i < ks.length), ∃ b off, ao = some ⟨b, off, none⟩ ∧ w.cell? ⟨b, off + i * 2, none⟩ = some (.string ks[i].id) ∧ w.cell? ⟨b, off + i * 2 + 1, none⟩ = some (.slice ks[i].sa ks[i].sl ks[i].sc)
theorem KeyRow.below {w w' : World} (hb : Below w.heap.size w w') {ao : Option Addr} {ks : List Kd} (h : KeyRow w ao ks) : KeyRow w' ao ks := fun i hi => by
  obtain ⟨b, off, h1, h2, h3⟩ := h i hi
  exact ⟨b, off, h1, cell_below hb h2, cell_below hb h3⟩

def BytesSay (n : Nat) (e : Ending) : Prop := ∃ b, e = .returned (.bool b) ∧ (b = true → n ≤ 1048576)
set_option maxHeartbeats 4000000 in
theorem bytes_any (ao : Option Addr) (cap : Nat) (ks : List Kd) (probe : ByteArray) (w : World) (hk : KeyRow w ao ks) (hl : ks.length ≤ maxLen) :
    Calls Try.prog 4 #[.slice ao ks.length cap, .string probe] w fun e w' => BytesSay ks.length e ∧ w = w' := by
  have HK : Hid (KeyRow w ao ks) := hk
  clear hk
  unfold maxLen at hl
  by_cases n1 : 1048576 < ks.length
  · go_enter Try.func4, Try.ntmps4
    go_wp2
    go_ret
    exact ⟨⟨_, rfl, fun h => by cases h⟩, rfl⟩
  have n1' : ks.length ≤ 1048576 := by omega
  clear n1
  go_enter Try.func4, Try.ntmps4
  go_wp2
  go_loop [5, 6] (fun t i => ∃ (k : Nat) (z : Int), k ≤ ks.length ∧ i = .int .i64 k ∧ t = .int .i64 z ∧ 0 ≤ z ∧ z ≤ 1048576) (fun _ i => ks.length - (intOf i).toNat)
  case atStart => exact ⟨0, _, Nat.zero_le _, rfl, rfl, by omega, by omega⟩
  case round =>
    obtain ⟨k, z, hk, rfl, rfl, z0, z1⟩ := hrel
    by_cases hlt : k < ks.length
    · obtain ⟨b, off, rfl, hc, hd⟩ := HK.out k hlt
      generalize ks[k].id = s at *
      generalize ks[k].sa = sa at *
      generalize ks[k].sl = sl at *
      generalize ks[k].sc = sc at *
      by_cases h1 : 1048576 < s.size
      · go_wp2
        go_ret
        exact ⟨⟨_, rfl, fun h => by cases h⟩, rfl⟩
      by_cases h2 : 1048576 < z + s.size
      · go_wp2
        go_ret
        exact ⟨⟨_, rfl, fun h => by cases h⟩, rfl⟩
      by_cases h3 : 1048576 < sl
      · go_wp2
        go_ret
        exact ⟨⟨_, rfl, fun h => by cases h⟩, rfl⟩
      by_cases h4 : 1048576 < z + s.size + sl
      · go_wp2
        go_ret
        exact ⟨⟨_, rfl, fun h => by cases h⟩, rfl⟩
      · go_wp2
        go_round
        case rel => exact ⟨k + 1, _, by omega, by go_num, rfl, by omega, by omega⟩
        case measure => simp [intOf]; omega
    · by_cases h1 : 1048576 < probe.size
      · go_wp2
        go_ret
        exact ⟨⟨_, rfl, fun h => by cases h⟩, rfl⟩
      by_cases h2 : 1048576 < z + probe.size
      · go_wp2
        go_ret
        exact ⟨⟨_, rfl, fun h => by cases h⟩, rfl⟩
      · go_wp2
        go_ret
        exact ⟨⟨_, rfl, fun _ => n1'⟩, rfl⟩

def IntSay (e : Ending) : Prop := ∃ t : Int, e = .returned (.int .i64 t) ∧ 0 ≤ t ∧ t ≤ 1048577
set_option maxHeartbeats 4000000 in
theorem size_any (ao : Option Addr) (cap : Nat) (ks : List Kd) (w : World) (hk : KeyRow w ao ks) (hl : ks.length ≤ 1048576) :
    Calls Try.prog 5 #[.slice ao ks.length cap] w fun e w' => IntSay e ∧ ∃ n, w' = w.drewN n := by
  have HK : Hid (KeyRow w ao ks) := hk
  clear hk
  go_enter Try.func5, Try.ntmps5
  go_wp2
  go_loopw [3, 4] (fun t i wr => ∃ (k : Nat) (z : Int) (j : Nat), k ≤ ks.length ∧ i = .int .i64 k ∧ t = .int .i64 z ∧ 0 ≤ z ∧ z ≤ 1048576 ∧ wr = w.drewN j) (fun _ i _ => ks.length - (intOf i).toNat)
  case atStart => exact ⟨0, _, 0, Nat.zero_le _, rfl, rfl, by omega, by omega, rfl⟩
  case round =>
    obtain ⟨k, z, j, hk, rfl, rfl, z0, z1, rfl⟩ := hrel
    by_cases hlt : k < ks.length
    · obtain ⟨b, off, rfl, hc, hd⟩ := HK.out k hlt
      have hki : (k : Int) < (ks.length : Int) := by omega
      generalize ks[k].id = s at *
      generalize ks[k].sa = sa at *
      generalize ks[k].sl = sl at *
      generalize ks[k].sc = sc at *
      by_cases h1 : 1048576 < s.size
      · go_wp2
        go_ret
        exact ⟨⟨_, rfl, by omega, by omega⟩, _, rfl⟩
      by_cases h3 : 1048576 < sl
      · go_wp2
        go_ret
        exact ⟨⟨_, rfl, by omega, by omega⟩, _, rfl⟩
      by_cases h4 : 1048576 < z + 40 + s.size + sl
      · go_wp2
        go_quiet (fail)
        go_wp2
        go_ret
        exact ⟨⟨_, rfl, by omega, by omega⟩, _, rfl⟩
      · go_wp2
        go_quiet (fail)
        go_wp2
        go_roundw
        case rel => exact ⟨k + 1, _, _, by omega, by go_num, rfl, by omega, by omega, rfl⟩
        case measure => simp [intOf]; omega
    · go_wp2
      go_ret
      exact ⟨⟨_, rfl, by omega, by omega⟩, _, rfl⟩
end Go.Proofs.Qxb6612516a.Sc
