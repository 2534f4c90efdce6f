/- THE WALKS of the two size guards and of 'argsAt'. -/
import Derived.Test.Qxb6612196aExMem
namespace Go.Proofs.Qxb6612196a.Ex
open Go.RowKit ExPlain

/-- as 'RowRow', with nothing said of the rows' lengths -/
def RowRow0 (w : World) (ao : Option Addr) (rs : List (List ByteArray)) : Prop :=
  ∀ i (h : i < rs.length), ∃ b off ai ci, ao = some ⟨b, off, none⟩ ∧ w.cell? ⟨b, off + i, none⟩ = some (.slice ai rs[i].length ci) ∧ StrRow w ai rs[i] ∧ rs[i].length ≤ maxLen
theorem RowRow0.up {w : World} {ao : Option Addr} {rs : List (List ByteArray)} (h : RowRow0 w ao rs) (hl : ∀ i (h : i < rs.length), rs[i].length ≤ 1048576) : RowRow w ao rs := fun i hi => by
  obtain ⟨b, off, ai, ci, h1, h2, h3, _⟩ := h i hi
  exact ⟨b, off, ai, ci, h1, h2, h3, by have := hl i hi; omega⟩

/-- what the guard's answer tells -/
def BytesSay (ns : List ByteArray) (rs : List (List ByteArray)) (e : Ending) : Prop :=
  ∃ b, e = .returned (.bool b) ∧ (b = true → ns.length ≤ 1048576 ∧ rs.length ≤ 1048576 ∧ ∀ i (h : i < rs.length), rs[i].length ≤ 1048576)
set_option maxHeartbeats 4000000 in
theorem bytes_any (an ar : Option Addr) (cn cr : Nat) (ns : List ByteArray) (rs : List (List ByteArray)) (arch : ByteArray) (w : World) (hn : StrRow w an ns) (hr : RowRow0 w ar rs) (hnl : ns.length ≤ maxLen) (hrl : rs.length ≤ maxLen) :
    Calls Try.prog 4 #[.slice an ns.length cn, .slice ar rs.length cr, .string arch] w fun e w' => BytesSay ns rs e ∧ w' = w := by
  have HN : Hid (StrRow w an ns) := hn
  have HR : Hid (RowRow0 w ar rs) := hr
  clear hn hr
  unfold maxLen at hnl hrl
  by_cases n1 : 1048576 < ns.length
  · go_enter Try.func4, Try.ntmps4
    go_wp2
    go_ret
    exact ⟨⟨_, rfl, fun h => by cases h⟩, rfl⟩
  have n1' : ns.length ≤ 1048576 := by omega
  clear n1
  go_enter Try.func4, Try.ntmps4
  go_wp2
  go_loop [7, 8] (fun t i => ∃ (k : Nat) (z : Int), k ≤ ns.length ∧ i = .int .i64 k ∧ t = .int .i64 z ∧ 0 ≤ z ∧ z ≤ 1048576) (fun _ i => ns.length - (intOf i).toNat)
  case atStart => exact ⟨0, _, Nat.zero_le _, rfl, rfl, by omega, by omega⟩
  case round =>
    obtain ⟨k, z, hk, rfl, rfl, z0, z1⟩ := hrel
    by_cases hlt : k < ns.length
    · obtain ⟨b, off, rfl, hc⟩ := HN.out k hlt
      generalize ns[k] = s at *
      by_cases hs : 1048576 < s.size
      · go_wp2
        go_ret
        exact ⟨⟨_, rfl, fun h => by cases h⟩, rfl⟩
      by_cases hs2 : 1048576 < z + s.size
      · go_wp2
        go_ret
        exact ⟨⟨_, rfl, fun h => by cases h⟩, rfl⟩
      · go_wp2
        go_round
        case rel => exact ⟨k + 1, _, by omega, by go_num, rfl, by omega, by omega⟩
        case measure => simp [intOf]; omega
    · by_cases r1 : 1048576 < rs.length
      · go_wp2
        go_ret
        exact ⟨⟨_, rfl, fun h => by cases h⟩, rfl⟩
      by_cases r2 : 1048576 < z + rs.length
      · go_wp2
        go_ret
        exact ⟨⟨_, rfl, fun h => by cases h⟩, rfl⟩
      have r1' : rs.length ≤ 1048576 := by omega
      go_wp2
      go_loop [7, 9] (fun t i => ∃ (q : Nat) (z : Int), q ≤ rs.length ∧ i = .int .i64 q ∧ t = .int .i64 z ∧ 0 ≤ z ∧ z ≤ 1048576 ∧ Hid (∀ i (h : i < rs.length), i < q → rs[i].length ≤ 1048576)) (fun _ i => rs.length - (intOf i).toNat)
      case atStart => exact ⟨0, _, Nat.zero_le _, rfl, rfl, by omega, by omega, fun i h h0 => absurd h0 (by omega)⟩
      case round =>
        obtain ⟨q, z2, hq, rfl, rfl, y0, y1, HQ⟩ := hrel
        by_cases hqt : q < rs.length
        · obtain ⟨b, off, ai, ci, rfl, hd, hd2, hd3⟩ := HR.out q hqt
          have HS : Hid (StrRow w ai rs[q]) := hd2
          have HL : Hid (rs[q].length ≤ 1048576 → ∀ i (h : i < rs.length), i < q + 1 → rs[i].length ≤ 1048576) := by
            intro h0 i h h1
            by_cases e : i = q
            · subst e; exact h0
            · exact HQ.out i h (by omega)
          clear hd2
          generalize rs[q] = r at *
          unfold maxLen at hd3
          by_cases s1 : 1048576 < r.length
          · go_wp2
            go_ret
            exact ⟨⟨_, rfl, fun h => by cases h⟩, rfl⟩
          by_cases s2 : 1048576 < z2 + r.length
          · go_wp2
            go_ret
            exact ⟨⟨_, rfl, fun h => by cases h⟩, rfl⟩
          have HL2 := HL.out (by omega)
          clear HL
          go_wp2
          go_loop [7, 10] (fun t i => ∃ (j : Nat) (z : Int), j ≤ r.length ∧ i = .int .i64 j ∧ t = .int .i64 z ∧ 0 ≤ z ∧ z ≤ 1048576) (fun _ i => r.length - (intOf i).toNat)
          case atStart => exact ⟨0, _, Nat.zero_le _, rfl, rfl, by omega, by omega⟩
          case round =>
            obtain ⟨j, z3, hj, rfl, rfl, x0, x1⟩ := hrel
            by_cases hjt : j < r.length
            · obtain ⟨b3, off3, rfl, hc3⟩ := HS.out j hjt
              generalize r[j] = s at *
              by_cases t1 : 1048576 < s.size
              · go_wp2
                go_ret
                exact ⟨⟨_, rfl, fun h => by cases h⟩, rfl⟩
              by_cases t2 : 1048576 < z3 + s.size
              · go_wp2
                go_ret
                exact ⟨⟨_, rfl, fun h => by cases h⟩, rfl⟩
              · go_wp2
                go_round
                case rel => exact ⟨j + 1, _, by omega, by go_num, rfl, by omega, by omega⟩
                case measure => simp [intOf]; omega
            · go_wp2
              go_round
              case rel => exact ⟨q + 1, _, by omega, by go_num, rfl, x0, x1, HL2⟩
              case measure => simp [intOf]; omega
        · have hqe : q = rs.length := by omega
          have HF : Hid (∀ i (h : i < rs.length), rs[i].length ≤ 1048576) := fun i h => HQ.out i h (by omega)
          clear HQ
          by_cases a1 : 1048576 < arch.size
          · go_wp2
            go_ret
            exact ⟨⟨_, rfl, fun h => by cases h⟩, rfl⟩
          by_cases a2 : 1048576 < z2 + arch.size
          · go_wp2
            go_ret
            exact ⟨⟨_, rfl, fun h => by cases h⟩, rfl⟩
          · go_wp2
            go_ret
            exact ⟨⟨_, rfl, fun _ => ⟨n1', r1', HF.out⟩⟩, rfl⟩

def SomeBool (e : Ending) : Prop := ∃ b, e = .returned (.bool b)
set_option maxHeartbeats 4000000 in
theorem big_any (an ar : Option Addr) (cn cr : Nat) (ns : List ByteArray) (rs : List (List ByteArray)) (arch : ByteArray) (w : World) (hn : StrRow w an ns) (hr : RowRow0 w ar rs) (hnl : ns.length ≤ 1048576) (hrl : rs.length ≤ 1048576) (hrr : ∀ i (h : i < rs.length), rs[i].length ≤ 1048576) :
    Calls Try.prog 5 #[.slice an ns.length cn, .slice ar rs.length cr, .string arch] w fun e w' => SomeBool e ∧ w' = w := by
  have HN : Hid (StrRow w an ns) := hn
  have HR : Hid (RowRow w ar rs) := hr.up hrr
  clear hn hr hrr
  by_cases n1 : 131072 < ns.length
  · go_enter Try.func5, Try.ntmps5
    go_wp2
    go_ret
    exact ⟨⟨_, rfl⟩, rfl⟩
  by_cases n2 : 131072 < rs.length
  · go_enter Try.func5, Try.ntmps5
    go_wp2
    go_ret
    exact ⟨⟨_, rfl⟩, rfl⟩
  by_cases n3 : 1048576 < arch.size
  · go_enter Try.func5, Try.ntmps5
    go_wp2
    go_ret
    exact ⟨⟨_, rfl⟩, rfl⟩
  by_cases n4 : 1048576 < arch.size + 8 * ns.length + 8 * rs.length
  · go_enter Try.func5, Try.ntmps5
    go_wp2
    go_ret
    exact ⟨⟨_, rfl⟩, rfl⟩
  go_enter Try.func5, Try.ntmps5
  go_wp2
  go_loop [7, 8] (fun t i => ∃ (k : Nat) (z : Int), k ≤ ns.length ∧ i = .int .i64 k ∧ t = .int .i64 z ∧ 0 ≤ z ∧ z ≤ 1048576) (fun _ i => ns.length - (intOf i).toNat)
  case atStart => exact ⟨0, _, Nat.zero_le _, rfl, rfl, by omega, by omega⟩
  case round =>
    obtain ⟨k, z, hk, rfl, rfl, z0, z1⟩ := hrel
    by_cases hlt : k < ns.length
    · obtain ⟨b, off, rfl, hc⟩ := HN.out k hlt
      generalize ns[k] = s at *
      by_cases hs : 1048576 < s.size
      · go_wp2
        go_ret
        exact ⟨⟨_, rfl⟩, rfl⟩
      by_cases hs2 : 1048576 < z + s.size
      · go_wp2
        go_ret
        exact ⟨⟨_, rfl⟩, rfl⟩
      · go_wp2
        go_round
        case rel => exact ⟨k + 1, _, by omega, by go_num, rfl, by omega, by omega⟩
        case measure => simp [intOf]; omega
    · go_wp2
      go_loop [7, 9] (fun t i => ∃ (q : Nat) (z : Int), q ≤ rs.length ∧ i = .int .i64 q ∧ t = .int .i64 z ∧ 0 ≤ z ∧ z ≤ 1048576) (fun _ i => rs.length - (intOf i).toNat)
      case atStart => exact ⟨0, _, Nat.zero_le _, rfl, rfl, by omega, by omega⟩
      case round =>
        obtain ⟨q, z2, hq, rfl, rfl, y0, y1⟩ := hrel
        by_cases hqt : q < rs.length
        · obtain ⟨b, off, ai, ci, rfl, hd, hd2, hd3⟩ := HR.out q hqt
          have HS : Hid (StrRow w ai rs[q]) := hd2
          clear hd2
          generalize rs[q] = r at *
          by_cases s1 : 131072 < r.length
          · go_wp2
            go_ret
            exact ⟨⟨_, rfl⟩, rfl⟩
          by_cases s2 : 1048576 < z2 + 8 * r.length
          · go_wp2
            go_ret
            exact ⟨⟨_, rfl⟩, rfl⟩
          go_wp2
          go_loop [7, 10] (fun t i => ∃ (j : Nat) (z : Int), j ≤ r.length ∧ i = .int .i64 j ∧ t = .int .i64 z ∧ 0 ≤ z ∧ z ≤ 1048576) (fun _ i => r.length - (intOf i).toNat)
          case atStart => exact ⟨0, _, Nat.zero_le _, rfl, rfl, by omega, by omega⟩
          case round =>
            obtain ⟨j, z3, hj, rfl, rfl, x0, x1⟩ := hrel
            by_cases hjt : j < r.length
            · obtain ⟨b3, off3, rfl, hc3⟩ := HS.out j hjt
              generalize r[j] = s at *
              by_cases t1 : 1048576 < s.size
              · go_wp2
                go_ret
                exact ⟨⟨_, rfl⟩, rfl⟩
              by_cases t2 : 1048576 < z3 + s.size
              · go_wp2
                go_ret
                exact ⟨⟨_, rfl⟩, rfl⟩
              · go_wp2
                go_round
                case rel => exact ⟨j + 1, _, by omega, by go_num, rfl, by omega, by omega⟩
                case measure => simp [intOf]; omega
            · go_wp2
              go_round
              case rel => exact ⟨q + 1, _, by omega, by go_num, rfl, x0, x1⟩
              case measure => simp [intOf]; omega
        · go_wp2
          go_ret
          exact ⟨⟨_, rfl⟩, rfl⟩

/-- THE OPTIONS OF LINE q: the slice value that 'argsAt' hands back, for every q at once. -/
def ArgsV (w : World) (ar : Option Addr) (rs : List (List ByteArray)) (AV : Nat → Option Addr × Nat) : Prop :=
  ∀ q, (q < rs.length → ∃ b off, ar = some ⟨b, off, none⟩ ∧ w.cell? ⟨b, off + q, none⟩ = some (.slice (AV q).1 (rs.getD q []).length (AV q).2)) ∧
    (rs.length ≤ q → AV q = (none, 0)) ∧ StrRow w (AV q).1 (rs.getD q []) ∧ (rs.getD q []).length ≤ 1048576
theorem argsV_of {w : World} {ar : Option Addr} {rs : List (List ByteArray)} (h : RowRow0 w ar rs) (hl : ∀ i (h : i < rs.length), rs[i].length ≤ 1048576) : ∃ AV, ArgsV w ar rs AV := by
  have each : ∀ q, ∃ p : Option Addr × Nat, (q < rs.length → ∃ b off, ar = some ⟨b, off, none⟩ ∧ w.cell? ⟨b, off + q, none⟩ = some (.slice p.1 (rs.getD q []).length p.2)) ∧
      (rs.length ≤ q → p = (none, 0)) ∧ StrRow w p.1 (rs.getD q []) ∧ (rs.getD q []).length ≤ 1048576 := by
    intro q
    by_cases hq : q < rs.length
    · obtain ⟨b, off, ai, ci, h1, h2, h3, _⟩ := h q hq
      have e : rs.getD q [] = rs[q] := by rw [List.getD_eq_getElem?_getD, List.getElem?_eq_getElem hq]; rfl
      rw [e]
      exact ⟨(ai, ci), fun _ => ⟨b, off, h1, h2⟩, fun hh => by omega, h3, hl q hq⟩
    · have e : rs.getD q [] = [] := by rw [List.getD_eq_getElem?_getD, List.getElem?_eq_none (by omega)]; rfl
      rw [e]
      exact ⟨(none, 0), fun hh => absurd hh hq, fun _ => rfl, fun i hi => absurd hi (by simp), by simp⟩
  exact ⟨fun q => Classical.choose (each q), fun q => Classical.choose_spec (each q)⟩
theorem ArgsV.below {w w' : World} {ar : Option Addr} {rs : List (List ByteArray)} {AV : Nat → Option Addr × Nat} (h : ArgsV w ar rs AV) (hb : Below w.heap.size w w') : ArgsV w' ar rs AV := fun q => by
  obtain ⟨h1, h2, h3, h4⟩ := h q
  refine ⟨fun hq => ?_, h2, h3.below hb, h4⟩
  obtain ⟨b, off, g1, g2⟩ := h1 hq
  exact ⟨b, off, g1, cell_below hb g2⟩

/-- 'argsAt': the slice that lies there, or nil -/
theorem argsAt_any (ar : Option Addr) (cr : Nat) (rs : List (List ByteArray)) (AV : Nat → Option Addr × Nat) (q : Nat) (Z : Int) (hZ : Z = q) (w : World) (hr : ArgsV w ar rs AV) :
    Calls Try.prog 7 #[.slice ar rs.length cr, .int .i64 Z] w fun e w' => e = .returned (.slice (AV q).1 (rs.getD q []).length (AV q).2) ∧ w' = w := by
  subst hZ
  obtain ⟨h1, h2, h3, h4⟩ := hr q
  clear h3 hr
  by_cases h : q < rs.length
  · obtain ⟨b, off, rfl, hd⟩ := h1 h
    clear h1 h2
    generalize (rs.getD q []).length = m at *
    generalize AV q = p at *
    obtain ⟨ai, ci⟩ := p
    simp only at hd ⊢
    go_enter Try.func7, Try.ntmps7
    go_wp2
    go_ret
    exact ⟨rfl, rfl⟩
  · have e : rs.getD q [] = [] := by rw [List.getD_eq_getElem?_getD, List.getElem?_eq_none (by omega)]; rfl
    rw [e, h2 (by omega)]
    clear e h1 h2
    go_enter Try.func7, Try.ntmps7
    go_wp2
    go_ret
    exact ⟨rfl, rfl⟩
end Go.Proofs.Qxb6612196a.Ex
