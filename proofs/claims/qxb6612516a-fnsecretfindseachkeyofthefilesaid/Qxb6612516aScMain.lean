/- THE LAW's OWN WALK. -/
import Derived.Test.Qxb6612516aScD
namespace Go.Proofs.Qxb6612516a.Sc
open Go.RowKit

theorem signed_is (ao : Option Addr) (cap n : Nat) (ss : List ByteArray) (w : World) (hs : StrRow w ao ss) (hn : ss.length = n) (hl : n ≤ 1048576) :
    Calls Try.prog 7 #[.slice ao n cap] w fun e w' => Signed w ss e w' := by
  subst hn; exact signed_any ao cap ss w hs hl

/-- key i's id is no later key's -/
def Apart (ks : List Kd) (k : Nat) : Prop := ∀ i j (hi : i < ks.length) (hj : j < ks.length), i < k → i < j → (ks[i].id.toList == ks[j].id.toList) = false
def ApartRow (ks : List Kd) (k m : Nat) : Prop := ∀ j (hk : k < ks.length) (hj : j < ks.length), k < j → j < m → (ks[k].id.toList == ks[j].id.toList) = false
abbrev ids (ks : List Kd) : List ByteArray := ks.map (·.id)
def inF (ks : List Kd) (k : Nat) (probe : ByteArray) : Bool := (ks.take k).any (fun d => d.id.toList == probe.toList)
theorem inF_hit {ks : List Kd} {k : Nat} {probe : ByteArray} (h : k < ks.length) (e : (ks[k].id.toList == probe.toList) = true) : inF ks (k + 1) probe = true := by
  unfold inF; rw [List.take_succ_eq_append_getElem h, List.any_append]; simp [e]
theorem inF_miss {ks : List Kd} {k : Nat} {probe : ByteArray} (h : k < ks.length) (e : (ks[k].id.toList == probe.toList) = false) : inF ks (k + 1) probe = inF ks k probe := by
  unfold inF; rw [List.take_succ_eq_append_getElem h, List.any_append]; simp [e]
theorem inF_none {ks : List Kd} {k : Nat} {probe : ByteArray} (hk : ks.length ≤ k) (h : inF ks k probe = false) : has (ids ks) probe = false := by
  unfold inF at h
  rw [List.take_of_length_le hk] at h
  unfold has ids
  rw [List.any_map]
  rw [List.any_eq_false] at h ⊢
  intro d hd
  have h1 := h d hd
  simp only [Function.comp, beq_iff_eq] at h1 ⊢
  exact fun e => h1 e.symm
theorem has_self {ks : List Kd} {k : Nat} (h : k < ks.length) : has (ids ks) ks[k].id = true :=
  has_hit _ _ k (by simpa using h) (by simp)

theorem laid_start' (w : World) (ks : List Kd) (j : Nat) : Laid w 9 (ids ks) 0 ((w.alloc (.cells (madeCells #[.string ⟨#[]⟩] ks.length) 9)).drewN j) := by
  have h := laid_start w 9 (ids ks)
  rw [List.length_map] at h
  exact ⟨h.row, below_drewN h.bel j⟩
/-- the rules, the route that accepts all keys, the route that accepts none: in memory -/
structure World4 (w : World) (ks : List Kd) (R g S g3 T g4 : Nat) (wr : World) : Prop where
  sR : wr.cell? ⟨R, 11, none⟩ = some (.slice (some ⟨g, 0, none⟩) ks.length ks.length)
  rR : KeyRow wr (some ⟨g, 0, none⟩) ks
  sS : wr.cell? ⟨S, 0, none⟩ = some (.slice (some ⟨g3, 0, none⟩) (ids ks).length (ids ks).length)
  rS : StrRow wr (some ⟨g3, 0, none⟩) (ids ks)
  sT : wr.cell? ⟨T, 0, none⟩ = some (.slice (some ⟨g4, 0, none⟩) 0 0)
  bel : Below w.heap.size w wr
theorem World4.below {w wr wr' : World} {ks : List Kd} {R g S g3 T g4 : Nat} (h : World4 w ks R g S g3 T g4 wr) (hb : Below wr.heap.size wr wr') : World4 w ks R g S g3 T g4 wr' :=
  ⟨cell_below hb h.sR, h.rR.below hb, cell_below hb h.sS, h.rS.below hb, cell_below hb h.sT, h.bel.trans (hb.mono h.bel.size)⟩

set_option maxRecDepth 100000 in
set_option maxHeartbeats 4000000 in
theorem main_core (ao : Option Addr) (cap : Nat) (ks : List Kd) (probe : ByteArray) (w : World) (hk : KeyRow w ao ks) (hb : ∀ i (h : i < ks.length), BytesRow w ks[i].sa ks[i].sl ∧ ks[i].sl ≤ maxLen) (hl : ks.length ≤ maxLen) :
    Calls Try.prog 3 #[.slice ao ks.length cap, .string probe] w fun e w' => e = .returned (.bool true) ∧ Below w.heap.size w w' := by
  have HK : Hid (KeyRow w ao ks) := hk
  have HY : Hid (∀ i (h : i < ks.length), BytesRow w ks[i].sa ks[i].sl ∧ ks[i].sl ≤ maxLen) := hb
  clear hk hb
  go_enter Try.func3, Try.ntmps3
  go_wp2_with fail
  refine (bytes_any ao cap ks probe _ HK.out hl).mono ?_
  rintro e w1 ⟨⟨b, rfl, hb⟩, rfl⟩
  cases b
  · go_wp2
    go_ret
    exact ⟨rfl, Below.refl _ _⟩
  have b1 := hb rfl
  clear hb hl
  by_cases n1 : 4096 < ks.length
  · go_wp2
    go_ret
    exact ⟨rfl, Below.refl _ _⟩
  by_cases n2 : 1048576 < probe.size
  · go_wp2
    go_ret
    exact ⟨rfl, Below.refl _ _⟩
  go_wp2_with fail
  refine (size_any ao cap ks _ HK.out b1).mono ?_
  rintro e w1 ⟨⟨t, rfl, t0, t1⟩, nq, rfl⟩
  by_cases n3 : 1048576 < probe.size + t
  · go_wp2
    go_ret
    exact ⟨rfl, below_drewN (Below.refl _ _) _⟩
  go_wp2
  go_loopw [5] (fun i wr => ∃ (k j : Nat), k ≤ ks.length ∧ i = .int .i64 k ∧ Hid (Apart ks k) ∧ wr = w.drewN j) (fun i _ => ks.length - (intOf i).toNat)
  case atStart => exact ⟨0, nq, Nat.zero_le _, rfl, fun i j hi hj h => absurd h (by omega), rfl⟩
  case round =>
    obtain ⟨k, j, hk, rfl, HA, rfl⟩ := hrel
    by_cases hlt : k < ks.length
    · obtain ⟨b, off, rfl, hc, -⟩ := HK.out k hlt
      go_wp2
      go_loopw [6] (fun i wr => ∃ (m j : Nat), k + 1 ≤ m ∧ m ≤ ks.length ∧ i = .int .i64 m ∧ Hid (ApartRow ks k m) ∧ wr = w.drewN j) (fun i _ => ks.length - (intOf i).toNat)
      case atStart => exact ⟨k + 1, j, by omega, by omega, by go_num, fun i hk hj h h0 => absurd h0 (by omega), rfl⟩
      case round =>
        obtain ⟨m, j2, hm0, hm, rfl, HR, rfl⟩ := hrel
        by_cases hmt : m < ks.length
        · obtain ⟨b2, off2, e2, hc2, -⟩ := HK.out m hmt
          obtain ⟨rfl, rfl⟩ : b = b2 ∧ off = off2 := by simpa using e2
          have hki : (k : Int) < (ks.length : Int) := by omega
          have hmi : (m : Int) < (ks.length : Int) := by omega
          cases he : (ks[k].id.toList == ks[m].id.toList)
          · have HR2 : Hid (ApartRow ks k (m + 1)) := by
              intro j' h1 h2 h3 h4
              by_cases e : j' = m
              · subst e; exact he
              · exact HR.out j' h1 h2 h3 (by omega)
            generalize ks[k].id = s at *
            generalize ks[m].id = s2 at *
            go_wp2
            go_quiet (fail)
            go_wp2
            go_roundw
            case rel => exact ⟨m + 1, _, by omega, by omega, by go_num, HR2, rfl⟩
            case measure => simp [intOf]; omega
          · generalize ks[k].id = s at *
            generalize ks[m].id = s2 at *
            go_wp2
            go_quiet (fail)
            go_wp2
            go_ret
            exact ⟨rfl, below_drewN (below_drewN (Below.refl _ _) _) _⟩
        · have HA2 : Hid (Apart ks (k + 1)) := by
            intro i j' h1 h2 h3 h4
            by_cases e : i = k
            · subst e; exact HR.out j' h1 h2 h4 (by omega)
            · exact HA.out i j' h1 h2 (by omega) h4
          go_wp2
          go_roundw
          case rel => exact ⟨k + 1, _, by omega, by go_num, HA2, rfl⟩
          case measure => simp [intOf]; omega
    · have HA2 : Hid (Apart ks ks.length) := fun i j' h1 h2 h3 h4 => HA.out i j' h1 h2 (by omega) h4
      have hmk := mk_28 ks.length b1
      clear HA
      go_wp2
      clear hmk
      have hmi : (ids ks).length = ks.length := List.length_map _
      go_loopw [8] (fun x wr => ∃ (k : Nat), k ≤ ks.length ∧ x = .int .i64 k ∧ w.heap.size < wr.heap.size ∧ Laid w 9 (ids ks) k wr) (fun x _ => ks.length - (intOf x).toNat)
      case atStart => exact ⟨0, Nat.zero_le _, rfl, by simp, laid_start' w ks j⟩
      case round =>
        obtain ⟨k, hk, rfl, hz, hld⟩ := hrel
        have HD : Hid (Laid w 9 (ids ks) k wr) := hld
        clear hld
        by_cases hlt3 : k < ks.length
        · obtain ⟨b, off, rfl, hc, -⟩ := HK.out k hlt3
          have hc' := cell_below HD.out.bel hc
          obtain ⟨v0, hv0⟩ : ∃ v0, wr.cell? ⟨w.heap.size, k, none⟩ = some v0 := ⟨_, HD.out.row.cell (by rw [hmi]; exact hlt3)⟩
          have hf0 := HD.out.row.frozen k
          have hst := laid_step HD.out (by rw [hmi]; exact hlt3)
          rw [List.getElem_map] at hst
          have HD2 : Hid _ := hst
          clear hc hst
          go_wp2
          go_roundw
          case rel => exact ⟨k + 1, by omega, by go_num, by simp; omega, HD2.out⟩
          case measure => simp [intOf]; omega
        · have hke : k = (ids ks).length := by omega
          have hd := HD.out
          rw [hke] at hd
          have hall := laid_end hd
          have hbd := hd.bel
          have HS : Hid (StrRow wr (some ⟨w.heap.size, 0, none⟩) (ids ks)) := hall
          have HB1 : Hid (Below w.heap.size w wr) := hbd
          clear hd hke hall hbd HD
          obtain ⟨w1, rfl⟩ : ∃ w1 : World, w1 = wr := ⟨_, rfl⟩
          go_wp2_with fail
          refine (rules_any ao cap ks _ (HK.out.below HB1.out) b1).mono ?_
          rintro e w2 ⟨R, g, rfl, hR, hKR, hb2⟩
          have HX2 : Hid (w2.cell? ⟨R, 11, none⟩ = some (.slice (some ⟨g, 0, none⟩) ks.length ks.length) ∧ KeyRow w2 (some ⟨g, 0, none⟩) ks ∧ Below w1.heap.size w1 w2) := ⟨hR, hKR, hb2⟩
          clear hR hKR hb2
          go_wp2_with fail
          refine (signed_is _ _ _ (ids ks) _ (HS.out.below HX2.out.2.2) hmi b1).mono ?_
          rintro e w3 ⟨S, g3, rfl, hS, hKS, hb3⟩
          have HX3 : Hid (w3.cell? ⟨S, 0, none⟩ = some (.slice (some ⟨g3, 0, none⟩) (ids ks).length (ids ks).length) ∧ StrRow w3 (some ⟨g3, 0, none⟩) (ids ks) ∧ Below w2.heap.size w2 w3) := ⟨hS, hKS, hb3⟩
          clear hS hKS hb3
          go_wp2_with fail
          refine (signed_is none 0 0 [] _ (fun i hi => absurd hi (by simp)) rfl (by omega)).mono ?_
          rintro e w4 ⟨T, g4, rfl, hT, hKT, hb4⟩
          have HW : Hid (World4 w ks R g S g3 T g4 w4) := by
            have h1 := HX2.out.2.2
            have h2 := HX3.out.2.2
            have h12 := hb4
            refine ⟨cell_below hb4 (cell_below h2 HX2.out.1), (HX2.out.2.1.below h2).below hb4, cell_below hb4 HX3.out.1, HX3.out.2.1.below hb4, hT, ?_⟩
            have k1 := HB1.out.trans (h1.mono HB1.out.size)
            have k2 := k1.trans (h2.mono k1.size)
            exact k2.trans (hb4.mono k2.size)
          clear hT hKT hb4 HX2 HX3 HS HB1
          go_wp2
          go_loopw [12, 13] (fun f x wr => ∃ (k : Nat), k ≤ ks.length ∧ x = .int .i64 k ∧ f = .bool (inF ks k probe) ∧ World4 w ks R g S g3 T g4 wr) (fun _ x _ => ks.length - (intOf x).toNat)
          case atStart => exact ⟨0, Nat.zero_le _, rfl, rfl, HW.out⟩
          case round =>
            obtain ⟨k, hk4, rfl, rfl, hw4⟩ := hrel
            have HW4 : Hid (World4 w ks R g S g3 T g4 wr) := hw4
            clear hw4
            obtain ⟨w5, rfl⟩ : ∃ w5 : World, w5 = wr := ⟨_, rfl⟩
            by_cases hlt4 : k < ks.length
            · obtain ⟨b, off, rfl, hc, hd⟩ := HK.out k hlt4
              have hc5 := cell_below HW4.out.bel hc
              have hki : (k : Int) < (ks.length : Int) := by omega
              have HC : Hid (w.cell? ⟨b, off + k * 2, none⟩ = some (.string ks[k].id) ∧ w.cell? ⟨b, off + k * 2 + 1, none⟩ = some (.slice ks[k].sa ks[k].sl ks[k].sc)) := ⟨hc, hd⟩
              clear hc hd
              go_wp2_with fail
              refine (secret_yes R S _ _ k _ _ (ids ks) ks ks[k].id _ HW4.out.sS HW4.out.rS (by omega) (has_self hlt4) HW4.out.sR HW4.out.rR b1 hlt4 (by simp) (fun j' hj' => HA2.out j' k (by omega) hlt4 (by omega) hj')).mono ?_
              rintro e w6 ⟨rfl, hb6⟩
              have HW6 : Hid (World4 w ks R g S g3 T g4 w6) := HW4.out.below hb6
              have hd6 := cell_below HW6.out.bel HC.out.2
              have hc6 := cell_below HW6.out.bel HC.out.1
              clear hb6 hc5
              go_wp2_with fail
              refine (same_any _ _ _ _ ((HY.out k hlt4).1.below HW6.out.bel) (HY.out k hlt4).2).mono ?_
              rintro e w7 ⟨rfl, n7, rfl⟩
              go_wp2_with fail
              refine (secret_no R T _ _ [] ks[k].id _ (by exact HW6.out.sT) (fun i hi => absurd hi (by simp)) (by simp) rfl).mono ?_
              rintro e w8 ⟨rfl, hb8⟩
              have HW8 : Hid (World4 w ks R g S g3 T g4 w8) := HW6.out.below (Below.trans (below_drewN (Below.refl _ _) n7) (by exact hb8))
              have hc8 := cell_below HW8.out.bel HC.out.1
              have hnn := fun w => run_neq_slice_nil_any (P := Try.prog) w 25 5 none 0 0 0 0 Try.underlying25
              clear hb8 hc6 hd6
              cases he : (ks[k].id.toList == probe.toList)
              · have HF : Hid (inF ks (k + 1) probe = inF ks k probe) := inF_miss hlt4 he
                generalize ks[k].id = kid at *
                go_wp2
                go_roundw
                case rel => exact ⟨k + 1, by omega, by go_num, by rw [HF.out], HW8.out⟩
                case measure => simp [intOf]; omega
              · have HF : Hid (inF ks (k + 1) probe = true) := inF_hit hlt4 he
                generalize ks[k].id = kid at *
                go_wp2
                go_roundw
                case rel => exact ⟨k + 1, by omega, by go_num, by rw [HF.out], HW8.out⟩
                case measure => simp [intOf]; omega
            · cases hF : inF ks k probe
              · have HNo : Hid (has (ids ks) probe = false) := inF_none (by omega) hF
                have hnn := fun w => run_neq_slice_nil_any (P := Try.prog) w 25 5 none 0 0 0 0 Try.underlying25
                go_wp2_with fail
                refine (secret_no R S _ _ (ids ks) probe _ HW4.out.sS HW4.out.rS (by omega) HNo.out).mono ?_
                rintro e w8 ⟨rfl, hb8⟩
                have HW8 : Hid (World4 w ks R g S g3 T g4 w8) := HW4.out.below hb8
                clear hb8
                go_wp2
                go_ret
                exact ⟨rfl, HW8.out.bel⟩
              · go_wp2
                go_ret
                exact ⟨rfl, HW4.out.bel⟩
end Go.Proofs.Qxb6612516a.Sc
