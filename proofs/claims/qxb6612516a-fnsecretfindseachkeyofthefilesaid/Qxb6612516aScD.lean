/- WALKS of buildSigned and buildRules. -/
import Derived.Test.Qxb6612516aScC
namespace Go.Proofs.Qxb6612516a.Sc
open Go.RowKit

theorem info37 : (Try.prog.info? 37).map (fun i => (i.zero, i.size, i.bytes)) = some (some (.string ⟨#[]⟩), 1, 16) := by kernel_rfl
theorem info9 : (Try.prog.info? 9).map (fun i => (i.zero, i.size, i.bytes)) = some (some (.string ⟨#[]⟩), 1, 16) := by kernel_rfl
theorem info40 : (Try.prog.info? 40).map (fun i => (i.zero, i.size, i.bytes)) = some (some (.agg #[.string ⟨#[]⟩, .slice none 0 0]), 2, 40) := by kernel_rfl
theorem mk_60 (n : Nat) (h : n ≤ 1048576) (w : World) : (Instr.makeSlice 60 (.int .i64 (n : Int)) (.int .i64 (n : Int))).run Try.prog w = .ok (.slice (some ⟨w.heap.size, 0, none⟩) n n) (w.alloc (.cells (madeCells #[.string ⟨#[]⟩] n) 37)) :=
  run_make_row' 60 37 _ 16 Try.underlying60 info37 rfl .i64 .i64 n (by omega) (by omega) w
theorem mk_28 (n : Nat) (h : n ≤ 1048576) (w : World) : (Instr.makeSlice 28 (.int .i64 (n : Int)) (.int .i64 (n : Int))).run Try.prog w = .ok (.slice (some ⟨w.heap.size, 0, none⟩) n n) (w.alloc (.cells (madeCells #[.string ⟨#[]⟩] n) 9)) :=
  run_make_row' 28 9 _ 16 Try.underlying28 info9 rfl .i64 .i64 n (by omega) (by omega) w
theorem mk_36 (n : Nat) (h : n ≤ 1048576) (w : World) : (Instr.makeSlice 36 (.int .i64 (n : Int)) (.int .i64 (n : Int))).run Try.prog w = .ok (.slice (some ⟨w.heap.size, 0, none⟩) n n) (w.alloc (.cells (madeCells #[.string ⟨#[]⟩, .slice none 0 0] (n * 2)) 40)) := by
  obtain ⟨i, hi, hz, hs, hby⟩ := info_parts info40
  have hb' : (i.bytes : Int) * (n : Int) ≤ 281474976710656 := by rw [hby]; omega
  have hr := run_make (P := Try.prog) w 36 40 i _ Try.underlying36 hi hz .i64 .i64 n n (by omega) (Int.le_refl _) hb' (by omega)
  simp only [Int.toNat_natCast, hs] at hr
  exact hr

/-- a row whose first k cells are laid -/
def upTo (k : Nat) (F : Nat → Value) (z : Value) : Nat → Value := fun i => if i < k then F i else z
theorem upTo_set {w : World} {b n k : Nat} {t : TypeId} {F : Nat → Value} {z v : Value} (h : w.rowIs b t n (upTo k F z)) (hv : F k = v) : (w.setCell ⟨b, k, none⟩ v).rowIs b t n (upTo (k + 1) F z) := by
  subst hv
  refine (h.set k (F k)).congr (fun i _ => ?_)
  unfold upTo
  by_cases e : i = k
  · subst e; simp
  · by_cases e2 : i < k
    · simp [e, e2, show i < k + 1 by omega]
    · simp [e, e2, show ¬ i < k + 1 by omega]
def strF (ss : List ByteArray) (i : Nat) : Value := .string (ss.getD i ByteArray.empty)
theorem strF_at (ss : List ByteArray) (k : Nat) (h : k < ss.length) : strF ss k = .string ss[k] := by
  unfold strF; rw [List.getD_eq_getElem?_getD, List.getElem?_eq_getElem h]; rfl
/-- k of the strings are laid in block B -/
structure Laid (w0 : World) (t : TypeId) (ss : List ByteArray) (k : Nat) (wr : World) : Prop where
  row : wr.rowIs w0.heap.size t ss.length (upTo k (strF ss) (.string ⟨#[]⟩))
  bel : Below w0.heap.size w0 wr
theorem laid_start (w0 : World) (t : TypeId) (ss : List ByteArray) : Laid w0 t ss 0 (w0.alloc (.cells (madeCells #[.string ⟨#[]⟩] ss.length) t)) :=
  ⟨(World.rowIs_made w0 _ _ _).congr (fun i _ => by simp [upTo]), (Below.refl _ _).alloc (Nat.le_refl _) _⟩
theorem laid_step {w0 wr : World} {t : TypeId} {ss : List ByteArray} {k : Nat} (h : Laid w0 t ss k wr) (hk : k < ss.length) : Laid w0 t ss (k + 1) (wr.setCell ⟨w0.heap.size, k, none⟩ (.string ss[k])) :=
  ⟨upTo_set h.row (strF_at ss k hk), h.bel.setCell (Nat.le_refl _) _⟩
theorem laid_end {w0 wr : World} {t : TypeId} {ss : List ByteArray} (h : Laid w0 t ss ss.length wr) : StrRow wr (some ⟨w0.heap.size, 0, none⟩) ss := fun i hi =>
  ⟨w0.heap.size, 0, rfl, by rw [Nat.zero_add, h.row.cell hi]; simp [upTo, hi, strF_at ss i hi]⟩

/-- what buildSigned hands back -/
def Signed (w : World) (ss : List ByteArray) (e : Ending) (w' : World) : Prop :=
  ∃ S g, e = .returned (.pointer (some ⟨S, 0, none⟩)) ∧ w'.cell? ⟨S, 0, none⟩ = some (.slice (some ⟨g, 0, none⟩) ss.length ss.length) ∧ StrRow w' (some ⟨g, 0, none⟩) ss ∧ Below w.heap.size w w'
set_option maxHeartbeats 2000000 in
theorem signed_any (ao : Option Addr) (cap : Nat) (ss : List ByteArray) (w : World) (hs : StrRow w ao ss) (hl : ss.length ≤ 1048576) :
    Calls Try.prog 7 #[.slice ao ss.length cap] w fun e w' => Signed w ss e w' := by
  have HK : Hid (StrRow w ao ss) := hs
  have hmk := mk_60 ss.length hl
  clear hs
  go_enter Try.func7, Try.ntmps7
  go_wp2
  clear hmk
  go_loopw [4] (fun x wr => ∃ (k : Nat), k ≤ ss.length ∧ x = .int .i64 k ∧ w.heap.size < wr.heap.size ∧ Laid w 37 ss k wr) (fun x _ => ss.length - (intOf x).toNat)
  case atStart => exact ⟨0, Nat.zero_le _, rfl, by simp, laid_start _ _ _⟩
  case round =>
    obtain ⟨k, hk, rfl, hz, hld⟩ := hrel
    have HD : Hid (Laid w 37 ss k wr) := hld
    clear hld
    by_cases hlt : k < ss.length
    · obtain ⟨b, off, rfl, hc⟩ := HK.out k hlt
      have hc' := cell_below HD.out.bel hc
      obtain ⟨v0, hv0⟩ : ∃ v0, wr.cell? ⟨w.heap.size, k, none⟩ = some v0 := ⟨_, HD.out.row.cell hlt⟩
      have hf0 := HD.out.row.frozen k
      have HD2 := laid_step HD.out hlt
      clear hc
      go_wp2
      go_roundw
      case rel => exact ⟨k + 1, by omega, by go_num, by simp; omega, HD2⟩
      case measure => simp [intOf]; omega
    · have hke : k = ss.length := by omega
      have hd := HD.out
      rw [hke] at hd
      have HE : Hid (Laid w 37 ss ss.length wr) := hd
      clear hd hke
      go_wp2
      go_ret
      refine ⟨wr.heap.size, w.heap.size, rfl, by simp, (laid_end HE.out).below ((Below.refl _ _).alloc (Nat.le_refl _) _), HE.out.bel.alloc (by omega) _⟩

/-- k of the keys are laid in block B, two cells a key -/
structure KLaid (w0 : World) (ks : List Kd) (k : Nat) (f : Nat → Value) (wr : World) : Prop where
  row : wr.rowIs w0.heap.size 40 (ks.length * 2) f
  each : ∀ i (h : i < ks.length), i < k → f (i * 2) = .string ks[i].id ∧ f (i * 2 + 1) = .slice ks[i].sa ks[i].sl ks[i].sc
  bel : Below w0.heap.size w0 wr
theorem klaid_start (w0 : World) (ks : List Kd) : ∃ f, KLaid w0 ks 0 f (w0.alloc (.cells (madeCells #[.string ⟨#[]⟩, .slice none 0 0] (ks.length * 2)) 40)) := by
  have hsz : (madeCells #[Value.string ⟨#[]⟩, .slice none 0 0] (ks.length * 2)).size = ks.length * 2 := size_madeCells _ _
  refine ⟨fun i => (madeCells #[Value.string ⟨#[]⟩, .slice none 0 0] (ks.length * 2)).getD i undef, ?_, fun i h h0 => absurd h0 (by omega), (Below.refl _ _).alloc (Nat.le_refl _) _⟩
  have h := World.rowIs_alloc w0 (madeCells #[Value.string ⟨#[]⟩, .slice none 0 0] (ks.length * 2)) 40 (fun i => (madeCells #[Value.string ⟨#[]⟩, .slice none 0 0] (ks.length * 2)).getD i undef) (fun i hi => by
    simp [Array.getD, hi])
  rw [hsz] at h
  exact h
theorem klaid_step {w0 wr : World} {ks : List Kd} {k : Nat} {f : Nat → Value} (h : KLaid w0 ks k f wr) (hk : k < ks.length) :
    ∃ f', KLaid w0 ks (k + 1) f' ((wr.setCell ⟨w0.heap.size, k * 2, none⟩ (.string ks[k].id)).setCell ⟨w0.heap.size, k * 2 + 1, none⟩ (.slice ks[k].sa ks[k].sl ks[k].sc)) := by
  refine ⟨_, (h.row.set (k * 2) _).set (k * 2 + 1) _, fun i hi hlt => ?_, (h.bel.setCell (Nat.le_refl _) _).setCell (Nat.le_refl _) _⟩
  by_cases e : i = k
  · subst e; exact ⟨by simp, by simp⟩
  · have h1 := h.each i hi (by omega)
    constructor
    · rw [if_neg (by omega), if_neg (by omega)]; exact h1.1
    · rw [if_neg (by omega), if_neg (by omega)]; exact h1.2
theorem klaid_drew {w0 wr : World} {ks : List Kd} {k : Nat} {f : Nat → Value} (h : KLaid w0 ks k f wr) : KLaid w0 ks k f wr.drew := ⟨h.row.drew, h.each, h.bel.drew⟩
theorem klaid_end {w0 wr : World} {ks : List Kd} {f : Nat → Value} (h : KLaid w0 ks ks.length f wr) : KeyRow wr (some ⟨w0.heap.size, 0, none⟩) ks := fun i hi => by
  obtain ⟨h1, h2⟩ := h.each i hi hi
  refine ⟨w0.heap.size, 0, rfl, ?_, ?_⟩
  · rw [Nat.zero_add, h.row.cell (by omega), h1]
  · rw [Nat.zero_add, h.row.cell (by omega), h2]

/-- what buildRules hands back -/
def Ruled (w : World) (ks : List Kd) (e : Ending) (w' : World) : Prop :=
  ∃ R g, e = .returned (.pointer (some ⟨R, 0, none⟩)) ∧ w'.cell? ⟨R, 11, none⟩ = some (.slice (some ⟨g, 0, none⟩) ks.length ks.length) ∧ KeyRow w' (some ⟨g, 0, none⟩) ks ∧ Below w.heap.size w w'
set_option maxHeartbeats 2000000 in
theorem rules_any (ao : Option Addr) (cap : Nat) (ks : List Kd) (w : World) (hk : KeyRow w ao ks) (hl : ks.length ≤ 1048576) :
    Calls Try.prog 6 #[.slice ao ks.length cap] w fun e w' => Ruled w ks e w' := by
  have HK : Hid (KeyRow w ao ks) := hk
  have hmk := mk_36 ks.length hl
  clear hk
  go_enter Try.func6, Try.ntmps6
  go_wp2
  clear hmk
  go_loopw [4] (fun x wr => ∃ (k : Nat) (f : Nat → Value), k ≤ ks.length ∧ x = .int .i64 k ∧ w.heap.size < wr.heap.size ∧ KLaid w ks k f wr) (fun x _ => ks.length - (intOf x).toNat)
  case atStart =>
    obtain ⟨f, hf⟩ := klaid_start w ks
    exact ⟨0, f, Nat.zero_le _, rfl, by simp, hf⟩
  case round =>
    obtain ⟨k, f, hk, rfl, hz, hld⟩ := hrel
    have HD : Hid (KLaid w ks k f wr) := hld
    clear hld
    by_cases hlt : k < ks.length
    · obtain ⟨b, off, rfl, hc, hd⟩ := HK.out k hlt
      have hc' := cell_below HD.out.bel hc
      have hd' := cell_below HD.out.bel hd
      have hki : (k : Int) < (ks.length : Int) := by omega
      obtain ⟨v0, hv0⟩ : ∃ v0, wr.cell? ⟨w.heap.size, k * 2, none⟩ = some v0 := ⟨_, HD.out.row.cell (by omega)⟩
      obtain ⟨v1, hv1⟩ : ∃ v0, wr.cell? ⟨w.heap.size, k * 2 + 1, none⟩ = some v0 := ⟨_, HD.out.row.cell (by omega)⟩
      have hf0 := HD.out.row.frozen (k * 2)
      have hf1 := HD.out.row.frozen (k * 2 + 1)
      obtain ⟨f', hf'⟩ := klaid_step HD.out hlt
      have HD2 : Hid _ := hf'
      clear hc hd hf'
      generalize ks[k].id = kid at *
      generalize ks[k].sa = sa at *
      generalize ks[k].sl = sl at *
      generalize ks[k].sc = sc at *
      go_wp2
      go_region
      go_wp2
      go_roundw
      case rel =>
        refine ⟨k + 1, f', by omega, by go_num, ?_, klaid_drew HD2.out⟩
        show _ < (World.setCell (World.setCell _ _ _) _ _).heap.size
        simp; omega
      case measure => simp [intOf]; omega
    · have hke : k = ks.length := by omega
      have hd := HD.out
      rw [hke] at hd
      have HE : Hid (KLaid w ks ks.length f wr) := hd
      clear hd hke
      go_wp2
      go_ret
      refine ⟨wr.heap.size, w.heap.size, rfl, by simp, (klaid_end HE.out).below ((Below.refl _ _).alloc (Nat.le_refl _) _), HE.out.bel.alloc (by omega) _⟩
end Go.Proofs.Qxb6612516a.Sc
