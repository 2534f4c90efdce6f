/- WALKS of the constructors and of the comparisons. -/
import Derived.Test.Qxb6612221aClB
namespace Go.Proofs.Qxb6612221a.Cl
open Go.RowKit

/-- an output item, as far as this road fills it -/
structure It where
  ty : ByteArray
  id : ByteArray
  st : ByteArray
  rt : ByteArray
abbrev eS : ByteArray := ⟨#[]⟩
abbrev itemCells (ty id st rt : ByteArray) : Array Value := #[.string ty, .string id, .string st, .string ⟨#[]⟩, .slice none 0 0, .string ⟨#[]⟩, .string ⟨#[]⟩, .string ⟨#[]⟩, .string ⟨#[]⟩, .bool false, .string rt]
abbrev msgS : ByteArray := ⟨#[109, 101, 115, 115, 97, 103, 101]⟩
abbrev compS : ByteArray := ⟨#[99, 111, 109, 112, 108, 101, 116, 101, 100]⟩
abbrev progS : ByteArray := ⟨#[105, 110, 95, 112, 114, 111, 103, 114, 101, 115, 115]⟩
def stOf (dn : Bool) : ByteArray := if dn = true then compS else progS

set_option maxHeartbeats 1000000 in
theorem outItem_any (id : ByteArray) (w : World) :
    Calls Try.prog 10 #[.string id] w fun e w' => e = .returned (.agg (itemCells msgS id compS eS)) ∧ w' = w.alloc (.cells (itemCells msgS id compS eS) 37) := by
  go_enter Try.func10, Try.ntmps10
  go_wp2
  exact bodyPost_ret (v := .agg (itemCells msgS id compS eS)) (by simp [results, Try.results10, go_sem]) rfl ⟨rfl, rfl⟩

set_option maxHeartbeats 1000000 in
theorem openItem_any (id ty : ByteArray) (dn : Bool) (w : World) :
    Calls Try.prog 12 #[.agg #[.string id, .string ty, .bool dn]] w fun e w' => e = .returned (.agg (itemCells ty id (stOf dn) eS)) ∧ w' = (w.alloc (.cells #[.string id, .string ty, .bool dn] 33)).alloc (.cells (itemCells ty id (stOf dn) eS) 37) := by
  cases dn
  · go_enter Try.func12, Try.ntmps12
    go_wp2
    exact bodyPost_ret (v := .agg (itemCells ty id (stOf false) eS)) (by simp [results, Try.results12, go_sem, stOf]) rfl ⟨rfl, rfl⟩
  · go_enter Try.func12, Try.ntmps12
    go_wp2
    exact bodyPost_ret (v := .agg (itemCells ty id (stOf true) eS)) (by simp [results, Try.results12, go_sem, stOf]) rfl ⟨rfl, rfl⟩

/-- the cells of an announced item -/
abbrev siCells (ty id st rt : ByteArray) (ix : Int) (dn : Bool) : Array Value := #[.string ty, .string id, .string st, .string ⟨#[]⟩, .slice none 0 0, .string ⟨#[]⟩, .string ⟨#[]⟩, .string ⟨#[]⟩, .string ⟨#[]⟩, .bool false, .string rt, .int .i64 ix, .bool dn]
set_option maxHeartbeats 1000000 in
theorem newItem_any (ty id st rt : ByteArray) (ix : Int) (dn : Bool) (w : World) :
    Calls Try.prog 11 #[.agg (itemCells ty id st rt), .int .i64 ix, .bool dn] w fun e w' => e = .returned (.pointer (some ⟨w.heap.size + 1, 0, none⟩)) ∧ w' = (w.alloc (.cells (itemCells ty id st rt) 37)).alloc (.cells (siCells ty id st rt ix dn) 94) := by
  go_enter Try.func11, Try.ntmps11
  go_wp2
  go_ret
  exact ⟨rfl, rfl⟩

set_option maxRecDepth 100000 in
set_option maxHeartbeats 2000000 in
theorem eqItem_any (ty id st rt : ByteArray) (w : World) :
    Calls Try.prog 19 #[.agg (itemCells ty id st rt), .agg (itemCells ty id st rt)] w fun e w' => e = .returned (.bool true) ∧ Below w.heap.size w w' := by
  have hnil := fun w => Lib.run_eql_slice_nil (P := Try.prog) w 35 _ none 0 0 0 0 Try.underlying35
  go_enter Try.func19, Try.ntmps19
  go_wp2
  refine wp_loop_rounds 1 ?_
  rw [rounds_succ]
  go_wp2
  go_ret
  exact ⟨rfl, ((Below.refl _ _).alloc (Nat.le_refl _) _).alloc (by simp) _⟩

theorem bcell {W w1 : World} (hb : Below W.heap.size W w1) : (∀ b o, b < W.heap.size → w1.cell? ⟨b, o, none⟩ = W.cell? ⟨b, o, none⟩) ∧ (∀ b o, b < W.heap.size → w1.frozen? ⟨b, o, none⟩ = W.frozen? ⟨b, o, none⟩) :=
  ⟨fun b o h => hb.cell (p := ⟨b, o, none⟩) h, fun b o h => hb.frozen (p := ⟨b, o, none⟩) h⟩
/-- the cells of an event -/
abbrev evCells (ty : ByteArray) (sq ox : Int) (it ii is ir iid p0 p1 : ByteArray) (p2 p3 : Value) (tx : ByteArray) : Array Value :=
  #[.string ty, .int .i64 sq, .pointer none, .int .i64 ox, .string it, .string ii, .string is, .string ⟨#[]⟩, .slice none 0 0, .string ⟨#[]⟩, .string ⟨#[]⟩, .string ⟨#[]⟩, .string ⟨#[]⟩, .bool false, .string ir,
    .string iid, .int .i64 0, .string p0, .string p1, p2, p3, .string ⟨#[]⟩, .string tx, .string ⟨#[]⟩]
set_option maxRecDepth 100000 in
set_option maxHeartbeats 4000000 in
theorem eqEv_any (ty : ByteArray) (sq ox : Int) (it ii is ir iid p0 p1 q0 q1 : ByteArray) (a2 a3 b2 b3 : Option Addr) (l2 c2 l3 c3 m2 d2 m3 d3 : Nat) (tx : ByteArray) (w : World) :
    Calls Try.prog 23 #[.agg (evCells ty sq ox it ii is ir iid p0 p1 (.slice a2 l2 c2) (.slice a3 l3 c3) tx), .agg (evCells ty sq ox it ii is ir iid q0 q1 (.slice b2 m2 d2) (.slice b3 m3 d3) tx)] w fun e w' => e = .returned (.bool true) ∧ Below w.heap.size w w' := by
  go_enter Try.func23, Try.ntmps23
  go_wp2_with fail
  refine (eqItem_any it ii is ir _).mono ?_
  rintro e w1 ⟨rfl, hb1⟩
  have HB : Hid (Below w.heap.size w w1) := by
    have h0 : Below w.heap.size w ((w.alloc (.cells (evCells ty sq ox it ii is ir iid p0 p1 (.slice a2 l2 c2) (.slice a3 l3 c3) tx) 85)).alloc (.cells (evCells ty sq ox it ii is ir iid q0 q1 (.slice b2 m2 d2) (.slice b3 m3 d3) tx) 85)) := ((Below.refl _ _).alloc (Nat.le_refl _) _).alloc (by simp) _
    exact h0.trans (hb1.mono h0.size)
  obtain ⟨hc, hf⟩ := bcell hb1
  clear hb1
  go_wp2
  go_ret
  exact ⟨rfl, HB.out⟩

set_option maxHeartbeats 4000000 in
theorem zeroPart_any (w : World) :
    Calls Try.prog 24 #[.agg #[.string eS, .string eS, .slice none 0 0, .slice none 0 0]] w fun e w' => e = .returned (.bool true) ∧ Below w.heap.size w w' := by
  have hnil := fun w => Lib.run_eql_slice_nil (P := Try.prog) w 81 _ none 0 0 0 0 Try.underlying81
  go_enter Try.func24, Try.ntmps24
  go_wp2
  go_ret
  exact ⟨rfl, (Below.refl _ _).alloc (Nat.le_refl _) _⟩

abbrev otS : ByteArray := ⟨#[111, 117, 116, 112, 117, 116, 95, 116, 101, 120, 116]⟩
set_option maxHeartbeats 4000000 in
theorem freshPart_any (tx : ByteArray) (x y : Addr) (c d : Nat) (w : World) :
    Calls Try.prog 25 #[.agg #[.string otS, .string tx, .slice (some x) 0 c, .slice (some y) 0 d], .string tx] w fun e w' => e = .returned (.bool true) ∧ Below w.heap.size w w' := by
  have hnil := fun w => run_neq_slice_nil_any (P := Try.prog) w 81 _ (some x) 0 c 0 0 Try.underlying81
  have hnil2 := fun w => run_neq_slice_nil_any (P := Try.prog) w 81 _ (some y) 0 d 0 0 Try.underlying81
  go_enter Try.func25, Try.ntmps25
  go_wp2
  go_ret
  exact ⟨rfl, (Below.refl _ _).alloc (Nat.le_refl _) _⟩

set_option maxHeartbeats 4000000 in
theorem newText_any (tx : ByteArray) (w : World) :
    Calls Try.prog 35 #[.string tx] w fun e w' => e = .returned (.agg #[.string otS, .string tx, .slice (some ⟨w.heap.size + 1, 0, none⟩) 0 0, .slice (some ⟨w.heap.size + 1 + 1, 0, none⟩) 0 0]) ∧ Below w.heap.size w w' := by
  go_enter Try.func35, Try.ntmps35
  go_wp2
  exact bodyPost_ret (v := .agg #[.string otS, .string tx, .slice (some ⟨w.heap.size + 1, 0, none⟩) 0 0, .slice (some ⟨w.heap.size + 1 + 1, 0, none⟩) 0 0]) (by simp [results, Try.results35, go_sem]) rfl ⟨rfl, (((Below.refl _ _).alloc (Nat.le_refl _) _).alloc (by simp) _).alloc (by simp; omega) _⟩
end Go.Proofs.Qxb6612221a.Cl
