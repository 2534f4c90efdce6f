/- PLAIN FACTS for 'FnExtractsRepairOrderAndAppend': lists of strings alone, no Go in sight. -/
namespace Go.Proofs.Qxb6612196a.ExPlain

/-- arch is among the options -/
def hasS (ol : List ByteArray) (arch : ByteArray) : Bool := ol.any (fun s => s.toList == arch.toList)
theorem hasS_take_zero (ol : List ByteArray) (arch : ByteArray) : hasS (ol.take 0) arch = false := by simp [hasS]
theorem take_snoc {α : Type} (l : List α) (k : Nat) (h : k < l.length) : l.take (k + 1) = l.take k ++ [l[k]] := List.take_succ_eq_append_getElem h
theorem hasS_hit (ol : List ByteArray) (arch : ByteArray) (k : Nat) (h : k < ol.length) (e : (ol[k].toList == arch.toList) = true) : hasS ol arch = true := by
  unfold hasS; rw [List.any_eq_true]; exact ⟨ol[k], List.getElem_mem h, e⟩
theorem hasS_miss (ol : List ByteArray) (arch : ByteArray) (k : Nat) (h : k < ol.length) (e : (ol[k].toList == arch.toList) = false) (h0 : hasS (ol.take k) arch = false) : hasS (ol.take (k + 1)) arch = false := by
  rw [take_snoc _ _ h]
  unfold hasS at *
  rw [List.any_append, h0]
  simp [e]
theorem hasS_end (ol : List ByteArray) (arch : ByteArray) (k : Nat) (h : ol.length ≤ k) (h0 : hasS (ol.take k) arch = false) : hasS ol arch = false := by
  rw [List.take_of_length_le h] at h0; exact h0

/-- the two words -/
def noW : List UInt8 := [110, 111, 101, 120, 116, 114, 97, 99, 116]
def arW : List UInt8 := [97, 114, 99, 104, 101, 115]
/-- what one meta line says: extract? -/
def okL (nm : ByteArray) (ol : List ByteArray) (arch : ByteArray) : Bool := !(nm.toList == noW) && (!(nm.toList == arW) || hasS ol arch)
/-- what all say -/
def ext (ls : List (ByteArray × List ByteArray)) (arch : ByteArray) : Bool := ls.all (fun l => okL l.1 l.2 arch)
abbrev Line := ByteArray × List ByteArray
theorem ext_zero (ls : List Line) (arch : ByteArray) : ext (ls.take 0) arch = true := by simp [ext]
theorem ext_bad (ls : List Line) (arch : ByteArray) (k : Nat) (h : k < ls.length) (e : okL ls[k].1 ls[k].2 arch = false) : ext ls arch = false := by
  unfold ext
  rw [List.all_eq_false]
  exact ⟨ls[k], List.getElem_mem h, by simp [e]⟩
theorem ext_good (ls : List Line) (arch : ByteArray) (k : Nat) (h : k < ls.length) (e : okL ls[k].1 ls[k].2 arch = true) (h0 : ext (ls.take k) arch = true) : ext (ls.take (k + 1)) arch = true := by
  rw [take_snoc _ _ h]
  unfold ext at *
  rw [List.all_append, h0]
  simp [e]
theorem ext_end (ls : List Line) (arch : ByteArray) (k : Nat) (h : ls.length ≤ k) (h0 : ext (ls.take k) arch = true) : ext ls arch = true := by
  rw [List.take_of_length_le h] at h0; exact h0
/-- the meta lines of names and options, side by side -/
def lines (ns : List ByteArray) (rs : List (List ByteArray)) : List Line := (List.range ns.length).map fun i => (ns.getD i ByteArray.empty, rs.getD i [])
theorem lines_length (ns : List ByteArray) (rs : List (List ByteArray)) : (lines ns rs).length = ns.length := by simp [lines]
theorem lines_get (ns : List ByteArray) (rs : List (List ByteArray)) (k : Nat) (h : k < ns.length) : (lines ns rs)[k]'(by rw [lines_length]; exact h) = (ns[k], rs.getD k []) := by
  simp [lines, List.getD_eq_getElem?_getD, List.getElem?_eq_getElem h]
theorem lines_take (ns : List ByteArray) (rs : List (List ByteArray)) (k : Nat) (h : k < ns.length) : (lines ns rs).take (k + 1) = (lines ns rs).take k ++ [(ns[k], rs.getD k [])] := by
  rw [take_snoc _ _ (by rw [lines_length]; exact h), lines_get ns rs k h]
theorem lines_len_take (ns : List ByteArray) (rs : List (List ByteArray)) (k : Nat) (h : k ≤ ns.length) : ((lines ns rs).take k).length = k := by rw [List.length_take, lines_length]; omega
end Go.Proofs.Qxb6612196a.ExPlain
