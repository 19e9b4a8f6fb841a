/-
  THE PLAIN SIDE: what the Go functions of this seat compute, on lists; no Go in sight.
-/
namespace Go.Proofs.Qxb6609110aMods.Plain

/-- a permission: its operation, its object -/
abbrev Pm := ByteArray × ByteArray

/-- is the permission on the object? as Go's '==' on strings has it: byte by byte -/
def onB (obj : ByteArray) (p : Pm) : Bool := p.2.toList == obj.toList

/-- the operations of those that are on the object, in order -/
def opsOf (obj : ByteArray) (ps : List Pm) : List ByteArray := (ps.filter (onB obj)).map Prod.fst

theorem opsOf_append (obj : ByteArray) (a b : List Pm) : opsOf obj (a ++ b) = opsOf obj a ++ opsOf obj b := by simp [opsOf]
theorem opsOf_nil (obj : ByteArray) : opsOf obj [] = [] := rfl
theorem opsOf_one_yes (obj : ByteArray) (p : Pm) (h : onB obj p = true) : opsOf obj [p] = [p.1] := by simp [opsOf, h]
theorem opsOf_one_no (obj : ByteArray) (p : Pm) (h : onB obj p = false) : opsOf obj [p] = [] := by simp [opsOf, h]
theorem opsOf_len (obj : ByteArray) (ps : List Pm) : (opsOf obj ps).length ≤ ps.length := by
  simp only [opsOf, List.length_map]; exact List.length_filter_le _ _

theorem take_snoc {α : Type} (l : List α) (d : α) (k : Nat) (h : k < l.length) : l.take (k + 1) = l.take k ++ [l.getD k d] := by
  rw [List.take_succ_eq_append_getElem h]; simp [List.getD, List.getElem?_eq_getElem h]

end Go.Proofs.Qxb6609110aMods.Plain
