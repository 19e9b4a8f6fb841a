/-
  THE PLAIN SIDE: what the Go functions of this seat compute, on lists of bytes; no Go in sight.
-/
namespace Go.Proofs.Qxb6609060aMods.Plain

/-- a letter -/
def letB (c : Int) : Bool := decide (65 ≤ c ∧ c ≤ 90 ∨ 97 ≤ c ∧ c ≤ 122)
/-- a byte that a scheme may hold -/
def schB (c : Int) : Bool := decide (65 ≤ c ∧ c ≤ 90 ∨ 97 ≤ c ∧ c ≤ 122 ∨ 48 ≤ c ∧ c ≤ 57 ∨ c = 43 ∨ c = 46 ∨ c = 45)

theorem schB_of_letB {c : Int} (h : letB c = true) : schB c = true := by
  simp only [letB, schB, decide_eq_true_eq] at *; omega

/-- all bytes are a scheme's -/
def allS (l : List UInt8) : Bool := l.all fun c => schB (c.toNat : Int)
/-- some byte is a letter -/
def hasL (l : List UInt8) : Bool := l.any fun c => letB (c.toNat : Int)

/-- from the back -/
def scan : List UInt8 → Bool
  | [] => false
  | c :: t => bif schB (c.toNat : Int) then letB (c.toNat : Int) || scan t else false
/-- does the text end in a scheme? -/
def ends (l : List UInt8) : Bool := scan l.reverse

theorem ends_nil : ends [] = false := rfl
theorem ends_snoc (l : List UInt8) (c : UInt8) : ends (l ++ [c]) = bif schB (c.toNat : Int) then letB (c.toNat : Int) || ends l else false := by
  simp [ends, scan]

theorem scan_append (b a : List UInt8) : scan (b ++ a) = bif b.all (fun c => schB (c.toNat : Int)) then b.any (fun c => letB (c.toNat : Int)) || scan a else scan b := by
  induction b with
  | nil => simp [scan]
  | cons c t ih =>
    simp only [List.cons_append, scan, ih, List.all_cons, List.any_cons]
    cases schB (c.toNat : Int) <;> cases letB (c.toNat : Int) <;> cases t.all (fun c => schB (c.toNat : Int)) <;> simp

theorem ends_append (a b : List UInt8) : ends (a ++ b) = bif allS b then hasL b || ends a else ends b := by
  simp [ends, allS, hasL, scan_append]

/-- THE LAW OF THE CUT -/
theorem cut_no (a b : List UInt8) (h : allS b = false) : ends (a ++ b) = ends b := by simp [ends_append, h]
theorem cut_yes (a b : List UInt8) (h : allS b = true) : ends (a ++ b) = (hasL b || ends a) := by simp [ends_append, h]

/-- THE LAW OF THE INSERT -/
theorem ins_letter (x y : List UInt8) (c : UInt8) (h : letB (c.toNat : Int) = true) : ends (x ++ [c] ++ y) = (allS y || ends (x ++ y)) := by
  rw [ends_append, ends_append x y, ends_snoc, schB_of_letB h, h]; cases allS y <;> simp
theorem ins_other (x y : List UInt8) (c : UInt8) (h : letB (c.toNat : Int) = false) (g : schB (c.toNat : Int) = true) : ends (x ++ [c] ++ y) = ends (x ++ y) := by
  rw [ends_append, ends_append x y, ends_snoc, g, h]; simp
theorem ins_none (x y : List UInt8) (c : UInt8) (g : schB (c.toNat : Int) = false) : ends (x ++ [c] ++ y) = ends y := by
  have e : ends y = ends ([] ++ y) := by simp
  rw [e, ends_append, ends_append [] y, ends_snoc, g]; simp [ends_nil]

theorem take_snoc (s : ByteArray) (k : Nat) (h : k < s.size) : s.data.toList.take (k + 1) = s.data.toList.take k ++ [s[k]] := by
  rw [List.take_succ_eq_append_getElem (by simpa using h)]; rfl

end Go.Proofs.Qxb6609060aMods.Plain
