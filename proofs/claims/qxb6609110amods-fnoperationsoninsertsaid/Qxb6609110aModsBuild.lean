/-
  A SLICE OF PERMISSIONS THAT IS BUILT WITHIN ITS CAPACITY, one by one.
-/
import Derived.Test.Qxb6609110aModsHand
namespace Go.Proofs.Qxb6609110aMods
open Go.RowKit Plain

/-- block g is a row of cap permissions, of which the first m are Q's first m -/
def PBuild (w : World) (g m cap : Nat) (Q : List Pm) : Prop :=
  ∃ cur : Array Value, w.heap[g]? = some (.cells cur 32 (0, 0)) ∧ cur.size = cap * 2 ∧ Laid Q m cur.toList

theorem PBuild.lt {w : World} {g m cap : Nat} {Q : List Pm} (h : PBuild w g m cap Q) : g < w.heap.size := by
  obtain ⟨cur, hg, _⟩ := h
  exact (Array.getElem?_eq_some_iff.1 hg).1

theorem PBuild.cell {w : World} {g m cap : Nat} {Q : List Pm} (h : PBuild w g m cap Q) (j : Nat) (hj : j < cap * 2) : ∃ u, w.cell? ⟨g, j, none⟩ = some u := by
  obtain ⟨cur, hg, hs, _⟩ := h
  exact ⟨cur[j]'(by omega), by rw [cell_of_row w g j cur 32 (0, 0) hg]; exact Array.getElem?_eq_getElem _⟩

theorem PBuild.frozen {w : World} {g m cap : Nat} {Q : List Pm} (h : PBuild w g m cap Q) (j : Nat) : w.frozen? ⟨g, j, none⟩ = false := by
  obtain ⟨cur, hg, _⟩ := h
  exact frozen_of_row w g j cur 32 hg

theorem PBuild.alloc {w : World} {g m cap : Nat} {Q : List Pm} (h : PBuild w g m cap Q) (o : Obj) : PBuild (w.alloc o) g m cap Q := by
  have hlt := h.lt
  obtain ⟨cur, hg, h2⟩ := h
  exact ⟨cur, by rw [Below.heap_alloc w o g hlt]; exact hg, h2⟩

theorem PBuild.drew {w : World} {g m cap : Nat} {Q : List Pm} (h : PBuild w g m cap Q) : PBuild w.drew g m cap Q := h

theorem PBuild.push {w : World} {g m cap : Nat} {Q : List Pm} {p0 p1 : ByteArray} (h : PBuild w g m cap Q) (hm : m < cap) (hp : Q.getD m default = (p0, p1)) :
    PBuild ((w.setCell ⟨g, m * 2, none⟩ (.string p0)).setCell ⟨g, m * 2 + 1, none⟩ (.string p1)) g (m + 1) cap Q := by
  obtain ⟨cur, hg, hs, hl⟩ := h
  have h1 := heap_setCell_same w g (m * 2) cur 32 (.string p0) hg
  have h2 := heap_setCell_same _ g (m * 2 + 1) _ 32 (.string p1) h1
  refine ⟨_, h2, by simpa using hs, ?_⟩
  rw [Array.toList_setIfInBounds, Array.toList_setIfInBounds]
  exact hl.step (by simp; omega) hp

theorem PBuild.row {w : World} {g m cap : Nat} {Q : List Pm} (h : PBuild w g m cap Q) (hm : m ≤ cap) (hcap : cap ≤ maxLen) (hq : Q.length = m) : PRow w (some ⟨g, 0, none⟩) m cap Q := by
  have hlt := h.lt
  obtain ⟨cur, hg, hs, hl⟩ := h
  refine ⟨hq, hm, hcap, by simp, fun _ => ⟨g, 0, rfl, hlt, fun i hi => ?_⟩⟩
  rw [Nat.zero_add, cell_of_row w g _ cur 32 (0, 0) hg, cell_of_row w g _ cur 32 (0, 0) hg]
  have := hl i hi
  simpa using this

theorem make_ins (w : World) (len : Nat) (hlen : len ≤ 65536) (Q : List Pm) :
    ∃ w2, (Instr.makeSlice 27 (.int .i64 0) (.int .i64 ((len : Int) + 1))).run Trym.prog w = .ok (.slice (some ⟨w.heap.size, 0, none⟩) 0 (len + 1)) w2 ∧ Below w.heap.size w w2 ∧ PBuild w2 w.heap.size 0 (len + 1) Q := by
  obtain ⟨i0, hi, hz0, hz1, hz2⟩ := info_parts Trym.info32
  have hr := run_make (P := Trym.prog) w 27 32 i0 _ Trym.underlying27 hi hz0 .i64 .i64 0 ((len : Int) + 1) (by omega) (by omega) (by rw [hz2]; omega) (by omega)
  have e : ((len : Int) + 1).toNat = len + 1 := by omega
  rw [e] at hr
  refine ⟨_, hr, (Below.refl _ _).alloc (Nat.le_refl _) _, ⟨_, heap_alloc_new w _, ?_, fun i hi => absurd hi (by omega)⟩⟩
  rw [size_madeCells, hz1]

end Go.Proofs.Qxb6609110aMods
