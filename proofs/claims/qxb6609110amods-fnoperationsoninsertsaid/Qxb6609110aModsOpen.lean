/-
  A SLICE OF PERMISSIONS THAT CAME IN, OPENED.
-/
import Derived.Test.Qxb6609110aModsOps
import Derived.ProofKit
import Derived.Deep.SlicePairs
import Derived.OpenShut
namespace Go.Proofs.Qxb6609110aMods
open Go.RowKit Plain Go.Deep Go.ChangeShapes Go.WideShapes

theorem Trym.cells30 : Trym.prog.cellsOf 30 = 2 := by kernel_rfl
theorem Trym.cells9 : Trym.prog.cellsOf 9 = 1 := by kernel_rfl

theorem cell_lt {w : World} {p : Addr} {v : Value} (h : w.cell? p = some v) : p.block < w.heap.size := by
  unfold World.cell? at h
  by_cases hb : p.block < w.heap.size
  · exact hb
  · rw [Array.getElem?_eq_none (by omega)] at h
    simp at h

theorem open_perms {H : Type} {enc : TypeId × Value → H} {W : World} {a : Option Addr} {len cap : Nat} {d : DataW H} {p : List MemPlace}
    (h : DataW.Trod enc Trym.prog W 0 (fun _ => true) true 22 (.slice a len cap) d p) : ∃ ps, PRow W a len cap ps := by
  obtain ⟨fuel, hf⟩ := h
  rcases open_slice_pairs Trym.underlying22 Trym.underlying30 Trym.cells30 rfl rfl Trym.cells9 Trym.cells9 hf with ⟨hcs, _⟩ | ⟨x, l, c, m, n, V0, V1, D0, D1, P0, P1, hcs, _, hl, hm, hmm, _, hx⟩
  · simp [Value.cells] at hcs
    obtain ⟨rfl, rfl, rfl⟩ := hcs
    exact ⟨[], rfl, Nat.le_refl _, by unfold maxLen; omega, fun _ => rfl, fun h => absurd h (by omega)⟩
  · simp [Value.cells] at hcs
    obtain ⟨rfl, rfl, rfl⟩ := hcs
    have hlm : len ≤ m := by rw [hmm]; split <;> omega
    have each : ∀ i, i < len → ∃ q : Pm, W.cell? (x.add (i * 2)) = some (.string q.1) ∧ W.cell? (x.add (i * 2 + 1)) = some (.string q.2) := by
      intro i hi
      obtain ⟨e0, e1, t0, t1⟩ := hx i (by omega)
      obtain ⟨s0, g0, _⟩ := DataW.trod_string Trym.underlying9 t0
      obtain ⟨s1, g1, _⟩ := DataW.trod_string Trym.underlying9 t1
      simp only [List.cons.injEq, and_true] at g0 g1
      exact ⟨(s0, s1), by rw [e0, g0], by rw [e1, g1]⟩
    obtain ⟨q, hq⟩ := choose_lt each
    refine ⟨(List.range len).map q, by simp, hl, hm, by simp, fun h0 => ?_⟩
    obtain ⟨b, off, spot⟩ := x
    have hspot : spot = none := by simpa [Addr.add] using World.cell?_spot (hq 0 h0).1
    subst hspot
    refine ⟨b, off, rfl, ?_, fun i hi => ?_⟩
    · have := cell_lt (hq 0 h0).1
      rwa [add_plain] at this
    · have e : ((List.range len).map q).getD i default = q i := by
        simp [List.getD, List.getElem?_range hi]
      rw [e]
      obtain ⟨e0, e1⟩ := hq i hi
      rw [add_plain] at e0 e1
      exact ⟨e0, by rw [Nat.add_assoc]; exact e1⟩

end Go.Proofs.Qxb6609110aMods
