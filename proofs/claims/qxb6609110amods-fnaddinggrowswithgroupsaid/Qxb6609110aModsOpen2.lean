/-
  A SLICE OF INTS, AND A SLICE OF SUCH SLICES, THAT CAME IN, OPENED.
-/
import Derived.Test.Qxb6609110aModsAdd1
import Derived.ProofKit
import Derived.Deep.Slices
import Derived.OpenShut
namespace Go.Proofs.Qxb6609110aMods
open Go.RowKit Plain Go.Deep Go.ChangeShapes Go.WideShapes

theorem Trym.cells3 : Trym.prog.cellsOf 3 = 1 := by kernel_rfl
theorem Trym.cells33 : Trym.prog.cellsOf 33 = 1 := by kernel_rfl

theorem cell_lt2 {w : World} {p : Addr} {v : Value} (h : w.cell? p = some v) : p.block < w.heap.size := by
  unfold World.cell? at h
  by_cases hb : p.block < w.heap.size
  · exact hb
  · rw [Array.getElem?_eq_none (by omega)] at h
    simp at h

theorem open_nums {H : Type} {enc : TypeId × Value → H} {W : World} {a : Option Addr} {len cap : Nat} {d : DataW H} {p : List MemPlace}
    (h : DataW.Trod enc Trym.prog W 0 (fun _ => true) true 33 (.slice a len cap) d p) : ∃ zs, NRow W a len cap zs := by
  obtain ⟨fuel, hf⟩ := h
  rcases open_ints Trym.underlying33 Trym.underlying3 Trym.cells3 hf with ⟨hcs, _⟩ | ⟨x, l, c, zs, hcs, _, hl, hm, hz, _, hcell, _⟩
  · simp [Value.cells] at hcs
    obtain ⟨rfl, rfl, rfl⟩ := hcs
    exact ⟨[], rfl, Nat.le_refl _, by unfold maxLen; omega, fun _ => rfl, fun h => absurd h (by omega)⟩
  · simp [Value.cells] at hcs
    obtain ⟨rfl, rfl, rfl⟩ := hcs
    have hz' : zs.length = cap := by simpa using hz
    refine ⟨zs.take len, by simp; omega, hl, hm, by simp, fun h0 => ?_⟩
    obtain ⟨b, off, rfl, hc⟩ := ints_at hcell (by omega)
    refine ⟨b, off, rfl, ?_, fun i hi => ?_⟩
    · exact cell_lt2 (hc 0 (by omega))
    · rw [hc i (by omega)]
      simp only [List.getD]
      rw [List.getElem?_take_of_lt hi]

theorem open_lens {H : Type} {enc : TypeId × Value → H} {W : World} {a : Option Addr} {len cap : Nat} {d : DataW H} {p : List MemPlace}
    (h : DataW.Trod enc Trym.prog W 0 (fun _ => true) true 34 (.slice a len cap) d p) : ∃ Ls, LRow W a len cap Ls := by
  obtain ⟨fuel, hf⟩ := h
  rcases open_slice1 Trym.underlying34 Trym.cells33 hf with ⟨hcs, _⟩ | ⟨x, l, c, m, n, V, D, Pl, hcs, _, hl, hm, hmm, _, hx⟩
  · simp [Value.cells] at hcs
    obtain ⟨rfl, rfl, rfl⟩ := hcs
    exact ⟨[], rfl, Nat.le_refl _, by unfold maxLen; omega, fun _ => rfl, fun h => absurd h (by omega)⟩
  · simp [Value.cells] at hcs
    obtain ⟨rfl, rfl, rfl⟩ := hcs
    have hlm : len ≤ m := by rw [hmm]; split <;> omega
    have each : ∀ i, i < len → ∃ q : Nat, ∃ A C, W.cell? (x.add i) = some (.slice A q C) := by
      intro i hi
      obtain ⟨e0, t0⟩ := hx i (by omega)
      rcases open_ints Trym.underlying33 Trym.underlying3 Trym.cells3 t0 with ⟨g0, _⟩ | ⟨y, l', c', _, g0, _⟩
      · simp only [List.cons.injEq, and_true] at g0
        exact ⟨0, _, _, by rw [e0, g0]⟩
      · simp only [List.cons.injEq, and_true] at g0
        exact ⟨l', _, _, by rw [e0, g0]⟩
    obtain ⟨q, hq⟩ := choose_lt each
    refine ⟨(List.range len).map q, by simp, hl, hm, by simp, fun h0 => ?_⟩
    obtain ⟨b, off, spot⟩ := x
    obtain ⟨A0, C0, hq0⟩ := hq 0 h0
    have hspot : spot = none := by simpa [Addr.add] using World.cell?_spot hq0
    subst hspot
    refine ⟨b, off, rfl, ?_, fun i hi => ?_⟩
    · have := cell_lt2 hq0
      rwa [add_plain] at this
    · have e : ((List.range len).map q).getD i 0 = q i := by
        simp [List.getD, List.getElem?_range hi]
      rw [e]
      obtain ⟨A, C, e0⟩ := hq i hi
      rw [add_plain] at e0
      exact ⟨A, C, e0⟩

end Go.Proofs.Qxb6609110aMods
