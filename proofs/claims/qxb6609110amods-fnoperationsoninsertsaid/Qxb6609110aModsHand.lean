/-
  FACTS THAT ARE HANDED ON from world to world: slices of permissions, slices of strings; a slice of permissions cut in two.
-/
import Derived.Test.Qxb6609110aModsPerms
namespace Go.Proofs.Qxb6609110aMods
open Go.RowKit Plain

theorem PRow.later {w w' : World} {a : Option Addr} {len cap : Nat} {ps : List Pm} (h : PRow w a len cap ps) (hb : Below w.heap.size w w') : PRow w' a len cap ps := by
  obtain ⟨h1, h2, h3, h4, h5⟩ := h
  refine ⟨h1, h2, h3, h4, fun h0 => ?_⟩
  obtain ⟨b, off, ha, hlt, hc⟩ := h5 h0
  refine ⟨b, off, ha, Nat.lt_of_lt_of_le hlt hb.size, fun i hi => ?_⟩
  rw [hb.cell (p := ⟨b, off + i * 2, none⟩) hlt, hb.cell (p := ⟨b, off + i * 2 + 1, none⟩) hlt]
  exact hc i hi

/-- a slice of strings, read in w -/
def SRow (w : World) (ad : Option Addr) (l : List ByteArray) : Prop :=
  (l = [] → ad = none) ∧ (0 < l.length → ∃ g, ad = some ⟨g, 0, none⟩ ∧ g < w.heap.size ∧ ∀ i, i < l.length → w.cell? ⟨g, i, none⟩ = some (.string (l.getD i default)))

theorem SRow.later {w w' : World} {ad : Option Addr} {l : List ByteArray} (h : SRow w ad l) (hb : Below w.heap.size w w') : SRow w' ad l := by
  refine ⟨h.1, fun h0 => ?_⟩
  obtain ⟨g, ha, hlt, hc⟩ := h.2 h0
  refine ⟨g, ha, Nat.lt_of_lt_of_le hlt hb.size, fun i hi => ?_⟩
  rw [hb.cell (p := ⟨g, i, none⟩) hlt]
  exact hc i hi

theorem SOwn.read {w : World} {B : Nat} {v : Value} {l : List ByteArray} (h : SOwn w B v l) : ∃ ad cap, v = .slice ad l.length cap ∧ SRow w ad l := by
  obtain ⟨ho, hn⟩ := h
  rcases ho.2 with ⟨hv, h0⟩ | ⟨g, cap, cur, hv, _, hg, hnc, hcm, hcs, htake⟩
  · refine ⟨none, 0, by rw [hv, h0], fun _ => rfl, fun h => absurd h (by omega)⟩
  · refine ⟨_, cap, hv, fun e => ?_, fun _ => ⟨g, rfl, ?_, fun i hi => ?_⟩⟩
    · have := hn e
      rw [hv] at this
      simp at this
    · subst hv
      exact (ho.lt g rfl).2
    · subst hv
      rw [ho.cellAt i (by omega)]
      simp [List.getD, List.getElem?_eq_getElem hi]

theorem SRow.isNone {w : World} {ad : Option Addr} {l : List ByteArray} (h : SRow w ad l) : ad.isNone = ((l.length : Int) == 0) := by
  rcases l with _ | ⟨x, l⟩
  · rw [h.1 rfl]; rfl
  · obtain ⟨g, ha, _⟩ := h.2 (by simp)
    rw [ha]
    have : (((x :: l).length : Int) == 0) = false := by simp; omega
    rw [this]; rfl

theorem elem22 : Trym.prog.elem 22 = 30 := by kernel_rfl
theorem size30 (W : World) : (Go.sizeOf 30).run Trym.prog W = .ok 2 W := by kernel_rfl

theorem cut_left (w : World) {a : Option Addr} {len cap : Nat} {ps : List Pm} (k : Nat) (hk : k ≤ len) (h : PRow w a len cap ps) :
    (∀ W, (Instr.slice 22 (.slice a len cap) none (some (.int .i64 (k : Int))) none).run Trym.prog W = .ok (.slice a k cap) W) ∧ PRow w a k cap (ps.take k) := by
  obtain ⟨h1, h2, h3, h4, h5⟩ := h
  refine ⟨fun W => ?_, by simp; omega, by omega, h3, h4, fun h0 => ?_⟩
  · rw [run_slice_h W 22 _ _ _ (by rw [elem22]; exact Trym.underlying22) .i64 _ (by omega) (by omega), elem22, size30]
    rcases a with _ | a
    · simp [Result.andThen, sliced]
    · by_cases hc : cap = 0 <;> simp [Result.andThen, sliced, hc, Addr.add]
      all_goals (split <;> simp_all)
  · obtain ⟨b, off, ha, hlt, hc⟩ := h5 (by omega)
    refine ⟨b, off, ha, hlt, fun i hi => ?_⟩
    have e : (ps.take k).getD i default = ps.getD i default := by
      simp only [List.getD]; rw [List.getElem?_take_of_lt hi]
    rw [e]
    exact hc i (by omega)

theorem cut_right (w : World) {a : Option Addr} {len cap : Nat} {ps : List Pm} (k : Nat) (hk : k ≤ len) (h : PRow w a len cap ps) :
    ∃ a2, (∀ W, (Instr.slice 22 (.slice a len cap) (some (.int .i64 (k : Int))) none none).run Trym.prog W = .ok (.slice a2 (len - k) (cap - k)) W) ∧ PRow w a2 (len - k) (cap - k) (ps.drop k) := by
  obtain ⟨h1, h2, h3, h4, h5⟩ := h
  refine ⟨if cap = k then a else a.map (·.add (k * 2)), fun W => ?_, by simp; omega, by omega, by omega, fun hn => ?_, fun h0 => ?_⟩
  · rw [run_slice_l W 22 _ _ _ (by rw [elem22]; exact Trym.underlying22) .i64 _ (by omega) (by omega), elem22, size30]
    simp [Result.andThen, sliced]
  · by_cases hc : cap = k
    · omega
    · rw [if_neg hc] at hn
      have : a = none := by simpa using hn
      have := h4 this
      omega
  · obtain ⟨b, off, ha, hlt, hc⟩ := h5 (by omega)
    rw [if_neg (by omega), ha]
    refine ⟨b, off + k * 2, by simp [Addr.add], hlt, fun i hi => ?_⟩
    have e : (ps.drop k).getD i default = ps.getD (k + i) default := by
      simp only [List.getD]; rw [List.getElem?_drop]
    rw [e, show off + k * 2 + i * 2 = off + (k + i) * 2 by omega]
    exact hc (k + i) (by omega)

end Go.Proofs.Qxb6609110aMods
