/-
  THE WALK of toPermissions.
-/
import Derived.Test.Qxb6609110aModsOps
import Derived.RegionTactic
import Derived.BigRegion
namespace Go.Proofs.Qxb6609110aMods
open Go.RowKit Plain

theorem Trym.info32 : (Trym.prog.info? 32).map (fun i => (i.zero, i.size, i.bytes)) = some (some (.agg #[.string ByteArray.empty, .string ByteArray.empty]), 2, 32) := by kernel_rfl

/-- the first k permissions stand in the cells xs -/
def Laid (ps : List Pm) (k : Nat) (xs : List Value) : Prop :=
  ∀ i, i < k → xs[i * 2]? = some (.string (ps.getD i default).1) ∧ xs[i * 2 + 1]? = some (.string (ps.getD i default).2)

theorem Laid.step {ps : List Pm} {k : Nat} {xs : List Value} {p0 p1 : ByteArray} (h : Laid ps k xs) (hk : k * 2 + 1 < xs.length) (hp : ps.getD k default = (p0, p1)) :
    Laid ps (k + 1) ((xs.set (k * 2) (.string p0)).set (k * 2 + 1) (.string p1)) := by
  intro i hi
  by_cases e : i = k
  · subst e
    rw [hp]
    constructor
    · rw [List.getElem?_set_ne (by omega), List.getElem?_set_self (by omega)]
    · rw [List.getElem?_set_self (by simp; omega)]
  · obtain ⟨h0, h1⟩ := h i (by omega)
    constructor
    · rw [List.getElem?_set_ne (by omega), List.getElem?_set_ne (by omega), h0]
    · rw [List.getElem?_set_ne (by omega), List.getElem?_set_ne (by omega), h1]

set_option maxHeartbeats 1000000 in
theorem perms_some (b off len cap : Nat) (ps : List Pm) (w : World) (hl : ps.length = len) (hlen : len ≤ 65537) (hb : b < w.heap.size)
    (hc : ∀ i, i < len → w.cell? ⟨b, off + i * 2, none⟩ = some (.string (ps.getD i default).1) ∧ w.cell? ⟨b, off + i * 2 + 1, none⟩ = some (.string (ps.getD i default).2)) :
    Calls Trym.prog 9 #[.slice (some ⟨b, off, none⟩) len cap] w fun e w' => e = .returned (.slice (some ⟨w.heap.size, 0, none⟩) len len) ∧ Below w.heap.size w w' ∧
      ∃ xs, w'.ownsRow w.heap.size 32 2 (.slice (some ⟨w.heap.size, 0, none⟩) len len) len xs ∧ Laid ps len xs := by
  obtain ⟨i0, hi, hz0, hz1, hz2⟩ := info_parts Trym.info32
  obtain ⟨w1, hrun, hown, hgrow⟩ := run_make_full (P := Trym.prog) w w.heap.size 27 32 i0 _ 2 Trym.underlying27 hi hz0 hz1 .i64 .i64 len (by rw [hz2]; omega) (by unfold maxLen; omega) (Nat.le_refl _)
  have hbel : Below w.heap.size w w1 := (Below.refl _ _).grown hgrow (Nat.le_refl _) (fun k hk => by simp at hk)
  have hnil := fun W => Lib.run_eql_slice_nil (P := Trym.prog) W 22 30 (some ⟨b, off, none⟩) len cap 0 0 Trym.underlying22
  have HL : Hid (ps.length = len) := hl
  clear hl hgrow
  go_enter Trym.func9, Trym.ntmps9
  go_wp2
  clear hrun hnil
  go_loopw [4] (fun i wr => ∃ (k : Nat) (xs : List Value), k ≤ len ∧ i = .int .i64 k ∧ Below w.heap.size w wr ∧ wr.ownsRow w.heap.size 32 2 (.slice (some ⟨w.heap.size, 0, none⟩) len len) len xs ∧ Laid ps k xs)
    (fun i _ => len - (intOf i).toNat)
  case atStart => exact ⟨0, _, Nat.zero_le _, rfl, hbel, hown, fun i hi => absurd hi (by omega)⟩
  case round =>
    obtain ⟨k, xs, hk, rfl, hnx, ho, hlaid⟩ := hrel
    clear hown hbel
    by_cases hlt : k < len
    · obtain ⟨p0, p1, hp⟩ : ∃ p0 p1, ps.getD k default = (p0, p1) := ⟨_, _, rfl⟩
      have h0 : wr.cell? ⟨b, off + k * 2, none⟩ = some (.string p0) := by have := (hnx.cell (by exact hb)).trans (hc k hlt).1; rwa [hp] at this
      have h1 : wr.cell? ⟨b, off + k * 2 + 1, none⟩ = some (.string p1) := by have := (hnx.cell (by exact hb)).trans (hc k hlt).2; rwa [hp] at this
      have HP : Hid (ps.getD k default = (p0, p1)) := hp
      have hxl : xs.length = len * 2 := ho.1
      have g0 : wr.cell? ⟨w.heap.size, k * 2, none⟩ = some (xs[k * 2]'(by omega)) := by rw [ho.cellAt (k * 2) (by omega)]; exact List.getElem?_eq_getElem _
      have g1 : wr.cell? ⟨w.heap.size, k * 2 + 1, none⟩ = some (xs[k * 2 + 1]'(by omega)) := by rw [ho.cellAt (k * 2 + 1) (by omega)]; exact List.getElem?_eq_getElem _
      have f0 := ho.frozenAt (k * 2)
      have f1 := ho.frozenAt (k * 2 + 1)
      generalize xs[k * 2]'(by omega) = u0 at g0
      generalize xs[k * 2 + 1]'(by omega) = u1 at g1
      have HX : Hid (xs.length = len * 2) := hxl
      clear hp hc hxl
      go_wp2
      go_region
      have S1 := ho.stored (k * 2) (.string p0)
      have S2 := S1.1.stored (k * 2 + 1) (.string p1)
      have R1 : Below w.heap.size w ((wr.setCell ⟨w.heap.size, k * 2, none⟩ (.string p0)).setCell ⟨w.heap.size, k * 2 + 1, none⟩ (.string p1)).drew :=
        ((hnx.setCell (by simp) _).setCell (by simp) _).drew
      have R2 := S2.1
      have R3 := hlaid.step (by rw [HX.out]; omega) HP.out
      clear S1 S2 ho hlaid g0 g1 f0 f1 h0 h1
      go_wp2
      go_roundw
      case rel => exact ⟨k + 1, _, by omega, by go_num, R1, R2, R3⟩
      case measure => simp [intOf]; omega
    · go_wp2
      go_ret
      exact ⟨rfl, hnx, xs, ho, by have e : k = len := by omega
                                  rwa [e] at hlaid⟩

set_option maxHeartbeats 400000 in
theorem perms_empty (a : Addr) (cap : Nat) (w : World) :
    Calls Trym.prog 9 #[.slice (some a) 0 cap] w fun e w' => e = .returned (.slice (some ⟨w.heap.size, 0, none⟩) 0 0) ∧ Below w.heap.size w w' := by
  obtain ⟨i0, hi, hz0, hz1, hz2⟩ := info_parts Trym.info32
  obtain ⟨w1, hrun, _, hgrow⟩ := run_make_full (P := Trym.prog) w w.heap.size 27 32 i0 _ 2 Trym.underlying27 hi hz0 hz1 .i64 .i64 0 (by omega) (by unfold maxLen; omega) (Nat.le_refl _)
  have hbel : Below w.heap.size w w1 := (Below.refl _ _).grown hgrow (Nat.le_refl _) (fun k hk => by simp at hk)
  have hnil := fun W => Lib.run_eql_slice_nil (P := Trym.prog) W 22 30 (some a) 0 cap 0 0 Trym.underlying22
  simp only [Int.natCast_zero] at hrun
  clear hgrow
  go_enter Trym.func9, Trym.ntmps9
  go_wp2
  refine wp_loop_rounds 1 ?_
  rw [rounds_succ]
  go_wp2
  go_ret
  exact ⟨rfl, hbel⟩

set_option maxHeartbeats 400000 in
theorem perms_nil (len cap : Nat) (w : World) :
    Calls Trym.prog 9 #[.slice none len cap] w fun e w' => e = .returned (.slice none 0 0) ∧ w' = w := by
  have hnil := fun W => Lib.run_eql_slice_nil (P := Trym.prog) W 22 30 none len cap 0 0 Trym.underlying22
  go_enter Trym.func9, Trym.ntmps9
  go_wp2
  go_ret
  exact ⟨rfl, rfl⟩

/-- an owned row of permissions is a slice of permissions that can be read -/
theorem prow_of_own {w : World} {base g len cap : Nat} {ps : List Pm} {xs : List Value} (hl : ps.length = len)
    (ho : w.ownsRow base 32 2 (.slice (some ⟨g, 0, none⟩) len cap) len xs) (hx : Laid ps len xs) : PRow w (some ⟨g, 0, none⟩) len cap ps := by
  have hlt := ho.lt g rfl
  rcases ho.2 with ⟨h', _⟩ | ⟨g', cap', cur, h', _, _, hnc, hcm, _⟩
  · simp at h'
  · simp only [Value.slice.injEq, Option.some.injEq, Addr.mk.injEq, and_true, true_and] at h'
    obtain ⟨rfl, rfl⟩ := h'
    refine ⟨hl, hnc, hcm, by simp, fun _ => ⟨g, 0, rfl, hlt.2, fun i hi => ?_⟩⟩
    have h0 := ho.cellAt (i * 2) (by omega)
    have h1 := ho.cellAt (i * 2 + 1) (by omega)
    rw [Nat.zero_add]
    exact ⟨h0.trans (hx i hi).1, h1.trans (hx i hi).2⟩

theorem perms_any (a : Option Addr) (len cap : Nat) (ps : List Pm) (w : World) (hp : PRow w a len cap ps) (hlen : len ≤ 65537) :
    Calls Trym.prog 9 #[.slice a len cap] w fun e w' => ∃ a' cap', e = .returned (.slice a' len cap') ∧ PRow w' a' len cap' ps ∧ Below w.heap.size w w' := by
  obtain ⟨hl, hcap, _, hn, hs⟩ := hp
  by_cases h0 : 0 < len
  · obtain ⟨b, off, rfl, hb, hc⟩ := hs h0
    refine (perms_some b off len cap ps w hl hlen hb hc).mono ?_
    rintro e w' ⟨rfl, hbel, xs, ho, hx⟩
    exact ⟨_, _, rfl, prow_of_own hl ho hx, hbel⟩
  · obtain rfl : len = 0 := by omega
    rcases a with _ | a
    · refine (perms_nil 0 cap w).mono ?_
      rintro e w' ⟨rfl, rfl⟩
      exact ⟨_, _, rfl, ⟨hl, Nat.le_refl _, by unfold maxLen; omega, fun _ => rfl, fun h => absurd h (by omega)⟩, Below.refl _ _⟩
    · refine (perms_empty a cap w).mono ?_
      rintro e w' ⟨rfl, hbel⟩
      exact ⟨_, _, rfl, ⟨hl, Nat.le_refl _, by unfold maxLen; omega, fun _ => rfl, fun h => absurd h (by omega)⟩, hbel⟩
end Go.Proofs.Qxb6609110aMods
