/-
  THE THIRD LAW's CALLEES: bits.Len, words, adding, ZZholderAdding.
-/
import Derived.Test.Qxb6609110aModsAdd1
import Derived.Test.Qxb6609110aModsBits
namespace Go.Proofs.Qxb6609110aMods
open Go.RowKit Plain

theorem Trym.info39 : (Trym.prog.info? 39).map (fun i => (i.zero, i.size, i.bytes)) = some (some (.agg #[.string ByteArray.empty, .slice none 0 0, .int .i64 0]), 3, 48) := by kernel_rfl

set_option maxHeartbeats 400000 in
theorem len_any (x : Int) (w : World) (h0 : 0 ≤ x) (h1 : x ≤ 131072) :
    Calls Trym.prog 16 #[.int .u64 x] w fun e w' => e = .returned (.int .i64 (Lib.bitLen x.toNat)) ∧ w' = w := by
  go_enter Trym.func16, Trym.ntmps16
  go_wp2_with (go_at_call 19; refine (len64_any _ _ h0 h1).mono ?_; rintro e w' ⟨rfl, rfl⟩)
  go_ret
  exact ⟨rfl, rfl⟩

theorem len_nat (r : Nat) (w : World) (h1 : r ≤ 131072) :
    Calls Trym.prog 16 #[.int .u64 (r : Int)] w fun e w' => e = .returned (.int .i64 (Lib.bitLen r : Int)) ∧ w' = w := by
  have := len_any (r : Int) w (by omega) (by omega)
  simpa using this

/-- what 'adding' answers: r roles in the group's first set, g sets in the group, n nodes -/
def addV (r g n : Nat) : Int := (2 * (r : Int) + (Lib.bitLen r : Int) + 2 * (g : Int)) * (((n : Int) + 63) / 64) / 18

theorem bitLenAux_le_self : ∀ (f x : Nat), Lib.bitLenAux f x ≤ x
  | 0, x => Nat.zero_le _
  | f + 1, x => by
    simp only [Lib.bitLenAux]
    split
    · exact Nat.zero_le _
    · have := bitLenAux_le_self f (x / 2)
      omega
theorem bitLen_le_self (x : Nat) : Lib.bitLen x ≤ x := bitLenAux_le_self 64 x

set_option maxHeartbeats 400000 in
theorem words_any (hb sb : Nat) (aB : Option Addr) (nB cB : Nat) (w : World) (hn : nB ≤ 65536) (k1 : w.cell? ⟨hb, 0, none⟩ = some (.pointer (some ⟨sb, 0, none⟩))) (k2 : w.cell? ⟨sb, 7, none⟩ = some (.slice aB nB cB)) :
    Calls Trym.prog 17 #[.pointer (some ⟨hb, 0, none⟩)] w fun e w' => e = .returned (.int .i64 (((nB : Int) + 63) / 64)) ∧ w' = w := by
  go_enter Trym.func17, Trym.ntmps17
  go_wp2
  go_ret
  exact ⟨rfl, rfl⟩

theorem prod_bounds (x y a b : Int) (hx0 : 0 ≤ x) (hxa : x ≤ a) (hy0 : 0 ≤ y) (hyb : y ≤ b) : 0 ≤ x * y ∧ x * y ≤ a * b :=
  ⟨Int.mul_nonneg hx0 hy0, Int.le_trans (Int.mul_le_mul_of_nonneg_right hxa hy0) (Int.mul_le_mul_of_nonneg_left hyb (Int.le_trans hx0 hxa))⟩

set_option maxHeartbeats 1000000 in
theorem adding_any (hb sb gb go rb : Nat) (aB A : Option Addr) (nB cB nG cG len i r C : Nat) (w : World) (hn : nB ≤ 65536) (_hlen : len ≤ 65536) (hi : i < len) (hr : r ≤ 131072) (hg0 : 0 < nG) (hg : nG ≤ 131072)
    (k1 : w.cell? ⟨hb, 0, none⟩ = some (.pointer (some ⟨sb, 0, none⟩))) (k2 : w.cell? ⟨sb, 7, none⟩ = some (.slice aB nB cB)) (k3 : w.cell? ⟨sb, 11, none⟩ = some (.slice (some ⟨rb, 0, none⟩) len len))
    (k4 : w.cell? ⟨gb, go, none⟩ = some (.int .i64 (i : Int))) (k5 : w.cell? ⟨rb, i * 3 + 1, none⟩ = some (.slice A r C)) :
    Calls Trym.prog 15 #[.pointer (some ⟨hb, 0, none⟩), .slice (some ⟨gb, go, none⟩) nG cG] w fun e w' => e = .returned (.int .i64 (addV r nG nB)) ∧ Below w.heap.size w w' := by
  have hbl := bitLen_le_self r
  obtain ⟨p0, p1⟩ := prod_bounds (2 * (r : Int) + (Lib.bitLen r : Int) + 2 * (nG : Int)) (((nB : Int) + 63) / 64) 655360 1025 (by omega) (by omega) (by omega) (by omega)
  go_enter Trym.func15, Trym.ntmps15
  go_wp2
  go_region
  go_wp2_with fail
  refine (len_nat r _ hr).mono ?_
  rintro e w1 ⟨rfl, hw⟩
  subst w1
  go_wp2_with fail
  refine (words_any hb sb aB nB cB _ hn (by exact k1) (by exact k2)).mono ?_
  rintro e w1 ⟨rfl, hw⟩
  subst w1
  go_wp2
  go_ret
  exact ⟨rfl, (Below.refl _ _).drew⟩

/-- block g is a row of n role sets, of which the first k hold the inner slices' lengths -/
def SBuild (w : World) (g k n : Nat) (Ls : List Nat) : Prop :=
  ∃ cur : Array Value, w.heap[g]? = some (.cells cur 39 (0, 0)) ∧ cur.size = n * 3 ∧ ∀ i, i < k → ∃ A C, cur[i * 3 + 1]? = some (.slice A (Ls.getD i 0) C)

theorem SBuild.lt {w : World} {g m cap : Nat} {Q : List Nat} (h : SBuild w g m cap Q) : g < w.heap.size := by
  obtain ⟨cur, hg, _⟩ := h
  exact (Array.getElem?_eq_some_iff.1 hg).1
theorem SBuild.cell {w : World} {g m cap : Nat} {Q : List Nat} (h : SBuild w g m cap Q) (j : Nat) (hj : j < cap * 3) : ∃ u, w.cell? ⟨g, j, none⟩ = some u := by
  obtain ⟨cur, hg, hs, _⟩ := h
  exact ⟨cur[j]'(by omega), by rw [cell_of_row w g j cur 39 (0, 0) hg]; exact Array.getElem?_eq_getElem _⟩
theorem SBuild.frozen {w : World} {g m cap : Nat} {Q : List Nat} (h : SBuild w g m cap Q) (j : Nat) : w.frozen? ⟨g, j, none⟩ = false := by
  obtain ⟨cur, hg, _⟩ := h
  exact frozen_of_row w g j cur 39 hg
theorem SBuild.push {w : World} {g m cap : Nat} {Q : List Nat} {x z : Value} {A : Option Addr} {L C : Nat} (h : SBuild w g m cap Q) (hm : m < cap) (hp : Q.getD m 0 = L) :
    SBuild (((w.setCell ⟨g, m * 3, none⟩ x).setCell ⟨g, m * 3 + 1, none⟩ (.slice A L C)).setCell ⟨g, m * 3 + 2, none⟩ z) g (m + 1) cap Q := by
  obtain ⟨cur, hg, hs, hl⟩ := h
  have h1 := heap_setCell_same w g (m * 3) cur 39 x hg
  have h2 := heap_setCell_same _ g (m * 3 + 1) _ 39 (.slice A L C) h1
  have h3 := heap_setCell_same _ g (m * 3 + 2) _ 39 z h2
  refine ⟨_, h3, by simpa using hs, fun i hi => ?_⟩
  by_cases e : i = m
  · subst e
    refine ⟨A, C, ?_⟩
    rw [Array.getElem?_setIfInBounds_ne (by omega), Array.getElem?_setIfInBounds_self_of_lt (by simp; omega), hp]
  · obtain ⟨A', C', h'⟩ := hl i (by omega)
    refine ⟨A', C', ?_⟩
    rw [Array.getElem?_setIfInBounds_ne (by omega), Array.getElem?_setIfInBounds_ne (by omega), Array.getElem?_setIfInBounds_ne (by omega), h']

theorem make_sets (w : World) (len : Nat) (hlen : len ≤ 65536) (Ls : List Nat) :
    ∃ w2, (Instr.makeSlice 37 (.int .i64 (len : Int)) (.int .i64 (len : Int))).run Trym.prog w = .ok (.slice (some ⟨w.heap.size, 0, none⟩) len len) w2 ∧ Below w.heap.size w w2 ∧ SBuild w2 w.heap.size 0 len Ls := by
  obtain ⟨i0, hi, hz0, hz1, hz2⟩ := info_parts Trym.info39
  have hr := run_make (P := Trym.prog) w 37 39 i0 _ Trym.underlying37 hi hz0 .i64 .i64 (len : Int) (len : Int) (by omega) (by omega) (by rw [hz2]; omega) (by omega)
  simp only [Int.toNat_natCast] at hr
  refine ⟨_, hr, (Below.refl _ _).alloc (Nat.le_refl _) _, ⟨_, heap_alloc_new w _, ?_, fun i hi => absurd hi (by omega)⟩⟩
  rw [size_madeCells, hz1]

theorem cell_top (w : World) (c1 c2 : Array Value) (t1 t2 : TypeId) (v : Value) (h : c2[0]? = some v) : ((w.alloc (.cells c1 t1)).alloc (.cells c2 t2)).cell? ⟨w.heap.size + 1, 0, none⟩ = some v := by
  have e : ((w.alloc (.cells c1 t1)).alloc (.cells c2 t2)).heap[w.heap.size + 1]? = some (.cells c2 t2 (0, 0)) := by
    have := heap_alloc_new (w.alloc (.cells c1 t1)) (.cells c2 t2)
    simpa using this
  rw [cell_of_row _ _ 0 c2 t2 (0, 0) e]
  exact h
theorem cell_under (w : World) (c1 c2 : Array Value) (t1 t2 : TypeId) (j : Nat) (v : Value) (h : c1[j]? = some v) : ((w.alloc (.cells c1 t1)).alloc (.cells c2 t2)).cell? ⟨w.heap.size, j, none⟩ = some v := by
  have e : ((w.alloc (.cells c1 t1)).alloc (.cells c2 t2)).heap[w.heap.size]? = some (.cells c1 t1 (0, 0)) := by
    rw [Below.heap_alloc _ _ _ (by simp)]
    exact heap_alloc_new w _
  rw [cell_of_row _ _ j c1 t1 (0, 0) e]
  exact h
theorem cell_past (w : World) (o1 o2 : Obj) (p : Addr) (v : Value) (hp : p.block < w.heap.size) (h : w.cell? p = some v) : ((w.alloc o1).alloc o2).cell? p = some v := by
  have hb : Below w.heap.size w ((w.alloc o1).alloc o2) := ((Below.refl _ _).alloc (Nat.le_refl _) _).alloc (by simp) _
  rw [hb.cell hp]
  exact h

set_option maxRecDepth 100000 in
set_option maxHeartbeats 1000000 in
theorem holder_some (aB : Option Addr) (nB cB b off len cap : Nat) (gb go nG cG i : Nat) (Ls : List Nat) (w : World) (h1 : len ≤ 65536) (hb : b < w.heap.size)
    (hn : nB ≤ 65536) (hi : i < len) (hr : Ls.getD i 0 ≤ 131072) (hg0 : 0 < nG) (hg : nG ≤ 131072) (hgb : gb < w.heap.size) (hg4 : w.cell? ⟨gb, go, none⟩ = some (.int .i64 (i : Int)))
    (hc : ∀ i, i < len → ∃ A C, w.cell? ⟨b, off + i, none⟩ = some (.slice A (Ls.getD i 0) C)) :
    Calls Trym.prog 13 #[.slice aB nB cB, .slice (some ⟨b, off, none⟩) len cap, .slice (some ⟨gb, go, none⟩) nG cG] w fun e w' => e = .returned (.int .i64 (addV (Ls.getD i 0) nG nB)) ∧ Below w.heap.size w w' := by
  obtain ⟨w2, hmk, hb2, hsb⟩ := make_sets w len h1 Ls
  have HB2 : Hid (Below w.heap.size w w2) := hb2
  have HSB : Hid (SBuild w2 w.heap.size 0 len Ls) := hsb
  clear hb2 hsb
  go_enter Trym.func13, Trym.ntmps13
  go_wp2
  clear hmk
  go_loopw [8, 15] (fun _ i wr => ∃ j : Nat, j ≤ len ∧ i = .int .i64 j ∧ Below w.heap.size w wr ∧ SBuild wr w.heap.size j len Ls) (fun _ i _ => len - (intOf i).toNat)
  case atStart => exact ⟨0, Nat.zero_le _, rfl, HB2.out, HSB.out⟩
  case round =>
    obtain ⟨j, hj, rfl, hnx, hpb⟩ := hrel
    by_cases hlt : j < len
    · obtain ⟨A, C, hc0⟩ := hc j hlt
      obtain ⟨L, hL⟩ : ∃ L, Ls.getD j 0 = L := ⟨_, rfl⟩
      rw [hL] at hc0
      have h0 : wr.cell? ⟨b, off + j, none⟩ = some (.slice A L C) := (hnx.cell (by exact hb)).trans hc0
      have HL : Hid (Ls.getD j 0 = L) := hL
      obtain ⟨u0, g0⟩ := hpb.cell (j * 3) (by omega)
      obtain ⟨u1, g1⟩ := hpb.cell (j * 3 + 1) (by omega)
      obtain ⟨u2, g2⟩ := hpb.cell (j * 3 + 2) (by omega)
      have f0 := hpb.frozen (j * 3)
      have f1 := hpb.frozen (j * 3 + 1)
      have f2 := hpb.frozen (j * 3 + 2)
      have HPBr : Hid (SBuild wr w.heap.size j len Ls) := hpb
      clear hc hL hpb hc0
      go_wp2
      go_roundw
      case rel => exact ⟨j + 1, by omega, by go_num, ((hnx.setCell (by simp) _).setCell (by simp) _).setCell (by simp) _, HPBr.out.push hlt HL.out⟩
      case measure => simp [intOf]; omega
    · have hjl : j = len := by omega
      subst j
      obtain ⟨cur, hcur, hcs, hcl⟩ := hpb
      obtain ⟨A, C, hA⟩ := hcl i hi
      have hgw : w.heap.size < wr.heap.size := (Array.getElem?_eq_some_iff.1 hcur).1
      have k5 : wr.cell? ⟨w.heap.size, i * 3 + 1, none⟩ = some (.slice A (Ls.getD i 0) C) := by rw [cell_of_row wr w.heap.size _ cur 39 (0, 0) hcur]; exact hA
      have k4 : wr.cell? ⟨gb, go, none⟩ = some (.int .i64 (i : Int)) := (hnx.cell (by exact hgb)).trans hg4
      have K5 : Hid (wr.cell? ⟨w.heap.size, i * 3 + 1, none⟩ = some (.slice A (Ls.getD i 0) C)) := k5
      have K4 : Hid (wr.cell? ⟨gb, go, none⟩ = some (.int .i64 (i : Int))) := k4
      have hsz := hnx.size
      clear k5 k4 hcur hcs hcl hA hg4
      go_wp2_with fail
      refine (adding_any (wr.heap.size + 1) wr.heap.size gb go w.heap.size aB A nB cB nG cG len i (Ls.getD i 0) C _ hn h1 hi hr hg0 hg ?k1 ?k2 ?k3 ?k4 ?k5).mono ?_
      case k1 => exact cell_top _ _ _ _ _ _ (by simp)
      case k2 => exact cell_under _ _ _ _ _ _ _ (by simp)
      case k3 => exact cell_under _ _ _ _ _ _ _ (by simp)
      case k4 => exact cell_past _ _ _ _ _ (by show gb < _; omega) K4.out
      case k5 => exact cell_past _ _ _ _ _ hgw K5.out
      rintro e w4 ⟨rfl, hb4⟩
      go_wp2
      go_ret
      exact ⟨rfl, (((hnx.alloc hsz _).alloc (by simp; omega) _)).trans (hb4.mono (by simp; omega))⟩

theorem holder_any (aB a1 : Option Addr) (nB cB len cap gb go nG cG i : Nat) (Ls : List Nat) (w : World) (hL : LRow w a1 len cap Ls) (h1 : len ≤ 65536)
    (hn : nB ≤ 65536) (hi : i < len) (hr : Ls.getD i 0 ≤ 131072) (hg0 : 0 < nG) (hg : nG ≤ 131072) (hgb : gb < w.heap.size) (hg4 : w.cell? ⟨gb, go, none⟩ = some (.int .i64 (i : Int))) :
    Calls Trym.prog 13 #[.slice aB nB cB, .slice a1 len cap, .slice (some ⟨gb, go, none⟩) nG cG] w fun e w' => e = .returned (.int .i64 (addV (Ls.getD i 0) nG nB)) ∧ Below w.heap.size w w' := by
  obtain ⟨b, off, rfl, hb, hc⟩ := hL.2.2.2.2 (by omega)
  exact holder_some aB nB cB b off len cap gb go nG cG i Ls w h1 hb hn hi hr hg0 hg hgb hg4 hc

end Go.Proofs.Qxb6609110aMods
