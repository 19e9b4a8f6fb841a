/-
  THE THIRD LAW's SIZE CHECKS: zzBytes_FnAddingGrowsWithGroup, hcSizeOK.
-/
import Derived.Test.Qxb6609110aModsSizes
namespace Go.Proofs.Qxb6609110aMods
open Go.RowKit Plain

/-- a slice of ints, read in w -/
def NRow (w : World) (a : Option Addr) (len cap : Nat) (zs : List Int) : Prop :=
  zs.length = len ∧ len ≤ cap ∧ cap ≤ maxLen ∧ (a = none → cap = 0) ∧
  (0 < len → ∃ b off, a = some ⟨b, off, none⟩ ∧ b < w.heap.size ∧ ∀ i, i < len → w.cell? ⟨b, off + i, none⟩ = some (.int .i64 (zs.getD i 0)))

/-- a slice of slices, read in w: of each inner slice its length alone -/
def LRow (w : World) (a : Option Addr) (len cap : Nat) (Ls : List Nat) : Prop :=
  Ls.length = len ∧ len ≤ cap ∧ cap ≤ maxLen ∧ (a = none → cap = 0) ∧
  (0 < len → ∃ b off, a = some ⟨b, off, none⟩ ∧ b < w.heap.size ∧ ∀ i, i < len → ∃ A C, w.cell? ⟨b, off + i, none⟩ = some (.slice A (Ls.getD i 0) C))

theorem NRow.later {w w' : World} {a : Option Addr} {len cap : Nat} {zs : List Int} (h : NRow w a len cap zs) (hb : Below w.heap.size w w') : NRow w' a len cap zs := by
  obtain ⟨h1, h2, h3, h4, h5⟩ := h
  refine ⟨h1, h2, h3, h4, fun h0 => ?_⟩
  obtain ⟨b, off, ha, hlt, hc⟩ := h5 h0
  refine ⟨b, off, ha, Nat.lt_of_lt_of_le hlt hb.size, fun i hi => ?_⟩
  rw [hb.cell (p := ⟨b, off + i, none⟩) hlt]
  exact hc i hi

theorem LRow.later {w w' : World} {a : Option Addr} {len cap : Nat} {Ls : List Nat} (h : LRow w a len cap Ls) (hb : Below w.heap.size w w') : LRow w' a len cap Ls := by
  obtain ⟨h1, h2, h3, h4, h5⟩ := h
  refine ⟨h1, h2, h3, h4, fun h0 => ?_⟩
  obtain ⟨b, off, ha, hlt, hc⟩ := h5 h0
  refine ⟨b, off, ha, Nat.lt_of_lt_of_le hlt hb.size, fun i hi => ?_⟩
  obtain ⟨A, C, h⟩ := hc i hi
  exact ⟨A, C, by rw [hb.cell (p := ⟨b, off + i, none⟩) hlt]; exact h⟩

set_option maxHeartbeats 1000000 in
theorem bytesAdd_some (a0 a2 a3 : Option Addr) (n0 c0 n2 c2 n3 c3 b off len cap : Nat) (Ls : List Nat) (w : World) (hlen : len ≤ maxLen)
    (hc : ∀ i, i < len → ∃ A C, w.cell? ⟨b, off + i, none⟩ = some (.slice A (Ls.getD i 0) C)) :
    Calls Trym.prog 11 #[.slice a0 n0 c0, .slice (some ⟨b, off, none⟩) len cap, .slice a2 n2 c2, .slice a3 n3 c3] w fun e w' => SomeBool e ∧ w' = w := by
  unfold maxLen at hlen
  go_enter Trym.func11, Trym.ntmps11
  go_wp2
  any_goals (go_ret; exact ⟨SomeBool.mk _, rfl⟩)
  go_loop [9, 10] (fun z i => ∃ (k : Nat) (n : Int), k ≤ len ∧ i = .int .i64 k ∧ z = .int .i64 n) (fun _ i => len - (intOf i).toNat)
  case atStart => exact ⟨0, _, Nat.zero_le _, rfl, rfl⟩
  case round =>
    obtain ⟨k, n, hk, rfl, rfl⟩ := hrel
    by_cases hlt : k < len
    · obtain ⟨A, L, C, hp0⟩ : ∃ A L C, w.cell? ⟨b, off + k, none⟩ = some (.slice A L C) := by obtain ⟨A, C, h⟩ := hc k hlt; exact ⟨A, _, C, h⟩
      clear hc
      go_wp2
      any_goals (go_ret; exact ⟨SomeBool.mk _, rfl⟩)
      go_round
      case rel => exact ⟨k + 1, _, by omega, by go_num, rfl⟩
      case measure => simp [intOf]; omega
    · go_wp2
      all_goals go_ret
      all_goals exact ⟨SomeBool.mk _, rfl⟩

set_option maxHeartbeats 1000000 in
theorem bytesAdd_none (a0 a1 a2 a3 : Option Addr) (n0 c0 n2 c2 n3 c3 cap : Nat) (w : World) :
    Calls Trym.prog 11 #[.slice a0 n0 c0, .slice a1 0 cap, .slice a2 n2 c2, .slice a3 n3 c3] w fun e w' => SomeBool e ∧ w' = w := by
  go_enter Trym.func11, Trym.ntmps11
  go_wp2
  any_goals (go_ret; exact ⟨SomeBool.mk _, rfl⟩)
  refine wp_loop_rounds 1 ?_
  rw [rounds_succ]
  go_wp2
  all_goals go_ret
  all_goals exact ⟨SomeBool.mk _, rfl⟩

theorem bytesAdd_any (a0 a1 a2 a3 : Option Addr) (n0 c0 n2 c2 n3 c3 len cap : Nat) (Ls : List Nat) (w : World) (hL : LRow w a1 len cap Ls) :
    Calls Trym.prog 11 #[.slice a0 n0 c0, .slice a1 len cap, .slice a2 n2 c2, .slice a3 n3 c3] w fun e w' => SomeBool e ∧ w' = w := by
  obtain ⟨_, hcap, hm, _, hs⟩ := hL
  by_cases h0 : 0 < len
  · obtain ⟨b, off, rfl, _, hc⟩ := hs h0
    exact bytesAdd_some a0 a2 a3 n0 c0 n2 c2 n3 c3 b off len cap Ls w (Nat.le_trans hcap hm) hc
  · obtain rfl : len = 0 := by omega
    exact bytesAdd_none a0 a1 a2 a3 n0 c0 n2 c2 n3 c3 cap w

/-- hcSizeOK says no, or all lengths are small -/
def SmallOr (e : Ending) (n0 len n2 n3 : Nat) (Ls : List Nat) : Prop := ∃ r : Bool, e = .returned (.bool r) ∧ (r = true → n0 ≤ 65536 ∧ len ≤ 65536 ∧ n2 ≤ 65536 ∧ n3 ≤ 65536 ∧ ∀ i, i < len → Ls.getD i 0 ≤ 131072)
theorem SmallOr.no (n0 len n2 n3 : Nat) (Ls : List Nat) : SmallOr (.returned (.bool false)) n0 len n2 n3 Ls := ⟨false, rfl, by simp⟩
theorem SmallOr.yes {n0 len n2 n3 : Nat} {Ls : List Nat} (h0 : n0 ≤ 65536) (h1 : len ≤ 65536) (h2 : n2 ≤ 65536) (h3 : n3 ≤ 65536) (h : ∀ i, i < len → Ls.getD i 0 ≤ 131072) (r : Bool) : SmallOr (.returned (.bool r)) n0 len n2 n3 Ls :=
  ⟨r, rfl, fun _ => ⟨h0, h1, h2, h3, h⟩⟩

set_option maxHeartbeats 1000000 in
theorem hc_big (a0 a1 a2 a3 : Option Addr) (n0 c0 n2 c2 n3 c3 len cap : Nat) (Ls : List Nat) (w : World) (h : 65536 < n0 ∨ 65536 < len ∨ 65536 < n2 ∨ 65536 < n3) :
    Calls Trym.prog 12 #[.slice a0 n0 c0, .slice a1 len cap, .slice a2 n2 c2, .slice a3 n3 c3] w fun e w' => SmallOr e n0 len n2 n3 Ls ∧ w' = w := by
  by_cases h0 : 65536 < n0
  · clear h
    go_enter Trym.func12, Trym.ntmps12
    go_wp2
    go_ret
    exact ⟨SmallOr.no _ _ _ _ _, rfl⟩
  · by_cases h1 : 65536 < len
    · clear h
      go_enter Trym.func12, Trym.ntmps12
      go_wp2
      go_ret
      exact ⟨SmallOr.no _ _ _ _ _, rfl⟩
    · by_cases h2 : 65536 < n2
      · clear h
        go_enter Trym.func12, Trym.ntmps12
        go_wp2
        go_ret
        exact ⟨SmallOr.no _ _ _ _ _, rfl⟩
      · have h3 : 65536 < n3 := by omega
        clear h
        go_enter Trym.func12, Trym.ntmps12
        go_wp2
        go_ret
        exact ⟨SmallOr.no _ _ _ _ _, rfl⟩

set_option maxHeartbeats 1000000 in
theorem hc_some (a0 a2 a3 : Option Addr) (n0 c0 n2 c2 n3 c3 b off len cap : Nat) (Ls : List Nat) (w : World) (h0 : n0 ≤ 65536) (h1 : len ≤ 65536) (h2 : n2 ≤ 65536) (h3 : n3 ≤ 65536)
    (hc : ∀ i, i < len → ∃ A C, w.cell? ⟨b, off + i, none⟩ = some (.slice A (Ls.getD i 0) C)) :
    Calls Trym.prog 12 #[.slice a0 n0 c0, .slice (some ⟨b, off, none⟩) len cap, .slice a2 n2 c2, .slice a3 n3 c3] w fun e w' => SmallOr e n0 len n2 n3 Ls ∧ w' = w := by
  go_enter Trym.func12, Trym.ntmps12
  go_wp2
  any_goals (go_ret; exact ⟨SmallOr.no _ _ _ _ _, rfl⟩)
  go_loop [9, 10] (fun z i => ∃ (k : Nat) (n : Int), k ≤ len ∧ i = .int .i64 k ∧ z = .int .i64 n ∧ Hid (∀ i, i < k → Ls.getD i 0 ≤ 131072)) (fun _ i => len - (intOf i).toNat)
  case atStart => exact ⟨0, _, Nat.zero_le _, rfl, rfl, fun i hi => absurd hi (by omega)⟩
  case round =>
    obtain ⟨k, n, hk, rfl, rfl, HS⟩ := hrel
    by_cases hlt : k < len
    · obtain ⟨A, C, hp0⟩ := hc k hlt
      obtain ⟨L, hL⟩ : ∃ L, L = Ls.getD k 0 := ⟨_, rfl⟩
      rw [← hL] at hp0
      have HL : Hid (L = Ls.getD k 0) := hL
      clear hc hL
      by_cases hbig : 131072 < L
      · go_wp2
        go_ret
        exact ⟨SmallOr.no _ _ _ _ _, rfl⟩
      · go_wp2
        any_goals (go_ret; exact ⟨SmallOr.no _ _ _ _ _, rfl⟩)
        go_round
        case rel => exact ⟨k + 1, _, by omega, by go_num, rfl, fun i hi => by
          by_cases e : i = k
          · rw [e, ← HL.out]; omega
          · exact HS.out i (by omega)⟩
        case measure => simp [intOf]; omega
    · go_wp2
      go_ret
      exact ⟨SmallOr.yes h0 h1 h2 h3 (fun i hi => HS.out i (by omega)) _, rfl⟩

set_option maxHeartbeats 1000000 in
theorem hc_none (a0 a1 a2 a3 : Option Addr) (n0 c0 n2 c2 n3 c3 cap : Nat) (Ls : List Nat) (w : World) (h0 : n0 ≤ 65536) (h2 : n2 ≤ 65536) (h3 : n3 ≤ 65536) :
    Calls Trym.prog 12 #[.slice a0 n0 c0, .slice a1 0 cap, .slice a2 n2 c2, .slice a3 n3 c3] w fun e w' => SmallOr e n0 0 n2 n3 Ls ∧ w' = w := by
  go_enter Trym.func12, Trym.ntmps12
  go_wp2
  any_goals (go_ret; exact ⟨SmallOr.no _ _ _ _ _, rfl⟩)
  refine wp_loop_rounds 1 ?_
  rw [rounds_succ]
  go_wp2
  go_ret
  exact ⟨SmallOr.yes h0 (by omega) h2 h3 (fun i hi => absurd hi (by omega)) _, rfl⟩

theorem hc_any (a0 a1 a2 a3 : Option Addr) (n0 c0 n2 c2 n3 c3 len cap : Nat) (Ls : List Nat) (w : World) (hL : LRow w a1 len cap Ls) :
    Calls Trym.prog 12 #[.slice a0 n0 c0, .slice a1 len cap, .slice a2 n2 c2, .slice a3 n3 c3] w fun e w' => SmallOr e n0 len n2 n3 Ls ∧ w' = w := by
  obtain ⟨_, hcap, hm, _, hs⟩ := hL
  by_cases hbig : 65536 < n0 ∨ 65536 < len ∨ 65536 < n2 ∨ 65536 < n3
  · exact hc_big a0 a1 a2 a3 n0 c0 n2 c2 n3 c3 len cap Ls w hbig
  · by_cases h0 : 0 < len
    · obtain ⟨b, off, rfl, _, hc⟩ := hs h0
      exact hc_some a0 a2 a3 n0 c0 n2 c2 n3 c3 b off len cap Ls w (by omega) (by omega) (by omega) (by omega) hc
    · obtain rfl : len = 0 := by omega
      exact hc_none a0 a1 a2 a3 n0 c0 n2 c2 n3 c3 cap Ls w (by omega) (by omega) (by omega)

end Go.Proofs.Qxb6609110aMods
