/-
  THE WALKS of this seat's two laws and of what they call.
-/
import Derived.Test.Qxb6615476aModsRows
import Derived.WalkKit
import Derived.WalkSpells
import Derived.WalkLawsBesides
namespace Go.Proofs.Qxb6615476aMods
open Go.RowKit

set_option maxHeartbeats 400000 in
theorem cost_any (size room : Int) (call stream : Bool) (id : Int) (opens : Bool) (w : World) (h0 : 0 ≤ size) (h1 : size ≤ 9223372036854775551) :
    Calls Trym.prog 5 #[.int .i64 size, .int .i64 room, .bool call, .bool stream, .int .u32 id, .bool opens] w fun e w' => e = .returned (.int .i64 (size + 256)) ∧ ∃ o, w' = w.alloc (.cells o 28) := by
  go_enter Trym.func5, Trym.ntmps5
  go_wp2
  go_ret
  exact ⟨rfl, _, rfl⟩

set_option maxHeartbeats 1000000 in
theorem differs_walk (a0 a1 : Int) (a2 a3 : Bool) (a4 : Int) (a5 : Bool) (a6 a7 : Int) (a8 a9 : Bool) (a10 : Int) (a11 : Bool) (w : World) :
    Calls Trym.prog 3 #[.int .i64 a0, .int .i64 a1, .bool a2, .bool a3, .int .u32 a4, .bool a5, .int .i64 a6, .int .i64 a7, .bool a8, .bool a9, .int .u32 a10, .bool a11] w fun e w' => e = .returned (.bool true) ∧ Grown w w' := by
  by_cases c1 : a0 < 0
  · go_enter Trym.func3, Trym.ntmps3
    go_wp2
    go_ret
    exact ⟨rfl, Grown.refl _⟩
  by_cases c2 : 9223372036854775551 < a0
  · go_enter Trym.func3, Trym.ntmps3
    go_wp2
    go_ret
    exact ⟨rfl, Grown.refl _⟩
  by_cases c3 : a6 < 0
  · go_enter Trym.func3, Trym.ntmps3
    go_wp2
    go_ret
    exact ⟨rfl, Grown.refl _⟩
  by_cases c4 : 9223372036854775551 < a6
  · go_enter Trym.func3, Trym.ntmps3
    go_wp2
    go_ret
    exact ⟨rfl, Grown.refl _⟩
  have e1 : (a0 + 256 - (a6 + 256) == a0 - a6) = true := by simp; omega
  have e2 : a0 < a0 + 256 := by omega
  have e3 : a6 < a6 + 256 := by omega
  go_enter Trym.func3, Trym.ntmps3
  go_wp2_with fail
  refine (cost_any a0 a1 a2 a3 a4 a5 _ (by omega) (by omega)).mono ?_
  rintro e w1 ⟨rfl, o1, hw1⟩
  subst hw1
  go_wp2_with fail
  refine (cost_any a6 a7 a8 a9 a10 a11 _ (by omega) (by omega)).mono ?_
  rintro e w2 ⟨rfl, o2, hw2⟩
  subst hw2
  go_wp2
  go_ret
  exact ⟨rfl, by repeat (first | exact Grown.refl _ | apply Grown.drew | apply Grown.alloc)⟩

/-! ### the second law -/

/-- the sum of the first k -/
def sumTo (zs : List Int) : Nat → Int
  | 0 => 0
  | k + 1 => sumTo zs k + zs.getD k 0

theorem sumTo_bounds (zs : List Int) : ∀ k : Nat, (∀ i, i < k → 0 ≤ zs.getD i 0 ∧ zs.getD i 0 ≤ 1125899906842624) → 0 ≤ sumTo zs k ∧ sumTo zs k ≤ 1125899906842624 * k
  | 0, _ => by simp [sumTo]
  | k + 1, h => by
    have h1 := sumTo_bounds zs k (fun i hi => h i (by omega))
    have h2 := h k (by omega)
    simp only [sumTo]
    omega

theorem ret_bool {a b : Bool} (h : a = b) : Ending.returned (.bool a) = .returned (.bool b) := by rw [h]

set_option maxHeartbeats 400000 in
theorem bytes_yes (a : Option Addr) (len cap : Nat) (w : World) (h : len ≤ 1048576) :
    Calls Trym.prog 6 #[.slice a len cap] w fun e w' => e = .returned (.bool true) ∧ w' = w := by
  go_enter Trym.func6, Trym.ntmps6
  go_wp2
  go_ret
  exact ⟨rfl, rfl⟩

set_option maxHeartbeats 400000 in
theorem bytes_no (a : Option Addr) (len cap : Nat) (w : World) (h : 1048576 < len) :
    Calls Trym.prog 6 #[.slice a len cap] w fun e w' => e = .returned (.bool false) ∧ w' = w := by
  go_enter Trym.func6, Trym.ntmps6
  go_wp2
  go_ret
  exact ⟨rfl, rfl⟩

set_option maxHeartbeats 400000 in
theorem queue_big (a : Option Addr) (len cap : Nat) (w : World) (h : 4096 < len) :
    Calls Trym.prog 4 #[.slice a len cap] w fun e w' => e = .returned (.bool true) ∧ Below w.heap.size w w' := by
  by_cases hb : 1048576 < len
  · go_enter Trym.func4, Trym.ntmps4
    go_wp2_with fail
    refine (bytes_no a len cap _ hb).mono ?_
    rintro e w1 ⟨rfl, hw⟩
    subst w1
    go_wp2
    go_ret
    exact ⟨rfl, Below.refl _ _⟩
  · go_enter Trym.func4, Trym.ntmps4
    go_wp2_with fail
    refine (bytes_yes a len cap _ (by omega)).mono ?_
    rintro e w1 ⟨rfl, hw⟩
    subst w1
    go_wp2
    go_ret
    exact ⟨rfl, Below.refl _ _⟩

set_option maxHeartbeats 400000 in
theorem queue_none (a : Option Addr) (cap : Nat) (w : World) :
    Calls Trym.prog 4 #[.slice a 0 cap] w fun e w' => e = .returned (.bool true) ∧ Below w.heap.size w w' := by
  go_enter Trym.func4, Trym.ntmps4
  go_wp2_with fail
  refine (bytes_yes a 0 cap _ (by omega)).mono ?_
  rintro e w1 ⟨rfl, hw⟩
  subst w1
  go_wp2
  refine wp_loop_rounds 1 ?_
  rw [rounds_succ]
  go_wp2
  refine wp_loop_rounds 1 ?_
  rw [rounds_succ]
  go_wp2
  go_ret
  exact ⟨rfl, Below.refl _ _⟩

set_option maxHeartbeats 1000000 in
theorem queue_some (b off len cap : Nat) (zs : List Int) (w : World) (hlen : len ≤ 4096) (hbw : b < w.heap.size)
    (hc : ∀ i, i < len → w.cell? ⟨b, off + i, none⟩ = some (.int .i64 (zs.getD i 0))) :
    Calls Trym.prog 4 #[.slice (some ⟨b, off, none⟩) len cap] w fun e w' => e = .returned (.bool true) ∧ Below w.heap.size w w' := by
  go_enter Trym.func4, Trym.ntmps4
  go_wp2_with fail
  refine (bytes_yes _ len cap _ (by omega)).mono ?_
  rintro e w1 ⟨rfl, hw⟩
  subst w1
  go_wp2
  go_loop [3] (fun i => ∃ k : Nat, k ≤ len ∧ i = .int .i64 k ∧ Hid (∀ i, i < k → 0 ≤ zs.getD i 0 ∧ zs.getD i 0 ≤ 1125899906842624)) (fun i => len - (intOf i).toNat)
  case atStart => exact ⟨0, Nat.zero_le _, rfl, fun i hi => absurd hi (by omega)⟩
  case round =>
    obtain ⟨k, hk, rfl, HK⟩ := hrel
    by_cases hlt : k < len
    · obtain ⟨z, hz⟩ : ∃ z, zs.getD k 0 = z := ⟨_, rfl⟩
      have h0 : w.cell? ⟨b, off + k, none⟩ = some (.int .i64 z) := by rw [← hz]; exact hc k hlt
      have HZ : Hid (zs.getD k 0 = z) := hz
      clear hz hc
      by_cases z0 : z < 0
      · go_wp2
        go_ret
        exact ⟨rfl, Below.refl _ _⟩
      by_cases z1 : 1125899906842624 < z
      · go_wp2
        go_ret
        exact ⟨rfl, Below.refl _ _⟩
      go_wp2
      go_round
      case rel => exact ⟨k + 1, by omega, by go_num, fun i hi => by
        by_cases e : i = k
        · rw [e, HZ.out]; omega
        · exact HK.out i (by omega)⟩
      case measure => simp [intOf]; omega
    · have hkl : k = len := by omega
      subst k
      go_wp2
      go_loopw [4, 5, 6] (fun t s i wr => ∃ k : Nat, k ≤ len ∧ i = .int .i64 k ∧ s = .int .i64 (sumTo zs k) ∧ t = .int .i64 (sumTo zs k + 256 * (k : Int)) ∧ Below w.heap.size w wr) (fun _ _ i _ => len - (intOf i).toNat)
      case atStart => exact ⟨0, Nat.zero_le _, rfl, rfl, rfl, Below.refl _ _⟩
      case round =>
        obtain ⟨k, hk, rfl, rfl, rfl, hnx⟩ := hrel
        obtain ⟨s0, s1⟩ := sumTo_bounds zs k (fun i hi => HK.out i (by omega))
        by_cases hlt : k < len
        · obtain ⟨z, hz⟩ : ∃ z, zs.getD k 0 = z := ⟨_, rfl⟩
          have h0 : wr.cell? ⟨b, off + k, none⟩ = some (.int .i64 z) := by rw [← hz]; exact (hnx.cell (by exact hbw)).trans (hc k hlt)
          have hzb := HK.out k hlt
          rw [hz] at hzb
          obtain ⟨z0, z1⟩ := hzb
          have HZ : Hid (sumTo zs (k + 1) = sumTo zs k + z) := by show _ = _; rw [← hz]; rfl
          have hbr : b < wr.heap.size := Nat.lt_of_lt_of_le hbw hnx.size
          clear hz hc
          go_wp2_with fail
          refine (cost_any z 0 false false 0 false _ z0 (by omega)).mono ?_
          rintro e w2 ⟨rfl, o, hw2⟩
          have h2 : w2.cell? ⟨b, off + k, none⟩ = some (.int .i64 z) := by
            rw [hw2]
            rw [((Below.refl wr.heap.size wr).alloc (Nat.le_refl _) (.cells o 28)).cell (p := ⟨b, off + k, none⟩) hbr]
            exact h0
          have hnx2 : Below w.heap.size w w2 := by rw [hw2]; exact hnx.alloc hnx.size _
          clear hw2 h0 hnx hbr
          go_wp2
          go_roundw
          case rel => exact ⟨k + 1, by omega, by go_num, by rw [HZ.out], by rw [HZ.out]; go_num, hnx2⟩
          case measure => simp [intOf]; omega
        · have hkl : k = len := by omega
          subst k
          have hfin : (sumTo zs len + 256 * (len : Int) == sumTo zs len + (len : Int) * 256) = true := by simp; omega
          go_wp2
          go_ret
          exact ⟨rfl, hnx⟩
end Go.Proofs.Qxb6615476aMods
