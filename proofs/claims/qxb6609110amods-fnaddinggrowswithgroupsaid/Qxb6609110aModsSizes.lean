/-
  THE WALKS of the size checks of the two laws on operationsOn: each returns SOME bool and turns nothing; permsSizeOK says yes only where there are at most 65536 permissions.
-/
import Derived.Test.Qxb6609110aModsOps
import Derived.RegionTactic
import Derived.BigRegion
import Derived.Deep.QuietTactic
import Derived.BigQuiet
namespace Go.Proofs.Qxb6609110aMods
open Go.RowKit Plain

/-- the call returned a bool -/
def SomeBool (e : Ending) : Prop := ∃ r : Bool, e = .returned (.bool r)
theorem SomeBool.mk (r : Bool) : SomeBool (.returned (.bool r)) := ⟨r, rfl⟩

set_option maxHeartbeats 1000000 in
theorem bytesSplits_some (obj : ByteArray) (b off len cap : Nat) (ps : List Pm) (kk : Int) (w : World) (hlen : len ≤ maxLen)
    (hc : ∀ i, i < len → w.cell? ⟨b, off + i * 2, none⟩ = some (.string (ps.getD i default).1) ∧ w.cell? ⟨b, off + i * 2 + 1, none⟩ = some (.string (ps.getD i default).2)) :
    Calls Trym.prog 6 #[.string obj, .slice (some ⟨b, off, none⟩) len cap, .int .i64 kk] w fun e w' => SomeBool e ∧ w' = w := by
  unfold maxLen at hlen
  go_enter Trym.func6, Trym.ntmps6
  go_wp2
  any_goals (go_ret; exact ⟨SomeBool.mk _, rfl⟩)
  go_loop [7, 8] (fun z i => ∃ (k : Nat) (n : Int), k ≤ len ∧ i = .int .i64 k ∧ z = .int .i64 n) (fun _ i => len - (intOf i).toNat)
  case atStart => exact ⟨0, _, Nat.zero_le _, rfl, rfl⟩
  case round =>
    obtain ⟨k, n, hk, rfl, rfl⟩ := hrel
    by_cases hlt : k < len
    · obtain ⟨p0, hp0⟩ : ∃ p0, w.cell? ⟨b, off + k * 2, none⟩ = some (.string p0) := ⟨_, (hc k hlt).1⟩
      obtain ⟨p1, hp1⟩ : ∃ p1, w.cell? ⟨b, off + k * 2 + 1, none⟩ = some (.string p1) := ⟨_, (hc k hlt).2⟩
      clear hc
      go_wp2
      any_goals (go_ret; exact ⟨SomeBool.mk _, rfl⟩)
      go_round
      case rel => exact ⟨k + 1, _, by omega, by go_num, rfl⟩
      case measure => simp [intOf]; omega
    · go_wp2
      go_ret
      exact ⟨SomeBool.mk _, rfl⟩

set_option maxHeartbeats 400000 in
theorem bytesSplits_none (obj : ByteArray) (a : Option Addr) (cap : Nat) (kk : Int) (w : World) :
    Calls Trym.prog 6 #[.string obj, .slice a 0 cap, .int .i64 kk] w fun e w' => SomeBool e ∧ w' = w := by
  go_enter Trym.func6, Trym.ntmps6
  go_wp2
  any_goals (go_ret; exact ⟨SomeBool.mk _, rfl⟩)
  refine wp_loop_rounds 1 ?_
  rw [rounds_succ]
  go_wp2
  go_ret
  exact ⟨SomeBool.mk _, rfl⟩

theorem bytesSplits_any (obj : ByteArray) (a : Option Addr) (len cap : Nat) (ps : List Pm) (kk : Int) (w : World) (hp : PRow w a len cap ps) :
    Calls Trym.prog 6 #[.string obj, .slice a len cap, .int .i64 kk] w fun e w' => SomeBool e ∧ w' = w := by
  obtain ⟨_, hcap, hm, _, hs⟩ := hp
  by_cases h0 : 0 < len
  · obtain ⟨b, off, rfl, _, hc⟩ := hs h0
    exact bytesSplits_some obj b off len cap ps kk w (Nat.le_trans hcap hm) hc
  · obtain rfl : len = 0 := by omega
    exact bytesSplits_none obj a cap kk w

set_option maxHeartbeats 1000000 in
theorem bytesInsert_some (obj : ByteArray) (b off len cap : Nat) (ps : List Pm) (kk : Int) (op on : ByteArray) (w : World) (hlen : len ≤ maxLen)
    (hc : ∀ i, i < len → w.cell? ⟨b, off + i * 2, none⟩ = some (.string (ps.getD i default).1) ∧ w.cell? ⟨b, off + i * 2 + 1, none⟩ = some (.string (ps.getD i default).2)) :
    Calls Trym.prog 10 #[.string obj, .slice (some ⟨b, off, none⟩) len cap, .int .i64 kk, .string op, .string on] w fun e w' => SomeBool e ∧ w' = w := by
  unfold maxLen at hlen
  go_enter Trym.func10, Trym.ntmps10
  go_wp2
  any_goals (go_ret; exact ⟨SomeBool.mk _, rfl⟩)
  go_loop [11, 12] (fun z i => ∃ (k : Nat) (n : Int), k ≤ len ∧ i = .int .i64 k ∧ z = .int .i64 n) (fun _ i => len - (intOf i).toNat)
  case atStart => exact ⟨0, _, Nat.zero_le _, rfl, rfl⟩
  case round =>
    obtain ⟨k, n, hk, rfl, rfl⟩ := hrel
    by_cases hlt : k < len
    · obtain ⟨p0, hp0⟩ : ∃ p0, w.cell? ⟨b, off + k * 2, none⟩ = some (.string p0) := ⟨_, (hc k hlt).1⟩
      obtain ⟨p1, hp1⟩ : ∃ p1, w.cell? ⟨b, off + k * 2 + 1, none⟩ = some (.string p1) := ⟨_, (hc k hlt).2⟩
      clear hc
      go_wp2
      any_goals (go_ret; exact ⟨SomeBool.mk _, rfl⟩)
      go_round
      case rel => exact ⟨k + 1, _, by omega, by go_num, rfl⟩
      case measure => simp [intOf]; omega
    · go_wp2
      all_goals go_ret
      all_goals exact ⟨SomeBool.mk _, rfl⟩

set_option maxHeartbeats 400000 in
theorem bytesInsert_none (obj : ByteArray) (a : Option Addr) (cap : Nat) (kk : Int) (op on : ByteArray) (w : World) :
    Calls Trym.prog 10 #[.string obj, .slice a 0 cap, .int .i64 kk, .string op, .string on] w fun e w' => SomeBool e ∧ w' = w := by
  go_enter Trym.func10, Trym.ntmps10
  go_wp2
  any_goals (go_ret; exact ⟨SomeBool.mk _, rfl⟩)
  refine wp_loop_rounds 1 ?_
  rw [rounds_succ]
  go_wp2
  all_goals go_ret
  all_goals exact ⟨SomeBool.mk _, rfl⟩

theorem bytesInsert_any (obj : ByteArray) (a : Option Addr) (len cap : Nat) (ps : List Pm) (kk : Int) (op on : ByteArray) (w : World) (hp : PRow w a len cap ps) :
    Calls Trym.prog 10 #[.string obj, .slice a len cap, .int .i64 kk, .string op, .string on] w fun e w' => SomeBool e ∧ w' = w := by
  obtain ⟨_, hcap, hm, _, hs⟩ := hp
  by_cases h0 : 0 < len
  · obtain ⟨b, off, rfl, _, hc⟩ := hs h0
    exact bytesInsert_some obj b off len cap ps kk op on w (Nat.le_trans hcap hm) hc
  · obtain rfl : len = 0 := by omega
    exact bytesInsert_none obj a cap kk op on w

/-- permsSizeOK says no, or there are few permissions -/
def FewOr (e : Ending) (len : Nat) : Prop := ∃ r : Bool, e = .returned (.bool r) ∧ (r = true → len ≤ 65536)
theorem FewOr.no (len : Nat) : FewOr (.returned (.bool false)) len := ⟨false, rfl, by simp⟩
theorem FewOr.yes {len : Nat} (h : len ≤ 65536) (r : Bool) : FewOr (.returned (.bool r)) len := ⟨r, rfl, fun _ => h⟩

set_option maxHeartbeats 1000000 in
theorem sizeOK_many (obj : ByteArray) (a : Option Addr) (len cap : Nat) (w : World) (h : 65536 < len) :
    Calls Trym.prog 7 #[.string obj, .slice a len cap] w fun e w' => FewOr e len ∧ Below w.heap.size w w' := by
  by_cases ho : 65536 < obj.size
  · go_enter Trym.func7, Trym.ntmps7
    go_wp2
    go_ret
    exact ⟨FewOr.no _, Below.refl _ _⟩
  · go_enter Trym.func7, Trym.ntmps7
    go_wp2
    go_ret
    exact ⟨FewOr.no _, Below.refl _ _⟩

set_option maxHeartbeats 1000000 in
theorem sizeOK_none (obj : ByteArray) (a : Option Addr) (cap : Nat) (w : World) :
    Calls Trym.prog 7 #[.string obj, .slice a 0 cap] w fun e w' => FewOr e 0 ∧ Below w.heap.size w w' := by
  by_cases ho : 65536 < obj.size
  · go_enter Trym.func7, Trym.ntmps7
    go_wp2
    go_ret
    exact ⟨FewOr.no _, Below.refl _ _⟩
  · go_enter Trym.func7, Trym.ntmps7
    go_wp2
    refine wp_loop_rounds 1 ?_
    rw [rounds_succ]
    go_wp2
    go_ret
    exact ⟨FewOr.yes (by omega) _, Below.refl _ _⟩

set_option maxHeartbeats 1000000 in
theorem sizeOK_some (obj : ByteArray) (b off len cap : Nat) (ps : List Pm) (w : World) (hlen : len ≤ 65536) (hb : b < w.heap.size)
    (hc : ∀ i, i < len → w.cell? ⟨b, off + i * 2, none⟩ = some (.string (ps.getD i default).1) ∧ w.cell? ⟨b, off + i * 2 + 1, none⟩ = some (.string (ps.getD i default).2)) :
    Calls Trym.prog 7 #[.string obj, .slice (some ⟨b, off, none⟩) len cap] w fun e w' => FewOr e len ∧ Below w.heap.size w w' := by
  by_cases ho : 65536 < obj.size
  · go_enter Trym.func7, Trym.ntmps7
    go_wp2
    go_ret
    exact ⟨FewOr.no _, Below.refl _ _⟩
  · go_enter Trym.func7, Trym.ntmps7
    go_wp2
    go_loopw [5, 6] (fun z i wr => ∃ (k : Nat) (n : Int), k ≤ len ∧ i = .int .i64 k ∧ z = .int .i64 n ∧ Below w.heap.size w wr) (fun _ i _ => len - (intOf i).toNat)
    case atStart => exact ⟨0, _, Nat.zero_le _, rfl, rfl, Below.refl _ _⟩
    case round =>
      obtain ⟨k, n, hk, rfl, rfl, hnx⟩ := hrel
      by_cases hlt : k < len
      · obtain ⟨p0, hp0⟩ : ∃ p0, wr.cell? ⟨b, off + k * 2, none⟩ = some (.string p0) := ⟨_, (hnx.cell (by exact hb)).trans (hc k hlt).1⟩
        obtain ⟨p1, hp1⟩ : ∃ p1, wr.cell? ⟨b, off + k * 2 + 1, none⟩ = some (.string p1) := ⟨_, (hnx.cell (by exact hb)).trans (hc k hlt).2⟩
        clear hc
        go_wp2
        go_region
        go_wp2
        · go_ret
          exact ⟨FewOr.no _, hnx.drew⟩
        · go_roundw
          case rel => exact ⟨k + 1, _, by omega, by go_num, rfl, hnx.drew⟩
          case measure => simp [intOf]; omega
      · go_wp2
        go_ret
        exact ⟨FewOr.yes hlen _, hnx⟩

theorem sizeOK_any (obj : ByteArray) (a : Option Addr) (len cap : Nat) (ps : List Pm) (w : World) (hp : PRow w a len cap ps) :
    Calls Trym.prog 7 #[.string obj, .slice a len cap] w fun e w' => FewOr e len ∧ Below w.heap.size w w' := by
  obtain ⟨_, hcap, hm, _, hs⟩ := hp
  by_cases hbig : 65536 < len
  · exact sizeOK_many obj a len cap w hbig
  · by_cases h0 : 0 < len
    · obtain ⟨b, off, rfl, hb, hc⟩ := hs h0
      exact sizeOK_some obj b off len cap ps w (by omega) hb hc
    · obtain rfl : len = 0 := by omega
      exact sizeOK_none obj a cap w
end Go.Proofs.Qxb6609110aMods
