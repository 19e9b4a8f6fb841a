/-
  THE WALKS of math/bits.Len64 and Len, at small numbers.
-/
import Derived.Test.Qxb6609110aModsRows
import Derived.WalkKit
import Derived.WalkSpells
import Derived.WalkLawsBesides
import Derived.Lib.Walk
import Derived.Lib.BitFns
namespace Go.Proofs.Qxb6609110aMods
open Go.RowKit

theorem ret_int {k : IntKind} {a b : Int} (h : a = b) : Ending.returned (.int k a) = .returned (.int k b) := by rw [h]

set_option maxRecDepth 100000 in
set_option maxHeartbeats 1000000 in
theorem len64_any (x : Int) (w : World) (h0 : 0 ≤ x) (h1 : x ≤ 131072) :
    Calls Trym.prog 19 #[.int .u64 x] w fun e w' => e = .returned (.int .i64 (Lib.bitLen x.toNat)) ∧ w' = w := by
  by_cases c1 : 65536 ≤ x
  · have a1 : 0 ≤ x / 65536 := by omega
    have a2 : x / 65536 ≤ 255 := by omega
    have le := Lib.len8_of (x / 65536) a1 a2
    have lb := Lib.bitLen_le8' (x / 65536) a1 a2
    have b1 : 0 ≤ Lib.len8 (x / 65536) := by omega
    have b2 : Lib.len8 (x / 65536) ≤ 8 := by omega
    have LE : Hid (Lib.len8 (x / 65536) = (Lib.bitLen (x / 65536).toNat : Int)) := le
    clear le lb
    go_enter Trym.func19, Trym.ntmps19
    go_wp2
    go_ret
    refine ⟨ret_int ?_, rfl⟩
    have e : (x / 65536).toNat = x.toNat / 65536 := by omega
    have s := Lib.bitLen_shift16 x.toNat (by omega) (by omega)
    rw [LE.out, e]
    omega
  · by_cases c2 : 256 ≤ x
    · have a1 : 0 ≤ x / 256 := by omega
      have a2 : x / 256 ≤ 255 := by omega
      have le := Lib.len8_of (x / 256) a1 a2
      have lb := Lib.bitLen_le8' (x / 256) a1 a2
      have b1 : 0 ≤ Lib.len8 (x / 256) := by omega
      have b2 : Lib.len8 (x / 256) ≤ 8 := by omega
      have LE : Hid (Lib.len8 (x / 256) = (Lib.bitLen (x / 256).toNat : Int)) := le
      clear le lb
      go_enter Trym.func19, Trym.ntmps19
      go_wp2
      go_ret
      refine ⟨ret_int ?_, rfl⟩
      have e : (x / 256).toNat = x.toNat / 256 := by omega
      have s := Lib.bitLen_shift8 x.toNat (by omega) (by omega)
      rw [LE.out, e]
      omega
    · have a1 : 0 ≤ x := by omega
      have a2 : x ≤ 255 := by omega
      have le := Lib.len8_of (x) a1 a2
      have lb := Lib.bitLen_le8' (x) a1 a2
      have b1 : 0 ≤ Lib.len8 (x) := by omega
      have b2 : Lib.len8 (x) ≤ 8 := by omega
      have LE : Hid (Lib.len8 (x) = (Lib.bitLen (x).toNat : Int)) := le
      clear le lb
      go_enter Trym.func19, Trym.ntmps19
      go_wp2
      go_ret
      refine ⟨ret_int ?_, rfl⟩
      rw [LE.out]
end Go.Proofs.Qxb6609110aMods
