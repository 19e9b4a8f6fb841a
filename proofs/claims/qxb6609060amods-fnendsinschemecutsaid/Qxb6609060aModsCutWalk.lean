/-
  THE WALK of the law FnEndsInSchemeCut.
-/
import Derived.Test.Qxb6609060aModsWalks
import Derived.RowKit3
namespace Go.Proofs.Qxb6609060aMods
open Go.RowKit Plain

set_option maxHeartbeats 1000000 in
theorem cut_walk (a b : ByteArray) (w0 : a.size ≤ maxLen) (w1 : b.size ≤ maxLen) (w : World) :
    Calls Trym.prog 3 #[.string a, .string b] w fun e w' => e = .returned (.bool true) ∧ w' = w := by
  by_cases hz : 1048576 < a.size + b.size
  · go_enter Trym.func3, Trym.ntmps3
    go_wp2_with (go_at_call 5; refine (bytesCut_no _ _ _ hz).mono ?_; rintro e w' ⟨rfl, rfl⟩)
    go_ret
    exact ⟨rfl, rfl⟩
  · have hz' : a.size + b.size ≤ 1048576 := by omega
    have hab : (a ++ b).size ≤ maxLen := by rw [ByteArray.size_append]; unfold maxLen; omega
    by_cases hb : allS b.data.toList = true
    · have hl : Hid (ends (a.data.toList ++ b.data.toList) = (hasL b.data.toList || ends a.data.toList)) := cut_yes _ _ hb
      by_cases hh : hasL b.data.toList = true
      · go_enter Trym.func3, Trym.ntmps3
        go_wp2_with (first | (go_at_call 5; refine (bytesCut_yes _ _ _ hz').mono ?_; rintro e w' ⟨rfl, rfl⟩) | (go_at_call 7; refine (allS_any _ _ w1).mono ?_; rintro e w' ⟨rfl, rfl⟩) | (go_at_call 8; refine (hasL_any _ _ w1).mono ?_; rintro e w' ⟨rfl, rfl⟩) | (go_at_call 6; refine (zzends_any _ _ hab).mono ?_; rintro e w' ⟨rfl, rfl⟩))
        go_ret
        exact ⟨ret_bool (by rw [hl.out, hh]; rfl), rfl⟩
      · have hh' : hasL b.data.toList = false := by simpa using hh
        go_enter Trym.func3, Trym.ntmps3
        go_wp2_with (first | (go_at_call 5; refine (bytesCut_yes _ _ _ hz').mono ?_; rintro e w' ⟨rfl, rfl⟩) | (go_at_call 7; refine (allS_any _ _ w1).mono ?_; rintro e w' ⟨rfl, rfl⟩) | (go_at_call 8; refine (hasL_any _ _ w1).mono ?_; rintro e w' ⟨rfl, rfl⟩))
        refine (zzends_any _ _ hab).mono ?_
        rintro e w' ⟨rfl, rfl⟩
        go_wp2_with (first | (go_at_call 7; refine (allS_any _ _ w1).mono ?_; rintro e w' ⟨rfl, rfl⟩) | (go_at_call 8; refine (hasL_any _ _ w1).mono ?_; rintro e w' ⟨rfl, rfl⟩))
        refine (zzends_any _ _ w0).mono ?_
        rintro e w' ⟨rfl, rfl⟩
        go_wp2
        go_ret
        exact ⟨ret_bool (by rw [hl.out, hh']; simp), rfl⟩
    · have hb' : allS b.data.toList = false := by simpa using hb
      have hl : Hid (ends (a.data.toList ++ b.data.toList) = ends b.data.toList) := cut_no _ _ hb'
      go_enter Trym.func3, Trym.ntmps3
      go_wp2_with (first | (go_at_call 5; refine (bytesCut_yes _ _ _ hz').mono ?_; rintro e w' ⟨rfl, rfl⟩))
      refine (zzends_any _ _ hab).mono ?_
      rintro e w' ⟨rfl, rfl⟩
      go_wp2_with (first | (go_at_call 7; refine (allS_any _ _ w1).mono ?_; rintro e w' ⟨rfl, rfl⟩))
      refine (zzends_any _ _ w1).mono ?_
      rintro e w' ⟨rfl, rfl⟩
      go_wp2
      go_ret
      exact ⟨ret_bool (by rw [hl.out]; simp), rfl⟩
end Go.Proofs.Qxb6609060aMods
