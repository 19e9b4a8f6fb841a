/-
  THE WALKS of the functions that both laws of this seat call: each computes its plain function, and the world stands as it was.
-/
import Derived.Test.Qxb6609060aModsRows
import Derived.Test.Qxb6609060aModsPlain
import Derived.WalkKit
import Derived.WalkSpells
import Derived.WalkLawsBesides
namespace Go.Proofs.Qxb6609060aMods
open Go.RowKit Plain

theorem ret_bool {a b : Bool} (h : a = b) : Ending.returned (.bool a) = .returned (.bool b) := by rw [h]

set_option maxHeartbeats 400000 in
theorem letter_any (c : Int) (w : World) :
    Calls Trym.prog 10 #[.int .u8 c] w fun e w' => e = .returned (.bool (letB c)) ∧ w' = w := by
  go_enter Trym.func10, Trym.ntmps10
  go_wp2
  all_goals go_ret
  all_goals exact ⟨ret_bool (by rw [Bool.eq_iff_iff]; simp [letB]; omega), rfl⟩

set_option maxHeartbeats 400000 in
theorem scheme_any (c : Int) (w : World) :
    Calls Trym.prog 11 #[.int .u8 c] w fun e w' => e = .returned (.bool (schB c)) ∧ w' = w := by
  by_cases hl : 65 ≤ c ∧ c ≤ 90 ∨ 97 ≤ c ∧ c ≤ 122
  · have e1 : letB c = true := by simpa [letB] using hl
    have e2 : schB c = true := schB_of_letB e1
    go_enter Trym.func11, Trym.ntmps11
    go_wp2_with (go_at_call 10; refine (letter_any _ _).mono ?_; rintro e w' ⟨rfl, rfl⟩)
    all_goals go_ret
    all_goals exact ⟨ret_bool e2.symm, rfl⟩
  · have e1 : letB c = false := by simpa [letB] using hl
    go_enter Trym.func11, Trym.ntmps11
    go_wp2_with (go_at_call 10; refine (letter_any _ _).mono ?_; rintro e w' ⟨rfl, rfl⟩)
    all_goals go_ret
    all_goals exact ⟨ret_bool (by rw [Bool.eq_iff_iff]; simp [schB] <;> omega), rfl⟩

theorem allS_snoc (l : List UInt8) (c : UInt8) : allS (l ++ [c]) = (allS l && schB (c.toNat : Int)) := by simp [allS]
theorem hasL_snoc (l : List UInt8) (c : UInt8) : hasL (l ++ [c]) = (hasL l || letB (c.toNat : Int)) := by simp [hasL]
theorem allS_take_no (s : ByteArray) (k : Nat) (h : k < s.size) (g : schB (s[k].toNat : Int) = false) : allS s.data.toList = false := by
  have e : s.data.toList = s.data.toList.take (k + 1) ++ s.data.toList.drop (k + 1) := by simp
  rw [e, take_snoc s k h]; simp [allS, g]
theorem hasL_take_yes (s : ByteArray) (k : Nat) (h : k < s.size) (g : letB (s[k].toNat : Int) = true) : hasL s.data.toList = true := by
  have e : s.data.toList = s.data.toList.take (k + 1) ++ s.data.toList.drop (k + 1) := by simp
  rw [e, take_snoc s k h]; simp [hasL, g]
theorem take_all (s : ByteArray) (k : Nat) (h : s.size ≤ k) : s.data.toList.take k = s.data.toList := by
  rw [List.take_of_length_le (by simpa using h)]

set_option maxHeartbeats 400000 in
theorem allS_any (s : ByteArray) (w : World) (hs : s.size ≤ maxLen) :
    Calls Trym.prog 7 #[.string s] w fun e w' => e = .returned (.bool (allS s.data.toList)) ∧ w' = w := by
  unfold maxLen at hs
  go_enter Trym.func7, Trym.ntmps7
  go_wp2
  go_loop [3] (fun i => ∃ k : Nat, k ≤ s.size ∧ i = .int .i64 k ∧ allS (s.data.toList.take k) = true) (fun i => s.size - (intOf i).toNat)
  case atStart => exact ⟨0, Nat.zero_le _, rfl, rfl⟩
  case round =>
    obtain ⟨k, hk, rfl, ha⟩ := hrel
    have HA : Hid (allS (s.data.toList.take k) = true) := ha
    clear ha
    by_cases hlt : k < s.size
    · by_cases hb : schB (s[k].toNat : Int) = true
      · go_wp2_with (go_at_call 11; refine (scheme_any _ _).mono ?_; rintro e w' ⟨rfl, rfl⟩)
        go_round
        case rel => exact ⟨k + 1, by omega, by go_num, by rw [take_snoc s k hlt, allS_snoc, HA.out, hb]; rfl⟩
        case measure => simp [intOf]; omega
      · have hb' : schB (s[k].toNat : Int) = false := by simpa using hb
        go_wp2_with (go_at_call 11; refine (scheme_any _ _).mono ?_; rintro e w' ⟨rfl, rfl⟩)
        go_ret
        exact ⟨ret_bool (allS_take_no s k hlt hb').symm, rfl⟩
    · go_wp2
      go_ret
      exact ⟨ret_bool (by rw [← HA.out, take_all s k (by omega)]), rfl⟩

set_option maxHeartbeats 400000 in
theorem hasL_any (s : ByteArray) (w : World) (hs : s.size ≤ maxLen) :
    Calls Trym.prog 8 #[.string s] w fun e w' => e = .returned (.bool (hasL s.data.toList)) ∧ w' = w := by
  unfold maxLen at hs
  go_enter Trym.func8, Trym.ntmps8
  go_wp2
  go_loop [3] (fun i => ∃ k : Nat, k ≤ s.size ∧ i = .int .i64 k ∧ hasL (s.data.toList.take k) = false) (fun i => s.size - (intOf i).toNat)
  case atStart => exact ⟨0, Nat.zero_le _, rfl, rfl⟩
  case round =>
    obtain ⟨k, hk, rfl, ha⟩ := hrel
    have HA : Hid (hasL (s.data.toList.take k) = false) := ha
    clear ha
    by_cases hlt : k < s.size
    · by_cases hb : letB (s[k].toNat : Int) = true
      · go_wp2_with (go_at_call 10; refine (letter_any _ _).mono ?_; rintro e w' ⟨rfl, rfl⟩)
        go_ret
        exact ⟨ret_bool (hasL_take_yes s k hlt hb).symm, rfl⟩
      · have hb' : letB (s[k].toNat : Int) = false := by simpa using hb
        go_wp2_with (go_at_call 10; refine (letter_any _ _).mono ?_; rintro e w' ⟨rfl, rfl⟩)
        go_round
        case rel => exact ⟨k + 1, by omega, by go_num, by rw [take_snoc s k hlt, hasL_snoc, HA.out, hb']; rfl⟩
        case measure => simp [intOf]; omega
    · go_wp2
      go_ret
      exact ⟨ret_bool (by rw [← HA.out, take_all s k (by omega)]), rfl⟩

theorem ends_take (s : ByteArray) (k : Nat) (h : k < s.size) : ends (s.data.toList.take (k + 1)) = bif schB (s[k].toNat : Int) then letB (s[k].toNat : Int) || ends (s.data.toList.take k) else false := by
  rw [take_snoc s k h, ends_snoc]

set_option maxHeartbeats 1000000 in
theorem ends_any (s : ByteArray) (w : World) (hs : s.size ≤ maxLen) :
    Calls Trym.prog 12 #[.string s] w fun e w' => e = .returned (.bool (ends s.data.toList)) ∧ w' = w := by
  unfold maxLen at hs
  go_enter Trym.func12, Trym.ntmps12
  go_wp2
  go_loop [3, 4] (fun l i => ∃ (k : Nat) (b : Bool), k ≤ s.size ∧ l = .bool b ∧ i = .int .i64 ((k : Int) - 1) ∧ Hid (ends s.data.toList = (b || ends (s.data.toList.take k)))) (fun _ i => (intOf i + 1).toNat)
  case atStart => exact ⟨s.size, false, Nat.le_refl _, rfl, rfl, by show _ = _; rw [take_all s s.size (Nat.le_refl _)]; rfl⟩
  case round =>
    obtain ⟨k, b, hk, rfl, rfl, HE⟩ := hrel
    rcases k with _ | k
    · go_wp2
      go_ret
      exact ⟨ret_bool (by rw [HE.out]; simp [ends_nil]), rfl⟩
    · have HT : Hid (ends (s.data.toList.take (k + 1)) = bif schB (s[k].toNat : Int) then letB (s[k].toNat : Int) || ends (s.data.toList.take k) else false) := ends_take s k hk
      have cases12 : ((0 : Int) ≤ s[k].toNat ∧ (s[k].toNat : Int) ≤ 42) ∨ ((44 : Int) ≤ s[k].toNat ∧ (s[k].toNat : Int) ≤ 44) ∨ ((47 : Int) ≤ s[k].toNat ∧ (s[k].toNat : Int) ≤ 47) ∨ ((58 : Int) ≤ s[k].toNat ∧ (s[k].toNat : Int) ≤ 64) ∨ ((91 : Int) ≤ s[k].toNat ∧ (s[k].toNat : Int) ≤ 96) ∨ ((123 : Int) ≤ s[k].toNat ∧ (s[k].toNat : Int) ≤ 255) ∨ ((43 : Int) ≤ s[k].toNat ∧ (s[k].toNat : Int) ≤ 43) ∨ ((45 : Int) ≤ s[k].toNat ∧ (s[k].toNat : Int) ≤ 45) ∨ ((46 : Int) ≤ s[k].toNat ∧ (s[k].toNat : Int) ≤ 46) ∨ ((48 : Int) ≤ s[k].toNat ∧ (s[k].toNat : Int) ≤ 57) ∨ ((65 : Int) ≤ s[k].toNat ∧ (s[k].toNat : Int) ≤ 90) ∨ ((97 : Int) ≤ s[k].toNat ∧ (s[k].toNat : Int) ≤ 122) := by
        have := s[k].toNat_lt; omega
      rcases cases12 with ⟨h1, h2⟩ | ⟨h1, h2⟩ | ⟨h1, h2⟩ | ⟨h1, h2⟩ | ⟨h1, h2⟩ | ⟨h1, h2⟩ | ⟨h1, h2⟩ | ⟨h1, h2⟩ | ⟨h1, h2⟩ | ⟨h1, h2⟩ | ⟨h1, h2⟩ | ⟨h1, h2⟩
      all_goals
        first | (have d65 : decide ((65 : Int) ≤ s[k].toNat) = true := by (simp only [decide_eq_true_eq]; omega)) | (have d65 : decide ((65 : Int) ≤ s[k].toNat) = false := by (simp only [decide_eq_false_iff_not]; omega))
        first | (have d90 : decide ((s[k].toNat : Int) ≤ 90) = true := by (simp only [decide_eq_true_eq]; omega)) | (have d90 : decide ((s[k].toNat : Int) ≤ 90) = false := by (simp only [decide_eq_false_iff_not]; omega))
        first | (have d97 : decide ((97 : Int) ≤ s[k].toNat) = true := by (simp only [decide_eq_true_eq]; omega)) | (have d97 : decide ((97 : Int) ≤ s[k].toNat) = false := by (simp only [decide_eq_false_iff_not]; omega))
        first | (have d122 : decide ((s[k].toNat : Int) ≤ 122) = true := by (simp only [decide_eq_true_eq]; omega)) | (have d122 : decide ((s[k].toNat : Int) ≤ 122) = false := by (simp only [decide_eq_false_iff_not]; omega))
        first | (have d48 : decide ((48 : Int) ≤ s[k].toNat) = true := by (simp only [decide_eq_true_eq]; omega)) | (have d48 : decide ((48 : Int) ≤ s[k].toNat) = false := by (simp only [decide_eq_false_iff_not]; omega))
        first | (have d57 : decide ((s[k].toNat : Int) ≤ 57) = true := by (simp only [decide_eq_true_eq]; omega)) | (have d57 : decide ((s[k].toNat : Int) ≤ 57) = false := by (simp only [decide_eq_false_iff_not]; omega))
        first | (have n43 : ((s[k].toNat : Int) != 43) = true := by (simp only [bne_iff_ne, ne_eq]; omega)) | (have n43 : ((s[k].toNat : Int) != 43) = false := by (simp only [bne_eq_false_iff_eq]; omega))
        first | (have n45 : ((s[k].toNat : Int) != 45) = true := by (simp only [bne_iff_ne, ne_eq]; omega)) | (have n45 : ((s[k].toNat : Int) != 45) = false := by (simp only [bne_eq_false_iff_eq]; omega))
        first | (have n46 : ((s[k].toNat : Int) != 46) = true := by (simp only [bne_iff_ne, ne_eq]; omega)) | (have n46 : ((s[k].toNat : Int) != 46) = false := by (simp only [bne_eq_false_iff_eq]; omega))
      iterate 6
        · go_wp2
          go_ret
          exact ⟨ret_bool (by rw [HE.out, HT.out, show schB (s[k].toNat : Int) = false from by simp only [schB, decide_eq_false_iff_not]; omega]; simp), rfl⟩
      iterate 4
        · cases b
          all_goals
            go_wp2
            go_round
            case rel => exact ⟨k, _, by omega, rfl, rfl, by show _ = _; rw [HE.out, HT.out, show schB (s[k].toNat : Int) = true from by simp only [schB, decide_eq_true_eq]; omega, show letB (s[k].toNat : Int) = false from by simp only [letB, decide_eq_false_iff_not]; omega]; simp⟩
            case measure => simp [intOf]
      iterate 2
        · cases b
          all_goals
            go_wp2
            go_round
            case rel => exact ⟨k, _, by omega, rfl, rfl, by show _ = _; rw [HE.out, HT.out, show schB (s[k].toNat : Int) = true from by simp only [schB, decide_eq_true_eq]; omega, show letB (s[k].toNat : Int) = true from by simp only [letB, decide_eq_true_eq]; omega]; simp⟩
            case measure => simp [intOf]

set_option maxHeartbeats 400000 in
theorem zzends_any (s : ByteArray) (w : World) (hs : s.size ≤ maxLen) :
    Calls Trym.prog 6 #[.string s] w fun e w' => e = .returned (.bool (ends s.data.toList)) ∧ w' = w := by
  go_enter Trym.func6, Trym.ntmps6
  go_wp2_with (go_at_call 12; refine (ends_any _ _ hs).mono ?_; rintro e w' ⟨rfl, rfl⟩)
  go_ret
  exact ⟨rfl, rfl⟩

set_option maxHeartbeats 400000 in
theorem bytesIns_yes (s : ByteArray) (i c : Int) (w : World) (hs : s.size ≤ 1048576) :
    Calls Trym.prog 9 #[.string s, .int .i64 i, .int .u8 c] w fun e w' => e = .returned (.bool true) ∧ w' = w := by
  go_enter Trym.func9, Trym.ntmps9
  go_wp2
  go_ret
  exact ⟨rfl, rfl⟩

set_option maxHeartbeats 400000 in
theorem bytesIns_no (s : ByteArray) (i c : Int) (w : World) (hs : 1048576 < s.size) :
    Calls Trym.prog 9 #[.string s, .int .i64 i, .int .u8 c] w fun e w' => e = .returned (.bool false) ∧ w' = w := by
  go_enter Trym.func9, Trym.ntmps9
  go_wp2
  go_ret
  exact ⟨rfl, rfl⟩

set_option maxHeartbeats 400000 in
theorem bytesCut_yes (a b : ByteArray) (w : World) (hs : a.size + b.size ≤ 1048576) :
    Calls Trym.prog 5 #[.string a, .string b] w fun e w' => e = .returned (.bool true) ∧ w' = w := by
  go_enter Trym.func5, Trym.ntmps5
  go_wp2
  go_ret
  exact ⟨rfl, rfl⟩

set_option maxHeartbeats 400000 in
theorem bytesCut_no (a b : ByteArray) (w : World) (hs : 1048576 < a.size + b.size) :
    Calls Trym.prog 5 #[.string a, .string b] w fun e w' => e = .returned (.bool false) ∧ w' = w := by
  by_cases h1 : 1048576 < a.size
  · go_enter Trym.func5, Trym.ntmps5
    go_wp2
    go_ret
    exact ⟨rfl, rfl⟩
  · by_cases h2 : 1048576 < b.size
    · go_enter Trym.func5, Trym.ntmps5
      go_wp2
      go_ret
      exact ⟨rfl, rfl⟩
    · go_enter Trym.func5, Trym.ntmps5
      go_wp2
      go_ret
      exact ⟨rfl, rfl⟩

end Go.Proofs.Qxb6609060aMods
