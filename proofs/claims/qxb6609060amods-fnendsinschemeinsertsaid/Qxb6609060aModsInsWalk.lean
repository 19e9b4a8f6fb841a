/-
  THE WALK of the law FnEndsInSchemeInsert.
-/
import Derived.Test.Qxb6609060aModsWalks
import Derived.RowKit3
import Derived.Deep.RegionWith
import Derived.Deep.Cut
import Derived.Deep.CutRange
import Derived.Laws.IdiomStrings
namespace Go.Proofs.Qxb6609060aMods
open Go.RowKit Plain

theorem conv_one (W : World) (a : Addr) (c : UInt8) (h : W.cell? (a.add 0) = some (.int .u8 (c.toNat : Int))) :
    (convert 25 9 (.slice (some a) 1 1)).run Trym.prog W = .ok (.string ⟨#[c]⟩) W :=
  run_convert_bytes_back (P := Trym.prog) W 25 9 5 a 1 [c] Trym.underlying25 Trym.underlying5 Trym.underlying9 (by
    intro j hj
    have : j = 0 := by simp at hj; omega
    subst this
    exact h)

theorem parts (s : ByteArray) (k : Nat) : s.data.toList = s.data.toList.take k ++ (s.data.toList.drop k).take (s.size - k) := by
  have h : (s.data.toList.drop k).take (s.size - k) = s.data.toList.drop k := List.take_of_length_le (by simp)
  rw [h, List.take_append_drop]

theorem one_letter (s : ByteArray) (k : Nat) (c : UInt8) (h : letB (c.toNat : Int) = true) :
    ends (s.data.toList.take k ++ c :: (s.data.toList.drop k).take (s.size - k)) = (allS ((s.data.toList.drop k).take (s.size - k)) || ends s.data.toList) := by
  have h1 := ins_letter (s.data.toList.take k) ((s.data.toList.drop k).take (s.size - k)) c h
  rw [← parts] at h1
  rw [← h1]; simp
theorem one_other (s : ByteArray) (k : Nat) (c : UInt8) (h : letB (c.toNat : Int) = false) (g : schB (c.toNat : Int) = true) :
    ends (s.data.toList.take k ++ c :: (s.data.toList.drop k).take (s.size - k)) = ends s.data.toList := by
  have h1 := ins_other (s.data.toList.take k) ((s.data.toList.drop k).take (s.size - k)) c h g
  rw [← parts] at h1
  rw [← h1]; simp
theorem one_none (s : ByteArray) (k : Nat) (c : UInt8) (g : schB (c.toNat : Int) = false) :
    ends (s.data.toList.take k ++ c :: (s.data.toList.drop k).take (s.size - k)) = ends ((s.data.toList.drop k).take (s.size - k)) := by
  rw [← ins_none (s.data.toList.take k) ((s.data.toList.drop k).take (s.size - k)) c g]; simp

theorem grown_here (w : World) (o : Array Value) (t : TypeId) : Grown w (w.alloc (Obj.cells o t)).drew := by
  repeat (first | exact Grown.refl _ | apply Grown.drew | apply Grown.alloc)

set_option maxHeartbeats 1000000 in
theorem ins_walk (s : ByteArray) (i : Int) (c : UInt8) (w0 : s.size ≤ maxLen) (w : World) :
    Calls Trym.prog 4 #[.string s, .int .i64 i, .int .u8 (c.toNat : Int)] w fun e w' => e = .returned (.bool true) ∧ Grown w w' := by
  by_cases hz : 1048576 < s.size
  · go_enter Trym.func4, Trym.ntmps4
    go_wp2_with (go_at_call 9; refine (bytesIns_no _ _ _ _ hz).mono ?_; rintro e w' ⟨rfl, rfl⟩)
    go_ret
    exact ⟨rfl, Grown.refl _⟩
  · have hz' : s.size ≤ 1048576 := by omega
    by_cases hi : i < 0
    · go_enter Trym.func4, Trym.ntmps4
      go_wp2_with (go_at_call 9; refine (bytesIns_yes _ _ _ _ hz').mono ?_; rintro e w' ⟨rfl, rfl⟩)
      go_ret
      exact ⟨rfl, Grown.refl _⟩
    · by_cases hj : (s.size : Int) < i
      · go_enter Trym.func4, Trym.ntmps4
        go_wp2_with (go_at_call 9; refine (bytesIns_yes _ _ _ _ hz').mono ?_; rintro e w' ⟨rfl, rfl⟩)
        go_ret
        exact ⟨rfl, Grown.refl _⟩
      · obtain ⟨k, rfl⟩ : ∃ k : Nat, i = k := ⟨i.toNat, by omega⟩
        have hk : k ≤ s.size := by omega
        go_enter Trym.func4, Trym.ntmps4
        go_wp2_with (go_at_call 9; refine (bytesIns_yes _ _ _ _ hz').mono ?_; rintro e w' ⟨rfl, rfl⟩)
        have kc := fun W a => conv_one W a c
        have hsz : (s.extract 0 k ++ { data := #[c] } ++ s.extract k s.size : ByteArray).size ≤ maxLen := by
          rw [ByteArray.size_append, ByteArray.size_append, ByteArray.size_extract, ByteArray.size_extract]
          have : (ByteArray.mk #[c]).size = 1 := rfl
          unfold maxLen
          omega
        have hct := fun W => zzends_any _ W hsz
        go_region_with (go_at_call 6; refine (hct _).mono ?_; rintro e w' ⟨rfl, rfl⟩)
        clear hct kc
        have hxs : (s.extract k s.size).size ≤ maxLen := by rw [ByteArray.size_extract]; unfold maxLen; omega
        by_cases hl : letB (c.toNat : Int) = true
        · have HL : Hid (_ = _) := one_letter s k c hl
          by_cases ha : allS ((s.data.toList.drop k).take (s.size - k)) = true
          · go_wp2_with (first | (go_at_call 10; refine (letter_any _ _).mono ?_; rintro e w' ⟨rfl, rfl⟩) | (go_at_call 7; refine (allS_any _ _ hxs).mono ?_; rintro e w' ⟨rfl, rfl⟩))
            go_ret
            exact ⟨ret_bool (by rw [HL.out, ha]; rfl), grown_here _ _ _⟩
          · have ha' : allS ((s.data.toList.drop k).take (s.size - k)) = false := by simpa using ha
            go_wp2_with (first | (go_at_call 10; refine (letter_any _ _).mono ?_; rintro e w' ⟨rfl, rfl⟩) | (go_at_call 7; refine (allS_any _ _ hxs).mono ?_; rintro e w' ⟨rfl, rfl⟩) | (go_at_call 6; refine (zzends_any _ _ w0).mono ?_; rintro e w' ⟨rfl, rfl⟩))
            go_ret
            exact ⟨ret_bool (by rw [HL.out, ha']; simp), grown_here _ _ _⟩
        · have hl' : letB (c.toNat : Int) = false := by simpa using hl
          by_cases hs : schB (c.toNat : Int) = true
          · have HL : Hid (_ = _) := one_other s k c hl' hs
            go_wp2_with (first | (go_at_call 10; refine (letter_any _ _).mono ?_; rintro e w' ⟨rfl, rfl⟩) | (go_at_call 11; refine (scheme_any _ _).mono ?_; rintro e w' ⟨rfl, rfl⟩) | (go_at_call 6; refine (zzends_any _ _ w0).mono ?_; rintro e w' ⟨rfl, rfl⟩))
            go_ret
            exact ⟨ret_bool (by rw [HL.out]; simp), grown_here _ _ _⟩
          · have hs' : schB (c.toNat : Int) = false := by simpa using hs
            have HL : Hid (_ = _) := one_none s k c hs'
            go_wp2_with (first | (go_at_call 10; refine (letter_any _ _).mono ?_; rintro e w' ⟨rfl, rfl⟩) | (go_at_call 11; refine (scheme_any _ _).mono ?_; rintro e w' ⟨rfl, rfl⟩) | (go_at_call 6; refine (zzends_any _ _ hxs).mono ?_; rintro e w' ⟨rfl, rfl⟩))
            go_ret
            exact ⟨ret_bool (by rw [HL.out]; simp), grown_here _ _ _⟩
end Go.Proofs.Qxb6609060aMods
