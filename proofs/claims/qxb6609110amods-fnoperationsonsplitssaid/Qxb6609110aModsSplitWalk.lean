/-
  THE WALK of the law FnOperationsOnSplits.
-/
import Derived.Test.Qxb6609110aModsHand
import Derived.Test.Qxb6609110aModsSizes
namespace Go.Proofs.Qxb6609110aMods
open Go.RowKit Plain

theorem below_chain {B : Nat} {w w1 w2 : World} (h1 : Below B w w1) (h2 : Below w1.heap.size w1 w2) (hB : B ≤ w.heap.size) : Below B w w2 :=
  h1.trans (h2.mono (Nat.le_trans hB h1.size))

set_option maxHeartbeats 2000000 in
theorem split_walk (obj : ByteArray) (a : Option Addr) (len cap : Nat) (ps : List Pm) (kk : Int) (w : World) (hp : PRow w a len cap ps) :
    Calls Trym.prog 3 #[.string obj, .slice a len cap, .int .i64 kk] w fun e w' => e = .returned (.bool true) ∧ Below w.heap.size w w' := by
  have hlm : len ≤ 9223372036854775807 := by have h1 := hp.2.1; have h2 := hp.2.2.1; unfold maxLen at h2; omega
  have HP : Hid (PRow w a len cap ps) := hp
  clear hp
  go_enter Trym.func3, Trym.ntmps3
  go_wp2_with fail
  refine (bytesSplits_any obj a len cap ps kk _ HP.out).mono ?_
  rintro e w' ⟨⟨r, rfl⟩, hw⟩
  subst w'
  rcases r with _ | _
  · go_wp2
    go_ret
    exact ⟨rfl, Below.refl _ _⟩
  go_wp2_with fail
  refine (sizeOK_any obj a len cap ps _ HP.out).mono ?_
  rintro e w1 ⟨⟨r, rfl, hr⟩, hb1⟩
  have HP1 : Hid (PRow w1 a len cap ps) := HP.out.later hb1
  rcases r with _ | _
  · go_wp2
    go_ret
    exact ⟨rfl, hb1⟩
  have hlen : len ≤ 65536 := hr rfl
  clear hr
  by_cases hneg : kk < 0
  · go_wp2
    go_ret
    exact ⟨rfl, hb1⟩
  by_cases hbig : (len : Int) < kk
  · go_wp2
    go_ret
    exact ⟨rfl, hb1⟩
  obtain ⟨k, rfl⟩ : ∃ k : Nat, kk = k := ⟨kk.toNat, by omega⟩
  have hk : k ≤ len := by omega
  obtain ⟨hsl, hPl⟩ := cut_left w1 k hk HP1.out
  obtain ⟨a2, hsr, hPr⟩ := cut_right w1 k hk HP1.out
  have HPl : Hid (PRow w1 a k cap (ps.take k)) := hPl
  have HPr : Hid (PRow w1 a2 (len - k) (cap - k) (ps.drop k)) := hPr
  have HB1 : Hid (Below w.heap.size w w1) := hb1
  clear hPl hPr hb1
  go_wp2_with fail
  refine (perms_any a len cap ps _ HP1.out (by omega)).mono ?_
  rintro e w2 ⟨p1, c1, rfl, hq1, hb2⟩
  have HQ1 : Hid (PRow w2 p1 len c1 ps) := hq1
  have HB2 : Hid (Below w1.heap.size w1 w2) := hb2
  clear hq1 hb2
  go_wp2_with fail
  refine (zzops_any obj p1 len c1 ps _ HQ1.out (by omega)).mono ?_
  rintro e w3 ⟨v1, rfl, hs1, hb3⟩
  obtain ⟨ad1, cp1, rfl, hr1⟩ := hs1.read
  have HR1 : Hid (SRow w3 ad1 (opsOf obj ps)) := hr1
  have HB3 : Hid (Below w1.heap.size w1 w3) := below_chain HB2.out hb3 (Nat.le_refl _)
  clear hr1 hb3 hs1 HB2 HQ1
  go_wp2_with fail
  refine (perms_any a k cap (ps.take k) _ (HPl.out.later HB3.out) (by omega)).mono ?_
  rintro e w4 ⟨p2, c2, rfl, hq2, hb4⟩
  have HQ2 : Hid (PRow w4 p2 k c2 (ps.take k)) := hq2
  have HB4 : Hid (Below w3.heap.size w3 w4) := hb4
  clear hq2 hb4
  go_wp2_with fail
  refine (zzops_any obj p2 k c2 (ps.take k) _ HQ2.out (by omega)).mono ?_
  rintro e w5 ⟨v2, rfl, hs2, hb5⟩
  obtain ⟨ad2, cp2, rfl, hr2⟩ := hs2.read
  have HR2 : Hid (SRow w5 ad2 (opsOf obj (ps.take k))) := hr2
  have HB5 : Hid (Below w3.heap.size w3 w5) := below_chain HB4.out hb5 (Nat.le_refl _)
  clear hr2 hb5 hs2 HB4 HQ2
  go_wp2_with fail
  refine (perms_any a2 (len - k) (cap - k) (ps.drop k) _ ((HPr.out.later HB3.out).later HB5.out) (by omega)).mono ?_
  rintro e w6 ⟨p3, c3, rfl, hq3, hb6⟩
  have HQ3 : Hid (PRow w6 p3 (len - k) c3 (ps.drop k)) := hq3
  have HB6 : Hid (Below w5.heap.size w5 w6) := hb6
  clear hq3 hb6
  go_wp2_with fail
  refine (zzops_any obj p3 (len - k) c3 (ps.drop k) _ HQ3.out (by omega)).mono ?_
  rintro e w7 ⟨v3, rfl, hs3, hb7⟩
  obtain ⟨ad3, cp3, rfl, hr3⟩ := hs3.read
  have HR3 : Hid (SRow w7 ad3 (opsOf obj (ps.drop k))) := hr3
  have HB7 : Hid (Below w5.heap.size w5 w7) := below_chain HB6.out hb7 (Nat.le_refl _)
  clear hr3 hb7 hs3 HB6 HQ3 hsl hsr
  -- all that was there lies in w7
  have HW : Hid (Below w.heap.size w w7) := below_chain (below_chain (below_chain HB1.out HB3.out (Nat.le_refl _)) HB5.out (Nat.le_refl _)) HB7.out (Nat.le_refl _)
  have HP7 : Hid (PRow w7 a len cap ps) := HP.out.later HW.out
  have HR1' : Hid (SRow w7 ad1 (opsOf obj ps)) := (HR1.out.later HB5.out).later HB7.out
  have HR2' : Hid (SRow w7 ad2 (opsOf obj (ps.take k))) := HR2.out.later HB7.out
  have HE : Hid (opsOf obj ps = opsOf obj (ps.take k) ++ opsOf obj (ps.drop k)) := by
    show _ = _
    rw [← opsOf_append, List.take_append_drop]
  have l1 : (opsOf obj ps).length ≤ len := Nat.le_trans (opsOf_len _ _) (by rw [HP.out.1]; exact Nat.le_refl _)
  have hlsum : Hid ((opsOf obj ps).length = (opsOf obj (ps.take k)).length + (opsOf obj (ps.drop k)).length) := by
    show _ = _
    rw [← List.length_append, ← HE.out]
  have l2 : (opsOf obj (ps.take k)).length ≤ len := by have := hlsum.out; omega
  have l3 : (opsOf obj (ps.drop k)).length ≤ len := by have := hlsum.out; omega
  clear HP HP1 HPl HPr HB1 HB3 HB5 HB7 HR1 HR2
  go_wp2
  go_loop [10, 11] (fun n i => ∃ j c : Nat, j ≤ len ∧ i = .int .i64 j ∧ n = .int .i64 c ∧ c ≤ j ∧ Hid (c = (opsOf obj (ps.take j)).length)) (fun _ i => len - (intOf i).toNat)
  case atStart => exact ⟨0, 0, Nat.zero_le _, rfl, rfl, Nat.le_refl _, rfl⟩
  case round =>
    obtain ⟨j, c, hj, rfl, rfl, hcj, HC⟩ := hrel
    by_cases hlt : j < len
    · obtain ⟨b, off, ha, hbw, hc⟩ := HP7.out.2.2.2.2 (by omega)
      subst ha
      obtain ⟨p0, q0, hpq⟩ : ∃ p0 q0, ps.getD j default = (p0, q0) := ⟨_, _, rfl⟩
      have h1 : w7.cell? ⟨b, off + j * 2 + 1, none⟩ = some (.string q0) := by have := (hc j hlt).2; rwa [hpq] at this
      have HPQ : Hid (ps.getD j default = (p0, q0)) := hpq
      clear hc hpq
      by_cases hon : (q0.toList == obj.toList) = true
      · go_wp2
        go_round
        case rel => exact ⟨j + 1, c + 1, by omega, by go_num, by go_num, by omega, by
          show _ = _
          rw [take_snoc ps default j (by rw [HP7.out.1]; exact hlt), opsOf_append, HPQ.out, opsOf_one_yes _ _ (by simpa [onB] using hon), List.length_append, ← HC.out]; rfl⟩
        case measure => simp [intOf]; omega
      · have hon' : (q0.toList == obj.toList) = false := by simpa using hon
        go_wp2
        go_round
        case rel => exact ⟨j + 1, c, by omega, by go_num, rfl, by omega, by
          show _ = _
          rw [take_snoc ps default j (by rw [HP7.out.1]; exact hlt), opsOf_append, HPQ.out, opsOf_one_no _ _ (by simpa [onB] using hon'), List.append_nil, ← HC.out]⟩
        case measure => simp [intOf]; omega
    · obtain rfl : c = (opsOf obj ps).length := by
        rw [HC.out, List.take_of_length_le (by rw [HP7.out.1]; omega)]
      have hn : ∀ W, (binOp .eql 25 (.slice ad1 (opsOf obj ps).length cp1) (.slice none 0 0)).run Trym.prog W = .ok (.bool (((opsOf obj ps).length : Int) == 0)) W := by
        intro W
        rw [Lib.run_eql_slice_nil (P := Trym.prog) W 25 9 ad1 _ cp1 0 0 Trym.underlying25, HR1'.out.isNone]
      have hsm : (((opsOf obj (ps.take k)).length : Int) + ((opsOf obj (ps.drop k)).length : Int) != ((opsOf obj ps).length : Int)) = false := by
        have := hlsum.out
        simp only [bne_eq_false_iff_eq]; omega
      go_wp2
      clear hn hsm HC
      go_loopw [12] (fun i wr => ∃ j : Nat, j ≤ (opsOf obj (ps.take k)).length ∧ i = .int .i64 j ∧ Below w7.heap.size w7 wr) (fun i _ => (opsOf obj (ps.take k)).length - (intOf i).toNat)
      case atStart => exact ⟨0, Nat.zero_le _, rfl, Below.refl _ _⟩
      case round =>
        obtain ⟨j, hj, rfl, hnx⟩ := hrel
        by_cases hlt : j < (opsOf obj (ps.take k)).length
        · obtain ⟨g2, ha2, hg2, hc2⟩ := HR2'.out.2 (by omega)
          obtain ⟨g1, ha1, hg1, hc1⟩ := HR1'.out.2 (by have := hlsum.out; omega)
          subst ha2
          subst ha1
          have hjL : j < (opsOf obj ps).length := by have := hlsum.out; omega
          obtain ⟨x, hx⟩ : ∃ x, x = (opsOf obj (ps.take k)).getD j default := ⟨_, rfl⟩
          have h2 : wr.cell? ⟨g2, j, none⟩ = some (.string x) := by rw [hx]; exact (hnx.cell (by exact hg2)).trans (hc2 j hlt)
          have h1 : wr.cell? ⟨g1, j, none⟩ = some (.string x) := by
            rw [hx]
            refine ((hnx.cell (by exact hg1)).trans (hc1 j hjL)).trans ?_
            rw [HE.out]
            simp [List.getD, List.getElem?_append_left hlt]
          clear hc1 hc2 hx
          go_wp2
          go_region
          go_wp2
          go_roundw
          case rel => exact ⟨j + 1, by omega, by go_num, hnx.drew⟩
          case measure => simp [intOf]; omega
        · go_wp2
          have HNX : Hid (Below w7.heap.size w7 wr) := hnx
          clear hnx
          obtain ⟨wo, hwo⟩ : ∃ wo : World, wo = wr := ⟨_, rfl⟩
          subst hwo
          go_loopw [13] (fun i wr => ∃ j : Nat, j ≤ (opsOf obj (ps.drop k)).length ∧ i = .int .i64 j ∧ Below w7.heap.size w7 wr) (fun i _ => (opsOf obj (ps.drop k)).length - (intOf i).toNat)
          case atStart => exact ⟨0, Nat.zero_le _, rfl, HNX.out⟩
          case round =>
            obtain ⟨j, hj, rfl, hnx⟩ := hrel
            by_cases hlt : j < (opsOf obj (ps.drop k)).length
            · obtain ⟨g3, ha3, hg3, hc3⟩ := HR3.out.2 (by omega)
              obtain ⟨g1, ha1, hg1, hc1⟩ := HR1'.out.2 (by have := hlsum.out; omega)
              subst ha3
              subst ha1
              have hjL : (opsOf obj (ps.take k)).length + j < (opsOf obj ps).length := by have := hlsum.out; omega
              obtain ⟨x, hx⟩ : ∃ x, x = (opsOf obj (ps.drop k)).getD j default := ⟨_, rfl⟩
              have h3 : wr.cell? ⟨g3, j, none⟩ = some (.string x) := by rw [hx]; exact (hnx.cell (by exact hg3)).trans (hc3 j hlt)
              have h1 : wr.cell? ⟨g1, (opsOf obj (ps.take k)).length + j, none⟩ = some (.string x) := by
                rw [hx]
                refine ((hnx.cell (by exact hg1)).trans (hc1 _ hjL)).trans ?_
                rw [HE.out]
                simp [List.getD, List.getElem?_append_right]
              clear hc1 hc3 hx
              go_wp2
              go_region
              go_wp2
              go_roundw
              case rel => exact ⟨j + 1, by omega, by go_num, hnx.drew⟩
              case measure => simp [intOf]; omega
            · go_wp2
              go_ret
              exact ⟨rfl, below_chain HW.out hnx (Nat.le_refl _)⟩
end Go.Proofs.Qxb6609110aMods
