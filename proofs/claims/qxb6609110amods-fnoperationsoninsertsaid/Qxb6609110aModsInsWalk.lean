/-
  THE WALK of the law FnOperationsOnInsert.
-/
import Derived.Test.Qxb6609110aModsBuild
import Derived.Test.Qxb6609110aModsSizes
namespace Go.Proofs.Qxb6609110aMods
open Go.RowKit Plain

theorem below_chain' {B : Nat} {w w1 w2 : World} (h1 : Below B w w1) (h2 : Below w1.heap.size w1 w2) (hB : B ≤ w.heap.size) : Below B w w2 :=
  h1.trans (h2.mono (Nat.le_trans hB h1.size))

theorem Q_left {ps : List Pm} {p : Pm} {k j : Nat} (hk : k ≤ ps.length) (hj : j < k) : (ps.take k ++ [p] ++ ps.drop k).getD j default = ps.getD j default := by
  simp only [List.getD]
  rw [List.append_assoc, List.getElem?_append_left (by simp; omega), List.getElem?_take_of_lt hj]
theorem Q_mid {ps : List Pm} {p : Pm} {k : Nat} (hk : k ≤ ps.length) : (ps.take k ++ [p] ++ ps.drop k).getD k default = p := by
  simp only [List.getD]
  rw [List.append_assoc, List.getElem?_append_right (by simp; omega)]
  simp [Nat.min_eq_left hk]
theorem Q_right {ps : List Pm} {p : Pm} {k j : Nat} (hk : k ≤ ps.length) (hj : k ≤ j) : (ps.take k ++ [p] ++ ps.drop k).getD (j + 1) default = ps.getD j default := by
  simp only [List.getD]
  rw [List.getElem?_append_right (by simp; omega)]
  simp only [List.length_append, List.length_take, Nat.min_eq_left hk, List.length_cons, List.length_nil, List.getElem?_drop]
  congr 2
  omega
theorem Q_length {ps : List Pm} {p : Pm} {k : Nat} (hk : k ≤ ps.length) : (ps.take k ++ [p] ++ ps.drop k).length = ps.length + 1 := by
  simp; omega

set_option maxRecDepth 100000 in
set_option maxHeartbeats 2000000 in
theorem ins_walk (obj : ByteArray) (a : Option Addr) (len cap : Nat) (ps : List Pm) (kk : Int) (op on : ByteArray) (w : World) (hp : PRow w a len cap ps) :
    Calls Trym.prog 4 #[.string obj, .slice a len cap, .int .i64 kk, .string op, .string on] w fun e w' => e = .returned (.bool true) ∧ Below w.heap.size w w' := by
  have hlm : len ≤ 9223372036854775807 := by have h1 := hp.2.1; have h2 := hp.2.2.1; unfold maxLen at h2; omega
  have HP : Hid (PRow w a len cap ps) := hp
  clear hp
  go_enter Trym.func4, Trym.ntmps4
  go_wp2_with fail
  refine (bytesInsert_any obj a len cap ps kk op on _ HP.out).mono ?_
  rintro e w' ⟨⟨r, rfl⟩, hw⟩
  subst w'
  rcases r with _ | _
  · go_wp2
    go_ret
    exact ⟨rfl, Below.refl _ _⟩
  go_wp2_with fail
  refine (sizeOK_any obj a len cap ps _ HP.out).mono ?_
  rintro e w1 ⟨⟨r, rfl, hr⟩, hb1⟩
  have HP1 : Hid (PRow w1 a len cap ps) := HP.out.later hb1
  rcases r with _ | _
  · go_wp2
    go_ret
    exact ⟨rfl, hb1⟩
  have hlen : len ≤ 65536 := hr rfl
  clear hr
  by_cases ho1 : 65536 < op.size
  · go_wp2
    go_ret
    exact ⟨rfl, hb1⟩
  by_cases ho2 : 65536 < on.size
  · go_wp2
    go_ret
    exact ⟨rfl, hb1⟩
  by_cases hneg : kk < 0
  · go_wp2
    go_ret
    exact ⟨rfl, hb1⟩
  by_cases hbig : (len : Int) < kk
  · go_wp2
    go_ret
    exact ⟨rfl, hb1⟩
  obtain ⟨k, rfl⟩ : ∃ k : Nat, kk = k := ⟨kk.toNat, by omega⟩
  have hk : k ≤ len := by omega
  obtain ⟨Q, hQ⟩ : ∃ Q : List Pm, Q = ps.take k ++ [(op, on)] ++ ps.drop k := ⟨_, rfl⟩
  have HQ : Hid (Q = ps.take k ++ [(op, on)] ++ ps.drop k) := hQ
  have HB1 : Hid (Below w.heap.size w w1) := hb1
  obtain ⟨w2, hmk, hb2, hpb⟩ := make_ins w1 len hlen Q
  have HB2 : Hid (Below w1.heap.size w1 w2) := hb2
  have HPB : Hid (PBuild w2 w1.heap.size 0 (len + 1) Q) := hpb
  clear hQ hb1 hb2 hpb
  go_wp2
  clear hmk
  go_loopw [11, 12] (fun s i wr => ∃ j : Nat, j ≤ k ∧ i = .int .i64 j ∧ s = .slice (some ⟨w1.heap.size, 0, none⟩) j (len + 1) ∧ Below w1.heap.size w1 wr ∧ PBuild wr w1.heap.size j (len + 1) Q) (fun _ i _ => k - (intOf i).toNat)
  case atStart => exact ⟨0, Nat.zero_le _, rfl, rfl, HB2.out, HPB.out⟩
  case round =>
    obtain ⟨j, hj, rfl, rfl, hnx, hpb⟩ := hrel
    by_cases hlt : j < k
    · obtain ⟨b, off, ha, hbw, hc⟩ := HP1.out.2.2.2.2 (by omega)
      subst ha
      obtain ⟨p0, p1, hpq⟩ : ∃ p0 p1, ps.getD j default = (p0, p1) := ⟨_, _, rfl⟩
      have h0 : wr.cell? ⟨b, off + j * 2, none⟩ = some (.string p0) := by have := (hnx.cell (by exact hbw)).trans (hc j (by omega)).1; rwa [hpq] at this
      have h1 : wr.cell? ⟨b, off + j * 2 + 1, none⟩ = some (.string p1) := by have := (hnx.cell (by exact hbw)).trans (hc j (by omega)).2; rwa [hpq] at this
      have HPQ : Hid (ps.getD j default = (p0, p1)) := hpq
      obtain ⟨u0, g0⟩ := hpb.cell (j * 2) (by omega)
      obtain ⟨u1, g1⟩ := hpb.cell (j * 2 + 1) (by omega)
      have f0 := hpb.frozen (j * 2)
      have f1 := hpb.frozen (j * 2 + 1)
      have hgl := hpb.lt
      have HPBr : Hid (PBuild wr w1.heap.size j (len + 1) Q) := hpb
      clear hc hpq hpb
      go_wp2
      go_region
      have R1 : Below w1.heap.size w1 (((wr.setCell ⟨w1.heap.size, j * 2, none⟩ (.string p0)).setCell ⟨w1.heap.size, j * 2 + 1, none⟩ (.string p1)).alloc (.cells #[.string p0, .string p1] 32)).drew :=
        (((hnx.setCell (by simp) _).setCell (by simp) _).alloc (by have := hnx.size; simp [World.setCell]; omega) _).drew
      have R2 : PBuild (((wr.setCell ⟨w1.heap.size, j * 2, none⟩ (.string p0)).setCell ⟨w1.heap.size, j * 2 + 1, none⟩ (.string p1)).alloc (.cells #[.string p0, .string p1] 32)).drew w1.heap.size (j + 1) (len + 1) Q :=
        ((HPBr.out.push (by omega) (by rw [HQ.out, Q_left (by rw [HP1.out.1]; exact hk) hlt]; exact HPQ.out)).alloc _).drew
      clear g0 g1 f0 f1 h0 h1 HPBr hgl
      go_wp2
      go_roundw
      case rel => exact ⟨j + 1, by omega, by go_num, rfl, R1, R2⟩
      case measure => simp [intOf]; omega
    · have hjk : j = k := by omega
      subst j
      obtain ⟨u0, g0⟩ := hpb.cell (k * 2) (by omega)
      obtain ⟨u1, g1⟩ := hpb.cell (k * 2 + 1) (by omega)
      have f0 := hpb.frozen (k * 2)
      have f1 := hpb.frozen (k * 2 + 1)
      have hgl := hpb.lt
      have HPBr : Hid (PBuild wr w1.heap.size k (len + 1) Q) := hpb
      clear hpb
      go_wp2
      have R1 : Hid (Below w1.heap.size w1 (((wr.setCell ⟨w1.heap.size, k * 2, none⟩ (.string op)).setCell ⟨w1.heap.size, k * 2 + 1, none⟩ (.string on)).alloc (.cells #[.string op, .string on] 32))) :=
        (((hnx.setCell (by simp) _).setCell (by simp) _).alloc (by have := hnx.size; simp [World.setCell]; omega) _)
      have R2 : Hid (PBuild (((wr.setCell ⟨w1.heap.size, k * 2, none⟩ (.string op)).setCell ⟨w1.heap.size, k * 2 + 1, none⟩ (.string on)).alloc (.cells #[.string op, .string on] 32)) w1.heap.size (k + 1) (len + 1) Q) :=
        ((HPBr.out.push (by omega) (by rw [HQ.out, Q_mid (by rw [HP1.out.1]; exact hk)])).alloc _)
      clear g0 g1 f0 f1 HPBr hgl hnx
      obtain ⟨wo, hwo⟩ : ∃ wo : World, wo = wr := ⟨_, rfl⟩
      subst hwo
      go_loopw [11, 13] (fun s i wr => ∃ m : Nat, k ≤ m ∧ m ≤ len ∧ i = .int .i64 m ∧ s = .slice (some ⟨w1.heap.size, 0, none⟩) (m + 1) (len + 1) ∧ Below w1.heap.size w1 wr ∧ PBuild wr w1.heap.size (m + 1) (len + 1) Q) (fun _ i _ => len - (intOf i).toNat)
      case atStart => exact ⟨k, Nat.le_refl _, hk, rfl, rfl, R1.out, R2.out⟩
      case round =>
        obtain ⟨m, hkm, hml, rfl, rfl, hnx, hpb⟩ := hrel
        clear R1 R2
        by_cases hlt : m < len
        · obtain ⟨b, off, ha, hbw, hc⟩ := HP1.out.2.2.2.2 (by omega)
          subst ha
          obtain ⟨p0, p1, hpq⟩ : ∃ p0 p1, ps.getD m default = (p0, p1) := ⟨_, _, rfl⟩
          have h0 : wr.cell? ⟨b, off + m * 2, none⟩ = some (.string p0) := by have := (hnx.cell (by exact hbw)).trans (hc m (by omega)).1; rwa [hpq] at this
          have h1 : wr.cell? ⟨b, off + m * 2 + 1, none⟩ = some (.string p1) := by have := (hnx.cell (by exact hbw)).trans (hc m (by omega)).2; rwa [hpq] at this
          have HPQ : Hid (ps.getD m default = (p0, p1)) := hpq
          obtain ⟨u0, g0⟩ := hpb.cell ((m + 1) * 2) (by omega)
          obtain ⟨u1, g1⟩ := hpb.cell ((m + 1) * 2 + 1) (by omega)
          have f0 := hpb.frozen ((m + 1) * 2)
          have f1 := hpb.frozen ((m + 1) * 2 + 1)
          have hgl := hpb.lt
          have HPBr : Hid (PBuild wr w1.heap.size (m + 1) (len + 1) Q) := hpb
          clear hc hpq hpb
          go_wp2
          go_region
          have R1 : Below w1.heap.size w1 (((wr.setCell ⟨w1.heap.size, (m + 1) * 2, none⟩ (.string p0)).setCell ⟨w1.heap.size, (m + 1) * 2 + 1, none⟩ (.string p1)).alloc (.cells #[.string p0, .string p1] 32)).drew :=
            (((hnx.setCell (by simp) _).setCell (by simp) _).alloc (by have := hnx.size; simp [World.setCell]; omega) _).drew
          have R2 : PBuild (((wr.setCell ⟨w1.heap.size, (m + 1) * 2, none⟩ (.string p0)).setCell ⟨w1.heap.size, (m + 1) * 2 + 1, none⟩ (.string p1)).alloc (.cells #[.string p0, .string p1] 32)).drew w1.heap.size (m + 1 + 1) (len + 1) Q :=
            ((HPBr.out.push (by omega) (by rw [HQ.out, Q_right (by rw [HP1.out.1]; exact hk) hkm]; exact HPQ.out)).alloc _).drew
          clear g0 g1 f0 f1 h0 h1 HPBr hgl
          go_wp2
          go_roundw
          case rel => exact ⟨m + 1, by omega, by omega, by go_num, rfl, R1, R2⟩
          case measure => simp [intOf]; omega
        · have hml' : m = len := by omega
          subst m
          have HB3 : Hid (Below w1.heap.size w1 wr) := hnx
          have HQ3 : Hid (PRow wr (some ⟨w1.heap.size, 0, none⟩) (len + 1) (len + 1) Q) := hpb.row (Nat.le_refl _) (by unfold maxLen; omega) (by rw [HQ.out, Q_length (by rw [HP1.out.1]; exact hk), HP1.out.1])
          clear hnx hpb
          go_wp2_with fail
          refine (perms_any a len cap ps _ (HP1.out.later HB3.out) (by omega)).mono ?_
          rintro e w4 ⟨q1, c1, rfl, hq1, hb4⟩
          have HQ4 : Hid (PRow w4 q1 len c1 ps) := hq1
          have HB4 : Hid (Below wr.heap.size wr w4) := hb4
          clear hq1 hb4
          go_wp2_with fail
          refine (zzops_any obj q1 len c1 ps _ HQ4.out (by omega)).mono ?_
          rintro e w5 ⟨v1, rfl, hs1, hb5⟩
          obtain ⟨A, hA⟩ : ∃ A, A = opsOf obj (ps.take k) := ⟨_, rfl⟩
          obtain ⟨B, hB⟩ : ∃ B, B = opsOf obj (ps.drop k) := ⟨_, rfl⟩
          have HA : Hid (A = opsOf obj (ps.take k)) := hA
          have HAB : Hid (opsOf obj ps = A ++ B) := by
            show _ = _
            rw [hA, hB, ← opsOf_append, List.take_append_drop]
          have hABl : A.length + B.length ≤ len := by
            rw [← List.length_append, ← HAB.out]
            exact Nat.le_trans (opsOf_len _ _) (by rw [HP.out.1]; exact Nat.le_refl _)
          have HQA : Hid (opsOf obj Q = A ++ opsOf obj [(op, on)] ++ B) := by
            show _ = _
            rw [HQ.out, opsOf_append, opsOf_append, hA, hB]
          rw [HAB.out] at hs1
          obtain ⟨ad1, cp1, hv1, hr1⟩ := hs1.read
          rw [List.length_append] at hv1
          subst hv1
          have HR1 : Hid (SRow w5 ad1 (A ++ B)) := hr1
          have HB5 : Hid (Below wr.heap.size wr w5) := below_chain' HB4.out hb5 (Nat.le_refl _)
          clear hr1 hb5 hs1 HB4 HQ4 hA hB
          go_wp2_with fail
          refine (zzops_any obj _ (len + 1) (len + 1) Q _ (HQ3.out.later HB5.out) (by omega)).mono ?_
          rintro e w6 ⟨v2, rfl, hs2, hb6⟩
          have HB6 : Hid (Below w5.heap.size w5 w6) := hb6
          have HW : Hid (Below w.heap.size w w6) := below_chain' (below_chain' (below_chain' HB1.out HB3.out (Nat.le_refl _)) HB5.out (Nat.le_refl _)) HB6.out (Nat.le_refl _)
          have HP6 : Hid (PRow w6 a len cap ps) := HP.out.later HW.out
          have HR1' : Hid (SRow w6 ad1 (A ++ B)) := HR1.out.later HB6.out
          clear hb6 HP HP1 HB1 HB3 HB5 HB6 HR1 HQ3 HB2 HPB
          by_cases hon : (on.toList == obj.toList) = true
          · have hone : (on.toList != obj.toList) = false := by simp only [bne, hon]; rfl
            rw [HQA.out, opsOf_one_yes _ _ (by simpa [onB] using hon)] at hs2
            obtain ⟨ad2, cp2, hv2, hr2⟩ := hs2.read
            simp only [List.length_append, List.length_cons, List.length_nil] at hv2
            subst hv2
            have HR2 : Hid (SRow w6 ad2 (A ++ [op] ++ B)) := hr2
            clear hr2 hs2
            go_wp2
            obtain ⟨wo2, hwo2⟩ : ∃ wo2 : World, wo2 = wr := ⟨_, rfl⟩
            subst hwo2
            go_loop [17, 18] (fun n i => ∃ j c : Nat, j ≤ k ∧ i = .int .i64 j ∧ n = .int .i64 c ∧ c ≤ j ∧ Hid (c = (opsOf obj (ps.take j)).length)) (fun _ i => k - (intOf i).toNat)
            case atStart => exact ⟨0, 0, Nat.zero_le _, rfl, rfl, Nat.le_refl _, rfl⟩
            case round =>
              obtain ⟨j, c, hj, rfl, rfl, hcj, HC⟩ := hrel
              by_cases hlt : j < k
              · obtain ⟨b, off, ha, hbw, hc⟩ := HP6.out.2.2.2.2 (by omega)
                subst ha
                obtain ⟨p0, q0, hpq⟩ : ∃ p0 q0, ps.getD j default = (p0, q0) := ⟨_, _, rfl⟩
                have h1 : w6.cell? ⟨b, off + j * 2 + 1, none⟩ = some (.string q0) := by have := (hc j (by omega)).2; rwa [hpq] at this
                have HPQ : Hid (ps.getD j default = (p0, q0)) := hpq
                clear hc hpq
                by_cases hon2 : (q0.toList == obj.toList) = true
                · go_wp2
                  go_round
                  case rel => exact ⟨j + 1, c + 1, by omega, by go_num, by go_num, by omega, by
                    show _ = _
                    rw [take_snoc ps default j (by rw [HP6.out.1]; omega), opsOf_append, HPQ.out, opsOf_one_yes _ _ (by simpa [onB] using hon2), List.length_append, ← HC.out]; rfl⟩
                  case measure => simp [intOf]; omega
                · have hon2' : (q0.toList == obj.toList) = false := by simpa using hon2
                  go_wp2
                  go_round
                  case rel => exact ⟨j + 1, c, by omega, by go_num, rfl, by omega, by
                    show _ = _
                    rw [take_snoc ps default j (by rw [HP6.out.1]; omega), opsOf_append, HPQ.out, opsOf_one_no _ _ (by simpa [onB] using hon2'), List.append_nil, ← HC.out]⟩
                  case measure => simp [intOf]; omega
              · obtain rfl : c = A.length := by
                  rw [HC.out, HA.out, show j = k by omega]
                have hls : ((A.length : Int) + 1 + (B.length : Int) != (A.length : Int) + (B.length : Int) + 1) = false := by
                  simp only [bne_eq_false_iff_eq]; omega
                go_wp2
                clear hls HC
                go_loopw [19] (fun i wr => ∃ j : Nat, j ≤ A.length ∧ i = .int .i64 j ∧ Below w6.heap.size w6 wr) (fun i _ => A.length - (intOf i).toNat)
                case atStart => exact ⟨0, Nat.zero_le _, rfl, Below.refl _ _⟩
                case round =>
                  obtain ⟨j2, hj2, rfl, hnx⟩ := hrel
                  by_cases hlt2 : j2 < A.length
                  · obtain ⟨g2, ha2, hg2, hc2⟩ := HR2.out.2 (by simp; omega)
                    obtain ⟨g1, ha1, hg1, hc1⟩ := HR1'.out.2 (by simp; omega)
                    subst ha2
                    subst ha1
                    obtain ⟨x, hx⟩ : ∃ x, x = A.getD j2 default := ⟨_, rfl⟩
                    have h2 : wr.cell? ⟨g2, j2, none⟩ = some (.string x) := by
                      rw [hx]
                      refine ((hnx.cell (by exact hg2)).trans (hc2 j2 (by simp; omega))).trans ?_
                      rw [List.append_assoc]
                      simp [List.getD, List.getElem?_append_left hlt2]
                    have h1 : wr.cell? ⟨g1, j2, none⟩ = some (.string x) := by
                      rw [hx]
                      refine ((hnx.cell (by exact hg1)).trans (hc1 j2 (by simp; omega))).trans ?_
                      simp [List.getD, List.getElem?_append_left hlt2]
                    clear hc1 hc2 hx
                    go_wp2
                    go_region
                    go_wp2
                    go_roundw
                    case rel => exact ⟨j2 + 1, by omega, by go_num, hnx.drew⟩
                    case measure => simp [intOf]; omega
                  · obtain ⟨g2, ha2, hg2, hc2⟩ := HR2.out.2 (by simp; omega)
                    subst ha2
                    have h2 : wr.cell? ⟨g2, A.length, none⟩ = some (.string op) := by
                      refine ((hnx.cell (by exact hg2)).trans (hc2 A.length (by simp))).trans ?_
                      simp [List.getD]
                    have HC2 : Hid (∀ i, i < (A ++ [op] ++ B).length → w6.cell? ⟨g2, i, none⟩ = some (.string ((A ++ [op] ++ B).getD i default))) := hc2
                    have HNX : Hid (Below w6.heap.size w6 wr) := hnx
                    clear hc2 hnx
                    go_wp2
                    clear h2
                    obtain ⟨wo3, hwo3⟩ : ∃ wo3 : World, wo3 = wr := ⟨_, rfl⟩
                    subst hwo3
                    go_loopw [20] (fun i wr => ∃ j : Nat, A.length ≤ j ∧ j ≤ A.length + B.length ∧ i = .int .i64 j ∧ Below w6.heap.size w6 wr) (fun i _ => A.length + B.length - (intOf i).toNat)
                    case atStart => exact ⟨A.length, Nat.le_refl _, by omega, rfl, HNX.out⟩
                    case round =>
                      obtain ⟨j3, hj3, hj4, rfl, hnx⟩ := hrel
                      by_cases hlt3 : j3 < A.length + B.length
                      · obtain ⟨g1, ha1, hg1, hc1⟩ := HR1'.out.2 (by simp; omega)
                        subst ha1
                        obtain ⟨x, hx⟩ : ∃ x, x = B.getD (j3 - A.length) default := ⟨_, rfl⟩
                        have h3 : wr.cell? ⟨g2, j3 + 1, none⟩ = some (.string x) := by
                          rw [hx]
                          refine ((hnx.cell (by exact hg2)).trans (HC2.out (j3 + 1) (by simp; omega))).trans ?_
                          simp only [List.getD]
                          rw [List.getElem?_append_right (by simp; omega)]
                          simp only [List.length_append, List.length_cons, List.length_nil]
                          rw [show j3 + 1 - (A.length + (0 + 1)) = j3 - A.length by omega]
                        have h1 : wr.cell? ⟨g1, j3, none⟩ = some (.string x) := by
                          rw [hx]
                          refine ((hnx.cell (by exact hg1)).trans (hc1 j3 (by simp; omega))).trans ?_
                          simp only [List.getD]
                          rw [List.getElem?_append_right hj3]
                        clear hc1 hx
                        go_wp2
                        go_region
                        go_wp2
                        go_roundw
                        case rel => exact ⟨j3 + 1, by omega, by omega, by go_num, hnx.drew⟩
                        case measure => simp [intOf]; omega
                      · go_wp2
                        go_ret
                        exact ⟨rfl, below_chain' HW.out hnx (Nat.le_refl _)⟩
          · have hon' : (on.toList == obj.toList) = false := by simpa using hon
            have hone : (on.toList != obj.toList) = true := by simp only [bne, hon']; rfl
            rw [HQA.out, opsOf_one_no _ _ (by simpa [onB] using hon'), List.append_nil] at hs2
            obtain ⟨ad2, cp2, hv2, hr2⟩ := hs2.read
            rw [List.length_append] at hv2
            subst hv2
            have HR2 : Hid (SRow w6 ad2 (A ++ B)) := hr2
            clear hr2 hs2
            go_wp2
            obtain ⟨wo2, hwo2⟩ : ∃ wo2 : World, wo2 = wr := ⟨_, rfl⟩
            subst hwo2
            go_loopw [16] (fun i wr => ∃ j : Nat, j ≤ A.length + B.length ∧ i = .int .i64 j ∧ Below w6.heap.size w6 wr) (fun i _ => A.length + B.length - (intOf i).toNat)
            case atStart => exact ⟨0, Nat.zero_le _, rfl, Below.refl _ _⟩
            case round =>
              obtain ⟨j, hj, rfl, hnx⟩ := hrel
              by_cases hlt : j < A.length + B.length
              · obtain ⟨g2, ha2, hg2, hc2⟩ := HR2.out.2 (by simp; omega)
                obtain ⟨g1, ha1, hg1, hc1⟩ := HR1'.out.2 (by simp; omega)
                subst ha2
                subst ha1
                obtain ⟨x, hx⟩ : ∃ x, x = (A ++ B).getD j default := ⟨_, rfl⟩
                have h2 : wr.cell? ⟨g2, j, none⟩ = some (.string x) := by rw [hx]; exact (hnx.cell (by exact hg2)).trans (hc2 j (by simp; omega))
                have h1 : wr.cell? ⟨g1, j, none⟩ = some (.string x) := by rw [hx]; exact (hnx.cell (by exact hg1)).trans (hc1 j (by simp; omega))
                clear hc1 hc2 hx
                go_wp2
                go_region
                go_wp2
                go_roundw
                case rel => exact ⟨j + 1, by omega, by go_num, hnx.drew⟩
                case measure => simp [intOf]; omega
              · go_wp2
                go_ret
                exact ⟨rfl, below_chain' HW.out hnx (Nat.le_refl _)⟩
end Go.Proofs.Qxb6609110aMods
