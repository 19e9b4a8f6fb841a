/-
  THE WALK of the law FnAddingGrowsWithGroup.
-/
import Derived.Test.Qxb6609110aModsAdd2
import Derived.Laws.CopyOwn
namespace Go.Proofs.Qxb6609110aMods
open Go.RowKit Plain

theorem Trym.info3 : (Trym.prog.info? 3).map (fun i => (i.zero, i.size, i.bytes)) = some (some (.int .i64 0), 1, 8) := by kernel_rfl
theorem Trym.size3 : (Trym.prog.info? 3).map (·.size) = some 1 := by kernel_rfl

theorem below_link {B : Nat} {w w1 w2 : World} (h1 : Below B w w1) (h2 : Below w1.heap.size w1 w2) (hB : B ≤ w.heap.size) : Below B w w2 :=
  h1.trans (h2.mono (Nat.le_trans hB h1.size))

theorem make_ints (w : World) (len : Nat) (hlen : len ≤ 65536) :
    ∃ w2 cur, (Instr.makeSlice 33 (.int .i64 (len : Int)) (.int .i64 (len : Int))).run Trym.prog w = .ok (.slice (some ⟨w.heap.size, 0, none⟩) len len) w2 ∧ Below w.heap.size w w2 ∧ w2.heap[w.heap.size]? = some (.cells (cur : List Value).toArray 3 (0, 0)) ∧ cur.length = len := by
  obtain ⟨i0, hi, hz0, hz1, hz2⟩ := info_parts Trym.info3
  have hr := run_make (P := Trym.prog) w 33 3 i0 _ Trym.underlying33 hi hz0 .i64 .i64 (len : Int) (len : Int) (by omega) (by omega) (by rw [hz2]; omega) (by omega)
  simp only [Int.toNat_natCast] at hr
  refine ⟨_, (madeCells (Value.int .i64 0).cells (len * i0.size)).toList, hr, (Below.refl _ _).alloc (Nat.le_refl _) _, ?_, ?_⟩
  · rw [heap_alloc_new]
  · rw [Array.length_toList, size_madeCells, hz1]; omega

/-- the cells of a slice of ints, as copy and append ask for them -/
theorem NRow.cells {w : World} {a : Option Addr} {len cap : Nat} {zs : List Int} (h : NRow w a len cap zs) (h0 : 0 < len) :
    ∃ ad, a = some ad ∧ ∀ j v, (zs.map (Value.int .i64))[j]? = some v → w.cell? (ad.add j) = some v := by
  obtain ⟨b, off, ha, _, hc⟩ := h.2.2.2.2 h0
  refine ⟨_, ha, fun j v hj => ?_⟩
  have hjl : j < zs.length := by
    have := (List.getElem?_eq_some_iff.1 hj).1
    simpa using this
  have := hc j (by rw [← h.1]; exact hjl)
  have e : (⟨b, off, none⟩ : Addr).add j = ⟨b, off + j, none⟩ := by unfold Addr.add; split <;> simp_all
  rw [e, this]
  simp only [List.getElem?_map, List.getElem?_eq_getElem hjl, Option.map_some, Option.some.injEq] at hj
  rw [← hj]
  simp [List.getD, List.getElem?_eq_getElem hjl]

theorem ints_one (zs : List Int) : ∀ v ∈ zs.map (Value.int .i64), v.oneCell' = true := by
  intro v hv
  obtain ⟨z, _, rfl⟩ := List.mem_map.1 hv
  rfl

/-- 'zzc := make([]int, n); copy(zzc, xs)' : the copy -/
theorem copy_ints (W : World) (g n c : Nat) (a : Option Addr) (zs : List Int) (cur : List Value) (hr : NRow W a n c zs) (hg : W.heap[g]? = some (.cells cur.toArray 3 (0, 0))) (hl : cur.length = n) :
    ∃ w3, (Builtin.copy_ #[33, 33] 3 #[.slice (some ⟨g, 0, none⟩) n n, .slice a n c]).run Trym.prog W = .ok (.int .i64 (n : Int)) w3 ∧ Below g W w3 ∧ NRow w3 (some ⟨g, 0, none⟩) n n zs := by
  have hgW : g < W.heap.size := (Array.getElem?_eq_some_iff.1 hg).1
  have hnm : n ≤ maxLen := Nat.le_trans hr.2.1 hr.2.2.1
  by_cases h0 : 0 < n
  · obtain ⟨ad, ha, hsrc⟩ := hr.cells h0
    have hcl : (zs.map (Value.int .i64)).length = n := by rw [List.length_map]; exact hr.1
    have hrun := run_copy_row (P := Trym.prog) W 33 33 3 3 g 0 n n ad n c cur.toArray 3 (zs.map (Value.int .i64)) Trym.underlying33 Trym.size3 hg (by rw [hcl]; simp) hsrc (by simp; rw [hr.1]; omega) (ints_one zs)
    have hd : cur.drop n = [] := List.drop_eq_nil_of_le (by omega)
    rw [hcl] at hrun
    simp only [List.take_zero, List.nil_append, Nat.zero_add, hd, List.append_nil] at hrun
    rw [ha]
    refine ⟨_, hrun, below_setRow (Below.refl _ _) (Nat.le_refl _) _, hr.1, Nat.le_refl _, hnm, by simp, fun _ => ⟨g, 0, rfl, by simpa [World.setRow] using hgW, fun i hi => ?_⟩⟩
    rw [Nat.zero_add, cell_of_row _ g i _ 3 (0, 0) (setRow_heap W g _ _ 3 _ hg)]
    have hil : i < zs.length := by rw [hr.1]; exact hi
    simp [List.getD, List.getElem?_eq_getElem hil]
  · obtain rfl : n = 0 := by omega
    refine ⟨W, run_copy_none (P := Trym.prog) W 33 33 3 3 _ a 0 0 0 c Trym.underlying33 Trym.size3 (by simp), Below.refl _ _, hr.1, Nat.le_refl _, hnm, by simp, fun h => absurd h (by omega)⟩

theorem make_longer (w : World) (n2 n3 : Nat) (h2 : n2 ≤ 65536) (h3 : n3 ≤ 65536) :
    ∃ w2, (Instr.makeSlice 33 (.int .i64 0) (.int .i64 ((n2 : Int) + (n3 : Int)))).run Trym.prog w = .ok (.slice (some ⟨w.heap.size, 0, none⟩) 0 (n2 + n3)) w2 ∧ Below w.heap.size w w2 ∧
      w2.ownsRow w.heap.size 3 1 (.slice (some ⟨w.heap.size, 0, none⟩) 0 (n2 + n3)) 0 [] := by
  obtain ⟨i0, hi, hz0, hz1, hz2⟩ := info_parts Trym.info3
  obtain ⟨w2, hr, ho, hg⟩ := run_make_own (P := Trym.prog) w w.heap.size 33 3 i0 _ 1 Trym.underlying33 hi hz0 hz1 .i64 .i64 (n2 + n3) (by rw [hz2]; omega) (by unfold maxLen; omega) (Nat.le_refl _)
  rw [Int.natCast_add] at hr
  exact ⟨w2, hr, (Below.refl _ _).grown hg (Nat.le_refl _) (fun k hk => by simp at hk), ho⟩

/-- what append asks of its source -/
theorem NRow.source {w : World} {a : Option Addr} {len cap : Nat} {zs : List Int} (h : NRow w a len cap zs) :
    ∀ ad, a = some ad → ∀ j u, (zs.map (Value.int .i64))[j]? = some u → w.cell? (ad.add j) = some u := by
  intro ad had j u hj
  have hjl : j < zs.length := by
    have := (List.getElem?_eq_some_iff.1 hj).1
    simpa using this
  obtain ⟨ad', ha', hc⟩ := h.cells (by have := h.1; omega)
  rw [had] at ha'
  obtain rfl : ad = ad' := by simpa using ha'
  exact hc j u hj
theorem NRow.nothing {w : World} {a : Option Addr} {len cap : Nat} {zs : List Int} (h : NRow w a len cap zs) (ha : a = none) : len = 0 ∧ cap = 0 := by
  have := h.2.2.2.1 ha
  have := h.2.1
  omega

theorem NRow.head {w : World} {g n c : Nat} {zs : List Int} {x : Int} (h : NRow w (some ⟨g, 0, none⟩) n c zs) (h0 : 0 < n) (hx : zs.getD 0 0 = x) : g < w.heap.size ∧ w.cell? ⟨g, 0, none⟩ = some (.int .i64 x) := by
  obtain ⟨b, off, ha, hlt, hc⟩ := h.2.2.2.2 h0
  simp only [Option.some.injEq, Addr.mk.injEq, and_true] at ha
  obtain ⟨rfl, rfl⟩ := ha
  have := hc 0 h0
  rw [hx] at this
  exact ⟨hlt, by simpa using this⟩

/-- THE LAW, plain: w words, r roles, g sets, m more; b: between 0 and r -/
theorem add_law (r b g m w : Int) (hb0 : 0 ≤ b) (hbr : b ≤ r) (hw : 0 ≤ w) :
    2 * m * w / 18 ≤ (2 * r + b + 2 * (g + m)) * w / 18 - (2 * r + b + 2 * g) * w / 18 ∧ (2 * r + b + 2 * (g + m)) * w / 18 - (2 * r + b + 2 * g) * w / 18 ≤ 2 * m * w / 18 + 1 ∧
    (2 * r + 2 * g) * w - 18 < 18 * ((2 * r + b + 2 * g) * w / 18) ∧ 18 * ((2 * r + b + 2 * g) * w / 18) ≤ (3 * r + 2 * g) * w := by
  have e1 : (2 * r + b + 2 * (g + m)) * w = (2 * r + b + 2 * g) * w + 2 * m * w := by
    rw [← Int.add_mul]; congr 1; omega
  have e2 : (2 * r + b + 2 * g) * w = (2 * r + 2 * g) * w + b * w := by
    rw [← Int.add_mul]; congr 1; omega
  have e3 : (3 * r + 2 * g) * w = (2 * r + b + 2 * g) * w + (r - b) * w := by
    rw [← Int.add_mul]; congr 1; omega
  have p1 : 0 ≤ b * w := Int.mul_nonneg hb0 hw
  have p2 : 0 ≤ (r - b) * w := Int.mul_nonneg (by omega) hw
  rw [e1, e3]
  omega

theorem addV_law (r g m n : Nat) :
    2 * (m : Int) * (((n : Int) + 63) / 64) / 18 ≤ addV r (g + m) n - addV r g n ∧ addV r (g + m) n - addV r g n ≤ 2 * (m : Int) * (((n : Int) + 63) / 64) / 18 + 1 ∧
    (2 * (r : Int) + 2 * (g : Int)) * (((n : Int) + 63) / 64) - 18 < 18 * addV r g n ∧ 18 * addV r g n ≤ (3 * (r : Int) + 2 * (g : Int)) * (((n : Int) + 63) / 64) := by
  have hb := bitLen_le_self r
  have h := add_law (r : Int) (Lib.bitLen r : Int) (g : Int) (m : Int) (((n : Int) + 63) / 64) (by omega) (by omega) (by omega)
  unfold addV
  rw [Int.natCast_add]
  exact h

theorem addV_bounds (r g n : Nat) (hr : r ≤ 131072) (hg : g ≤ 131072) (hn : n ≤ 65536) : 0 ≤ addV r g n ∧ addV r g n ≤ 671744000 := by
  have hb := bitLen_le_self r
  obtain ⟨p0, p1⟩ := prod_bounds (2 * (r : Int) + (Lib.bitLen r : Int) + 2 * (g : Int)) (((n : Int) + 63) / 64) 655360 1025 (by omega) (by omega) (by omega) (by omega)
  unfold addV
  omega

set_option maxRecDepth 100000 in
set_option maxHeartbeats 2000000 in
theorem add_walk (a0 a1 a2 a3 : Option Addr) (n0 c0 len cap n2 c2 n3 c3 : Nat) (z0 z2 z3 : List Int) (Ls : List Nat) (w : World)
    (r0 : NRow w a0 n0 c0 z0) (r1 : LRow w a1 len cap Ls) (r2 : NRow w a2 n2 c2 z2) (r3 : NRow w a3 n3 c3 z3) :
    Calls Trym.prog 5 #[.slice a0 n0 c0, .slice a1 len cap, .slice a2 n2 c2, .slice a3 n3 c3] w fun e w' => e = .returned (.bool true) ∧ Below w.heap.size w w' := by
  have R0 : Hid (NRow w a0 n0 c0 z0) := r0
  have R1 : Hid (LRow w a1 len cap Ls) := r1
  have R2 : Hid (NRow w a2 n2 c2 z2) := r2
  have R3 : Hid (NRow w a3 n3 c3 z3) := r3
  clear r0 r1 r2 r3
  go_enter Trym.func5, Trym.ntmps5
  go_wp2_with fail
  refine (bytesAdd_any a0 a1 a2 a3 n0 c0 n2 c2 n3 c3 len cap Ls _ R1.out).mono ?_
  rintro e w' ⟨⟨r, rfl⟩, hw⟩
  subst w'
  rcases r with _ | _
  · go_wp2
    go_ret
    exact ⟨rfl, Below.refl _ _⟩
  go_wp2_with fail
  refine (hc_any a0 a1 a2 a3 n0 c0 n2 c2 n3 c3 len cap Ls _ R1.out).mono ?_
  rintro e w' ⟨⟨r, rfl, hr⟩, hw⟩
  subst w'
  rcases r with _ | _
  · go_wp2
    go_ret
    exact ⟨rfl, Below.refl _ _⟩
  obtain ⟨m0, m1, m2, m3, mL⟩ := hr rfl
  have ML : Hid (∀ i, i < len → Ls.getD i 0 ≤ 131072) := mL
  clear hr mL
  by_cases hz : n2 = 0
  · subst hz
    go_wp2
    go_ret
    exact ⟨rfl, Below.refl _ _⟩
  obtain ⟨b2, off2, ha2, hb2, hc2⟩ := R2.out.2.2.2.2 (by omega)
  subst ha2
  obtain ⟨g0, hg0⟩ : ∃ g0, z2.getD 0 0 = g0 := ⟨_, rfl⟩
  have hcg : w.cell? ⟨b2, off2, none⟩ = some (.int .i64 g0) := by have := hc2 0 (by omega); rwa [hg0, Nat.add_zero] at this
  have HG0 : Hid (z2.getD 0 0 = g0) := hg0
  have hne : ((n2 : Int) == 0) = false := by simp; omega
  clear hc2 hg0
  by_cases hneg : g0 < 0
  · go_wp2
    go_ret
    exact ⟨rfl, Below.refl _ _⟩
  by_cases hbig : (len : Int) ≤ g0
  · go_wp2
    go_ret
    exact ⟨rfl, Below.refl _ _⟩
  obtain ⟨i, rfl⟩ : ∃ i : Nat, g0 = i := ⟨g0.toNat, by omega⟩
  have hi : i < len := by omega
  have hnil2 := fun W => run_neq_slice_nil_any (P := Trym.prog) W 33 3 (some ⟨b2, off2, none⟩) n2 c2 0 0 Trym.underlying33
  have hnil0 := fun W => run_neq_slice_nil_any (P := Trym.prog) W 33 3 a0 n0 c0 0 0 Trym.underlying33
  rcases a0 with _ | x0
  · have HB3 : Hid (Below w.heap.size w w) := Below.refl _ _
    obtain ⟨w4, cur2, hmk2, hb4, hh2, hl2⟩ := make_ints w n2 m2
    obtain ⟨w5, hcp2, hb5, hr5⟩ := copy_ints w4 w.heap.size n2 c2 (some ⟨b2, off2, none⟩) z2 cur2 ((R2.out.later HB3.out).later hb4) hh2 hl2
    have HB5 : Hid (Below w.heap.size w w5) := hb4.trans hb5
    have HR5 : Hid (NRow w5 (some ⟨w.heap.size, 0, none⟩) n2 n2 z2) := hr5
    obtain ⟨w6, hmk6, hb6, ho6⟩ := make_longer w5 n2 n3 m2 m3
    have HB6 : Hid (Below w5.heap.size w5 w6) := hb6
    clear hb4 hh2 hl2 hb5 hr5 hb6
    obtain ⟨i0, hif, hz0, hz1, hz2⟩ := info_parts Trym.info3
    obtain ⟨X2, hX2⟩ : ∃ X2, X2 = z2.map (Value.int .i64) := ⟨_, rfl⟩
    obtain ⟨X3, hX3⟩ : ∃ X3, X3 = z3.map (Value.int .i64) := ⟨_, rfl⟩
    have HX2 : Hid (X2 = z2.map (Value.int .i64)) := hX2
    have hl2 : Hid (X2.length = n2 * 1) := by show _ = _; rw [hX2, List.length_map, R2.out.1]; omega
    have hs2 : Hid (∀ ad, some (⟨w.heap.size, 0, none⟩ : Addr) = some ad → ∀ j u, X2[j]? = some u → w6.cell? (ad.add j) = some u) := by rw [hX2]; exact (HR5.out.later HB6.out).source
    have ho2 : Hid (∀ u ∈ X2, u.oneCell' = true) := by rw [hX2]; exact ints_one z2
    have hl3 : Hid (X3.length = n3 * 1) := by show _ = _; rw [hX3, List.length_map, R3.out.1]; omega
    have ho3 : Hid (∀ u ∈ X3, u.oneCell' = true) := by rw [hX3]; exact ints_one z3
    have HW6 : Hid (Below w.heap.size w w6) := below_link (below_link HB3.out HB5.out (Nat.le_refl _)) HB6.out (Nat.le_refl _)
    have HX3 : Hid (X3 = z3.map (Value.int .i64)) := hX3
    have HO6 : Hid (w6.ownsRow w5.heap.size 3 1 (.slice (some ⟨w5.heap.size, 0, none⟩) 0 (n2 + n3)) 0 []) := ho6
    clear hX2 hX3 ho6
    go_wp2_with (at_builtin; refine wpList_append_fits_any _ rfl (.tmp 72) (.tmp 73) 33 rfl w5.heap.size 3 i0 1 Trym.underlying33 hif hz1 w5.heap.size 0 (n2 + n3) [] rfl HO6.out (some ⟨w.heap.size, 0, none⟩) n2 n2 X2 rfl hl2.out (by simp) hs2.out ho2.out (by omega) ?_)
    clear hmk2 hcp2 hmk6 hnil0 hnil2
    intro w7 ho7 hg7
    have HB7 : Hid (Below w5.heap.size w5 w7) := HB6.out.grown hg7 HB6.out.size (fun k hk => by simp at hk; omega)
    have HW7 : Hid (Below w.heap.size w w7) := below_link (below_link HB3.out HB5.out (Nat.le_refl _)) HB7.out (Nat.le_refl _)
    have hs3 : Hid (∀ ad, a3 = some ad → ∀ j u, X3[j]? = some u → w7.cell? (ad.add j) = some u) := by rw [HX3.out]; exact (R3.out.later HW7.out).source
    have hn3 : Hid (a3 = none → n3 = 0 ∧ c3 = 0) := R3.out.nothing
    have HO7 : Hid (w7.ownsRow w5.heap.size 3 1 (.slice (some ⟨w5.heap.size, 0, none⟩) n2 (n2 + n3)) n2 X2) := ho7
    clear ho7 hg7 hs2
    go_wp2_with (at_builtin; refine wpList_append_fits_any _ rfl (.tmp 75) (.tmp 76) 33 rfl w5.heap.size 3 i0 1 Trym.underlying33 hif hz1 w5.heap.size n2 (n2 + n3) X2 rfl HO7.out a3 n3 c3 X3 rfl hl3.out hn3.out hs3.out ho3.out (by omega) ?_)
    intro w8 ho8 hg8
    have HB8 : Hid (Below w5.heap.size w5 w8) := HB7.out.grown hg8 HB7.out.size (fun k hk => by simp at hk; omega)
    have HW8 : Hid (Below w.heap.size w w8) := below_link (below_link HB3.out HB5.out (Nat.le_refl _)) HB8.out (Nat.le_refl _)
    have HO8 : Hid (w8.ownsRow w5.heap.size 3 1 (.slice (some ⟨w5.heap.size, 0, none⟩) (n2 + n3) (n2 + n3)) (n2 + n3) (X2 ++ X3)) := ho8
    clear ho8 hg8 hs3
    have hsz3 : Hid (w.heap.size < w5.heap.size) := (HR5.out.head (by omega) HG0.out).1
    have hsz5 : Hid (w5.heap.size < w8.heap.size) := (HO8.out.lt _ rfl).2
    have HR8 : Hid (NRow w8 (some ⟨w.heap.size, 0, none⟩) n2 n2 z2) := HR5.out.later HB8.out
    have HC8 : Hid (w8.cell? ⟨w5.heap.size, 0, none⟩ = some (.int .i64 (i : Int))) := by
      show _ = _
      rw [HO8.out.cellAt 0 (by omega), HX2.out]
      have h0 : 0 < z2.length := by have := R2.out.1; omega
      rw [List.getElem?_append_left (by simpa using h0)]
      have := HG0.out
      simp only [List.getD, List.getElem?_eq_getElem h0, Option.getD_some] at this
      simp [List.getElem?_eq_getElem h0, this]
    have HL8 : Hid (LRow w8 a1 len cap Ls) := R1.out.later HW8.out
    have hrB : Ls.getD i 0 ≤ 131072 := ML.out i hi
    obtain ⟨r, hrr⟩ : ∃ r, Ls.getD i 0 = r := ⟨_, rfl⟩
    have HRR : Hid (Ls.getD i 0 = r) := hrr
    rw [hrr] at hrB
    clear hrr
    go_wp2_with fail
    refine (holder_any _ a1 n0 _ len cap w.heap.size 0 n2 n2 i Ls _ HL8.out m1 m0 hi (by rw [HRR.out]; exact hrB) (by omega) (by omega) (HR8.out.head (by omega) HG0.out).1 (HR8.out.head (by omega) HG0.out).2).mono ?_
    rw [HRR.out]
    rintro e w9 ⟨rfl, hb9⟩
    have HB9 : Hid (Below w8.heap.size w8 w9) := hb9
    clear hb9
    go_wp2_with fail
    refine (holder_any _ a1 n0 _ len cap w5.heap.size 0 (n2 + n3) (n2 + n3) i Ls _ (HL8.out.later HB9.out) m1 m0 hi (by rw [HRR.out]; exact hrB) (by omega) (by omega) (Nat.lt_of_lt_of_le hsz5.out HB9.out.size) (by rw [HB9.out.cell (by exact hsz5.out)]; exact HC8.out)).mono ?_
    rw [HRR.out]
    rintro e w10 ⟨rfl, hb10⟩
    have HB10 : Hid (Below w8.heap.size w8 w10) := below_link HB9.out hb10 (Nat.le_refl _)
    have HW10 : Hid (Below w.heap.size w w10) := below_link HW8.out HB10.out (Nat.le_refl _)
    obtain ⟨b1, off1, ha1, hb1, hc1⟩ := (R1.out.later HW10.out).2.2.2.2 (by omega)
    subst ha1
    obtain ⟨A, C, hcA⟩ := hc1 i hi
    rw [HRR.out] at hcA
    have hcG : w10.cell? ⟨w.heap.size, 0, none⟩ = some (.int .i64 (i : Int)) := ((HR8.out.later HB10.out).head (by omega) HG0.out).2
    obtain ⟨q1, q2, q3, q4⟩ := addV_law r n2 n3 n0
    obtain ⟨v1, v2⟩ := addV_bounds r n2 n0 hrB (by omega) m0
    obtain ⟨v3, v4⟩ := addV_bounds r (n2 + n3) n0 hrB (by omega) m0
    obtain ⟨s1, s2⟩ := prod_bounds (2 * (n3 : Int)) (((n0 : Int) + 63) / 64) 655360 1025 (by omega) (by omega) (by omega) (by omega)
    obtain ⟨s3, s4⟩ := prod_bounds (2 * (r : Int) + 2 * (n2 : Int)) (((n0 : Int) + 63) / 64) 655360 1025 (by omega) (by omega) (by omega) (by omega)
    obtain ⟨s5, s6⟩ := prod_bounds (3 * (r : Int) + 2 * (n2 : Int)) (((n0 : Int) + 63) / 64) 655360 1025 (by omega) (by omega) (by omega) (by omega)
    clear hb10 hc1
    go_wp2
    go_ret
    exact ⟨rfl, HW10.out⟩
  · obtain ⟨w2, cur0, hmk, hb2', hh0, hl0⟩ := make_ints w n0 m0
    obtain ⟨w3, hcp, hb3, hr3⟩ := copy_ints w2 w.heap.size n0 c0 (some x0) z0 cur0 (R0.out.later hb2') hh0 hl0
    have HB3 : Hid (Below w.heap.size w w3) := hb2'.trans hb3
    obtain ⟨w4, cur2, hmk2, hb4, hh2, hl2⟩ := make_ints w3 n2 m2
    obtain ⟨w5, hcp2, hb5, hr5⟩ := copy_ints w4 w3.heap.size n2 c2 (some ⟨b2, off2, none⟩) z2 cur2 ((R2.out.later HB3.out).later hb4) hh2 hl2
    have HB5 : Hid (Below w3.heap.size w3 w5) := hb4.trans hb5
    have HR5 : Hid (NRow w5 (some ⟨w3.heap.size, 0, none⟩) n2 n2 z2) := hr5
    obtain ⟨w6, hmk6, hb6, ho6⟩ := make_longer w5 n2 n3 m2 m3
    have HB6 : Hid (Below w5.heap.size w5 w6) := hb6
    clear hb2' hh0 hl0 hb3 hr3 hb4 hh2 hl2 hb5 hr5 hb6
    obtain ⟨i0, hif, hz0, hz1, hz2⟩ := info_parts Trym.info3
    obtain ⟨X2, hX2⟩ : ∃ X2, X2 = z2.map (Value.int .i64) := ⟨_, rfl⟩
    obtain ⟨X3, hX3⟩ : ∃ X3, X3 = z3.map (Value.int .i64) := ⟨_, rfl⟩
    have HX2 : Hid (X2 = z2.map (Value.int .i64)) := hX2
    have hl2 : Hid (X2.length = n2 * 1) := by show _ = _; rw [hX2, List.length_map, R2.out.1]; omega
    have hs2 : Hid (∀ ad, some (⟨w3.heap.size, 0, none⟩ : Addr) = some ad → ∀ j u, X2[j]? = some u → w6.cell? (ad.add j) = some u) := by rw [hX2]; exact (HR5.out.later HB6.out).source
    have ho2 : Hid (∀ u ∈ X2, u.oneCell' = true) := by rw [hX2]; exact ints_one z2
    have hl3 : Hid (X3.length = n3 * 1) := by show _ = _; rw [hX3, List.length_map, R3.out.1]; omega
    have ho3 : Hid (∀ u ∈ X3, u.oneCell' = true) := by rw [hX3]; exact ints_one z3
    have HW6 : Hid (Below w.heap.size w w6) := below_link (below_link HB3.out HB5.out (Nat.le_refl _)) HB6.out (Nat.le_refl _)
    have HX3 : Hid (X3 = z3.map (Value.int .i64)) := hX3
    have HO6 : Hid (w6.ownsRow w5.heap.size 3 1 (.slice (some ⟨w5.heap.size, 0, none⟩) 0 (n2 + n3)) 0 []) := ho6
    clear hX2 hX3 ho6
    go_wp2_with (at_builtin; refine wpList_append_fits_any _ rfl (.tmp 72) (.tmp 73) 33 rfl w5.heap.size 3 i0 1 Trym.underlying33 hif hz1 w5.heap.size 0 (n2 + n3) [] rfl HO6.out (some ⟨w3.heap.size, 0, none⟩) n2 n2 X2 rfl hl2.out (by simp) hs2.out ho2.out (by omega) ?_)
    clear hmk hcp hmk2 hcp2 hmk6 hnil0 hnil2
    intro w7 ho7 hg7
    have HB7 : Hid (Below w5.heap.size w5 w7) := HB6.out.grown hg7 HB6.out.size (fun k hk => by simp at hk; omega)
    have HW7 : Hid (Below w.heap.size w w7) := below_link (below_link HB3.out HB5.out (Nat.le_refl _)) HB7.out (Nat.le_refl _)
    have hs3 : Hid (∀ ad, a3 = some ad → ∀ j u, X3[j]? = some u → w7.cell? (ad.add j) = some u) := by rw [HX3.out]; exact (R3.out.later HW7.out).source
    have hn3 : Hid (a3 = none → n3 = 0 ∧ c3 = 0) := R3.out.nothing
    have HO7 : Hid (w7.ownsRow w5.heap.size 3 1 (.slice (some ⟨w5.heap.size, 0, none⟩) n2 (n2 + n3)) n2 X2) := ho7
    clear ho7 hg7 hs2
    go_wp2_with (at_builtin; refine wpList_append_fits_any _ rfl (.tmp 75) (.tmp 76) 33 rfl w5.heap.size 3 i0 1 Trym.underlying33 hif hz1 w5.heap.size n2 (n2 + n3) X2 rfl HO7.out a3 n3 c3 X3 rfl hl3.out hn3.out hs3.out ho3.out (by omega) ?_)
    intro w8 ho8 hg8
    have HB8 : Hid (Below w5.heap.size w5 w8) := HB7.out.grown hg8 HB7.out.size (fun k hk => by simp at hk; omega)
    have HW8 : Hid (Below w.heap.size w w8) := below_link (below_link HB3.out HB5.out (Nat.le_refl _)) HB8.out (Nat.le_refl _)
    have HO8 : Hid (w8.ownsRow w5.heap.size 3 1 (.slice (some ⟨w5.heap.size, 0, none⟩) (n2 + n3) (n2 + n3)) (n2 + n3) (X2 ++ X3)) := ho8
    clear ho8 hg8 hs3
    have hsz3 : Hid (w3.heap.size < w5.heap.size) := (HR5.out.head (by omega) HG0.out).1
    have hsz5 : Hid (w5.heap.size < w8.heap.size) := (HO8.out.lt _ rfl).2
    have HR8 : Hid (NRow w8 (some ⟨w3.heap.size, 0, none⟩) n2 n2 z2) := HR5.out.later HB8.out
    have HC8 : Hid (w8.cell? ⟨w5.heap.size, 0, none⟩ = some (.int .i64 (i : Int))) := by
      show _ = _
      rw [HO8.out.cellAt 0 (by omega), HX2.out]
      have h0 : 0 < z2.length := by have := R2.out.1; omega
      rw [List.getElem?_append_left (by simpa using h0)]
      have := HG0.out
      simp only [List.getD, List.getElem?_eq_getElem h0, Option.getD_some] at this
      simp [List.getElem?_eq_getElem h0, this]
    have HL8 : Hid (LRow w8 a1 len cap Ls) := R1.out.later HW8.out
    have hrB : Ls.getD i 0 ≤ 131072 := ML.out i hi
    obtain ⟨r, hrr⟩ : ∃ r, Ls.getD i 0 = r := ⟨_, rfl⟩
    have HRR : Hid (Ls.getD i 0 = r) := hrr
    rw [hrr] at hrB
    clear hrr
    go_wp2_with fail
    refine (holder_any _ a1 n0 _ len cap w3.heap.size 0 n2 n2 i Ls _ HL8.out m1 m0 hi (by rw [HRR.out]; exact hrB) (by omega) (by omega) (HR8.out.head (by omega) HG0.out).1 (HR8.out.head (by omega) HG0.out).2).mono ?_
    rw [HRR.out]
    rintro e w9 ⟨rfl, hb9⟩
    have HB9 : Hid (Below w8.heap.size w8 w9) := hb9
    clear hb9
    go_wp2_with fail
    refine (holder_any _ a1 n0 _ len cap w5.heap.size 0 (n2 + n3) (n2 + n3) i Ls _ (HL8.out.later HB9.out) m1 m0 hi (by rw [HRR.out]; exact hrB) (by omega) (by omega) (Nat.lt_of_lt_of_le hsz5.out HB9.out.size) (by rw [HB9.out.cell (by exact hsz5.out)]; exact HC8.out)).mono ?_
    rw [HRR.out]
    rintro e w10 ⟨rfl, hb10⟩
    have HB10 : Hid (Below w8.heap.size w8 w10) := below_link HB9.out hb10 (Nat.le_refl _)
    have HW10 : Hid (Below w.heap.size w w10) := below_link HW8.out HB10.out (Nat.le_refl _)
    obtain ⟨b1, off1, ha1, hb1, hc1⟩ := (R1.out.later HW10.out).2.2.2.2 (by omega)
    subst ha1
    obtain ⟨A, C, hcA⟩ := hc1 i hi
    rw [HRR.out] at hcA
    have hcG : w10.cell? ⟨w3.heap.size, 0, none⟩ = some (.int .i64 (i : Int)) := ((HR8.out.later HB10.out).head (by omega) HG0.out).2
    obtain ⟨q1, q2, q3, q4⟩ := addV_law r n2 n3 n0
    obtain ⟨v1, v2⟩ := addV_bounds r n2 n0 hrB (by omega) m0
    obtain ⟨v3, v4⟩ := addV_bounds r (n2 + n3) n0 hrB (by omega) m0
    obtain ⟨s1, s2⟩ := prod_bounds (2 * (n3 : Int)) (((n0 : Int) + 63) / 64) 655360 1025 (by omega) (by omega) (by omega) (by omega)
    obtain ⟨s3, s4⟩ := prod_bounds (2 * (r : Int) + 2 * (n2 : Int)) (((n0 : Int) + 63) / 64) 655360 1025 (by omega) (by omega) (by omega) (by omega)
    obtain ⟨s5, s6⟩ := prod_bounds (3 * (r : Int) + 2 * (n2 : Int)) (((n0 : Int) + 63) / 64) 655360 1025 (by omega) (by omega) (by omega) (by omega)
    clear hb10 hc1
    go_wp2
    go_ret
    exact ⟨rfl, HW10.out⟩
end Go.Proofs.Qxb6609110aMods
