/-
  THE WALK of operationsOn.
-/
import Derived.Test.Qxb6609110aModsRows
import Derived.Test.Qxb6609110aModsPlain
import Derived.WalkKit
import Derived.WalkSpells
import Derived.WalkLawsBesides
namespace Go.Proofs.Qxb6609110aMods
open Go.RowKit Plain

theorem Trym.info9 : (Trym.prog.info? 9).map (fun i => (i.zero, i.size, i.bytes)) = some (some (.string ByteArray.empty), 1, 16) := by kernel_rfl

/-- a slice of permissions (of either struct type), read in w -/
def PRow (w : World) (a : Option Addr) (len cap : Nat) (ps : List Pm) : Prop :=
  ps.length = len ∧ len ≤ cap ∧ cap ≤ maxLen ∧ (a = none → cap = 0) ∧
  (0 < len → ∃ b off, a = some ⟨b, off, none⟩ ∧ b < w.heap.size ∧ ∀ i, i < len →
    w.cell? ⟨b, off + i * 2, none⟩ = some (.string (ps.getD i default).1) ∧ w.cell? ⟨b, off + i * 2 + 1, none⟩ = some (.string (ps.getD i default).2))

/-- a slice of strings that the call itself has made -/
def SOwn (w : World) (base : Nat) (v : Value) (l : List ByteArray) : Prop :=
  w.ownsRow base 9 1 v l.length (l.map Value.string) ∧ (l = [] → v = .slice none 0 0)

theorem sown_keep {w1 : World} {B : Nat} {v' : Value} {obj : ByteArray} {ps : List Pm} {k : Nat} {p0 p1 : ByteArray} (hk : k < ps.length) (hp : ps.getD k default = (p0, p1)) (hon : (p1.toList == obj.toList) = true)
    (ho : w1.ownsRow B 9 1 v' ((opsOf obj (ps.take k)).length + 1) ((opsOf obj (ps.take k)).map Value.string ++ [.string p0])) :
    SOwn w1 B v' (opsOf obj (ps.take (k + 1))) := by
  have e : opsOf obj (ps.take (k + 1)) = opsOf obj (ps.take k) ++ [p0] := by
    rw [take_snoc ps default k hk, opsOf_append, hp, opsOf_one_yes _ _ (by simpa [onB] using hon)]
  unfold SOwn
  rw [e]
  exact ⟨by simpa using ho, by simp⟩

theorem sown_drop {w1 : World} {B : Nat} {v : Value} {obj : ByteArray} {ps : List Pm} {k : Nat} {p0 p1 : ByteArray} (hk : k < ps.length) (hp : ps.getD k default = (p0, p1)) (hon : (p1.toList == obj.toList) = false)
    (ho : SOwn w1 B v (opsOf obj (ps.take k))) : SOwn w1 B v (opsOf obj (ps.take (k + 1))) := by
  have e : opsOf obj (ps.take (k + 1)) = opsOf obj (ps.take k) := by
    rw [take_snoc ps default k hk, opsOf_append, hp, opsOf_one_no _ _ (by simpa [onB] using hon), List.append_nil]
  rw [e]
  exact ho

theorem SOwn.alloc {w : World} {B : Nat} {v : Value} {l : List ByteArray} (h : SOwn w B v l) (o : Obj) : SOwn (w.alloc o) B v l := ⟨h.1.alloc _, h.2⟩

set_option maxHeartbeats 400000 in
theorem ops_some (obj : ByteArray) (b off len cap : Nat) (ps : List Pm) (w : World) (hl : ps.length = len) (hlen : len ≤ 65537) (hb : b < w.heap.size)
    (hc : ∀ i, i < len → w.cell? ⟨b, off + i * 2, none⟩ = some (.string (ps.getD i default).1) ∧ w.cell? ⟨b, off + i * 2 + 1, none⟩ = some (.string (ps.getD i default).2)) :
    Calls Trym.prog 14 #[.string obj, .slice (some ⟨b, off, none⟩) len cap] w fun e w' => ∃ v, e = .returned v ∧ SOwn w' w.heap.size v (opsOf obj ps) ∧ Below w.heap.size w w' := by
  obtain ⟨i0, hi, hz0, hz1, hz2⟩ := info_parts Trym.info9
  have HL : Hid (ps.length = len) := hl
  clear hl
  go_enter Trym.func14, Trym.ntmps14
  go_wp2
  go_loopw [5, 10] (fun v i wr => ∃ k : Nat, k ≤ len ∧ i = .int .i64 k ∧ SOwn wr w.heap.size v (opsOf obj (ps.take k)) ∧ Below w.heap.size w wr)
    (fun _ i _ => len - (intOf i).toNat)
  case atStart => exact ⟨0, Nat.zero_le _, rfl, ⟨World.ownsRow_nil _ _ _ _, fun _ => rfl⟩, Below.refl _ _⟩
  case round =>
    obtain ⟨k, hk, rfl, hown, hnx⟩ := hrel
    by_cases hlt : k < len
    · obtain ⟨p0, p1, hp⟩ : ∃ p0 p1, ps.getD k default = (p0, p1) := ⟨_, _, rfl⟩
      have h0 : wr.cell? ⟨b, off + k * 2, none⟩ = some (.string p0) := by have := (hnx.cell (by exact hb)).trans (hc k hlt).1; rwa [hp] at this
      have h1 : wr.cell? ⟨b, off + k * 2 + 1, none⟩ = some (.string p1) := by have := (hnx.cell (by exact hb)).trans (hc k hlt).2; rwa [hp] at this
      have HP : Hid (ps.getD k default = (p0, p1)) := hp
      have hol : (opsOf obj (ps.take k)).length ≤ k := Nat.le_trans (opsOf_len _ _) (by simp; omega)
      clear hp hc
      by_cases hon : (p1.toList == obj.toList) = true
      · go_wp2_with (at_builtin; refine wpList_append_own _ rfl _ _ 25 rfl w.heap.size 9 i0 (.string ByteArray.empty) 1 16 Trym.underlying25 hi hz0 hz1 hz2 rfl (by decide) _ _ _ rfl ((hown.1.alloc _).alloc _) ⟨wr.heap.size + 1, 0, none⟩ 1 1 [.string p0] rfl rfl ?c1 ?c2 ?c3 ?c4 ?c5 ?_)
        case c1 =>
          intro j u hj
          match j, hj with
          | 0, hj => simp at hj; subst hj; simp [Addr.add]
        case c2 => intro u hu; simp at hu; subst hu; rfl
        case c3 => unfold maxLen; omega
        case c4 => omega
        case c5 => have := hnx.size; simp; omega
        intro v' w1 hown' hgrow _
        have R := sown_keep (by rw [HL.out]; exact hlt) HP.out hon hown'
        have R2 : Below w.heap.size w w1 := ((hnx.alloc hnx.size _).alloc (by have := hnx.size; simp; omega) _).grown hgrow (by have := hnx.size; simp; omega) (fun k hk => (hown.1.lt k hk).1)
        clear hown' hgrow hown h0 h1
        go_wp2
        go_roundw
        case rel => exact ⟨k + 1, by omega, by go_num, R, R2⟩
        case measure => simp [intOf]; omega
      · have hon' : (p1.toList == obj.toList) = false := by simpa using hon
        go_wp2
        go_roundw
        case rel => exact ⟨k + 1, by omega, by go_num, sown_drop (by rw [HL.out]; exact hlt) HP.out hon' (hown.alloc _), hnx.alloc hnx.size _⟩
        case measure => simp [intOf]; omega
    · go_wp2
      go_ret
      have e : ps.take k = ps := List.take_of_length_le (by rw [HL.out]; omega)
      exact ⟨_, rfl, by rw [e] at hown; exact hown, hnx⟩

set_option maxHeartbeats 400000 in
theorem ops_none (obj : ByteArray) (a : Option Addr) (cap : Nat) (w : World) :
    Calls Trym.prog 14 #[.string obj, .slice a 0 cap] w fun e w' => e = .returned (.slice none 0 0) ∧ w' = w := by
  go_enter Trym.func14, Trym.ntmps14
  go_wp2
  refine wp_loop_rounds 1 ?_
  rw [rounds_succ]
  go_wp2
  go_ret
  exact ⟨rfl, rfl⟩

theorem ops_any (obj : ByteArray) (a : Option Addr) (len cap : Nat) (ps : List Pm) (w : World) (hp : PRow w a len cap ps) (hlen : len ≤ 65537) :
    Calls Trym.prog 14 #[.string obj, .slice a len cap] w fun e w' => ∃ v, e = .returned v ∧ SOwn w' w.heap.size v (opsOf obj ps) ∧ Below w.heap.size w w' := by
  obtain ⟨hl, _, _, _, hs⟩ := hp
  by_cases h0 : 0 < len
  · obtain ⟨b, off, rfl, hb, hc⟩ := hs h0
    exact ops_some obj b off len cap ps w hl hlen hb hc
  · obtain rfl : len = 0 := by omega
    obtain rfl : ps = [] := List.eq_nil_of_length_eq_zero hl
    refine (ops_none obj a cap w).mono ?_
    rintro e w' ⟨rfl, rfl⟩
    exact ⟨_, rfl, ⟨World.ownsRow_nil _ _ _ _, fun _ => rfl⟩, Below.refl _ _⟩

set_option maxHeartbeats 400000 in
theorem zzops_any (obj : ByteArray) (a : Option Addr) (len cap : Nat) (ps : List Pm) (w : World) (hp : PRow w a len cap ps) (hlen : len ≤ 65537) :
    Calls Trym.prog 8 #[.string obj, .slice a len cap] w fun e w' => ∃ v, e = .returned v ∧ SOwn w' w.heap.size v (opsOf obj ps) ∧ Below w.heap.size w w' := by
  have hct := fun W (h : PRow W a len cap ps) => ops_any obj a len cap ps W h hlen
  go_enter Trym.func8, Trym.ntmps8
  go_wp2_with fail
  refine (hct _ hp).mono ?_
  rintro e w' ⟨v, rfl, hs, hb⟩
  go_wp2
  go_ret
  exact ⟨_, rfl, hs, hb⟩
end Go.Proofs.Qxb6609110aMods
