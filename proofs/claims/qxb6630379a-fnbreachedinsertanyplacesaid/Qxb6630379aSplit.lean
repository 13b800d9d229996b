import Derived.Test.Qxb6630379aRowsA
namespace Go.Proofs.Qxb6630379a
set_option linter.unusedVariables false
set_option linter.unusedSimpArgs false
open Go.RowKit

theorem RowsAt.below {w w' : World} {g off n : Nat} {S T : Nat → ByteArray} {B : Nat → Bool} (h : RowsAt w g off n S T B) (hg : g < w.heap.size) (hb : Below w.heap.size w w') : RowsAt w' g off n S T B := by
  intro i hi
  have := h i hi
  rw [hb.cell (p := ⟨g, off + i * 5, none⟩) hg, hb.cell (p := ⟨g, off + i * 5 + 1, none⟩) hg, hb.cell (p := ⟨g, off + i * 5 + 2, none⟩) hg, hb.cell (p := ⟨g, off + i * 5 + 3, none⟩) hg, hb.cell (p := ⟨g, off + i * 5 + 4, none⟩) hg]
  exact this
theorem RowsAt.take {w : World} {g off n k : Nat} {S T : Nat → ByteArray} {B : Nat → Bool} (h : RowsAt w g off n S T B) (hk : k ≤ n) : RowsAt w g off k S T B := fun i hi => h i (by omega)
theorem RowsAt.drop {w : World} {g n k : Nat} {S T : Nat → ByteArray} {B : Nat → Bool} (h : RowsAt w g 0 n S T B) (hk : k ≤ n) : RowsAt w g (k * 5) (n - k) (fun i => S (k + i)) (fun i => T (k + i)) (fun i => B (k + i)) := by
  intro i hi
  have := h (k + i) (by omega)
  rw [show 0 + (k + i) * 5 = k * 5 + i * 5 by omega] at this
  exact this
theorem anyB_split (B : Nat → Bool) (k : Nat) : ∀ m, anyB B (k + m) = (anyB B k || anyB (fun i => B (k + i)) m)
  | 0 => by simp [anyB]
  | m + 1 => by rw [← Nat.add_assoc, anyB, anyB_split B k m, anyB, Bool.or_assoc]

set_option maxRecDepth 100000 in
set_option maxHeartbeats 2000000 in
theorem split_main (ao bo co : Option Addr) (cap cap2 cap3 n k : Nat) (S T : Nat → ByteArray) (B : Nat → Bool) (w : World) (hn : n ≤ 65536) (hk : k ≤ n) (HS : Hid (SRow w ao n S)) (HT : Hid (SRow w bo n T)) (HB : Hid (BRow w co n B)) :
    Calls Try.prog 3 #[.slice ao n cap, .slice bo n cap2, .slice co n cap3, .int .i64 (k : Int)] w fun e w' => e = .returned (.bool true) ∧ Below w.heap.size w w' := by
  have HA : Hid (anyB B n = (anyB B k || anyB (fun i => B (k + i)) (n - k))) := by
    have := anyB_split B k (n - k)
    rw [show k + (n - k) = n by omega] at this
    exact this
  have q1 : ((n : Int) != (n : Int)) = false := by simp
  go_enter Try.func3, Try.ntmps3
  go_wp2_with fail
  refine (zzBytes5_any ao bo co n cap n cap2 n cap3 _ S T _ (by unfold maxLen; omega) (by unfold maxLen; omega) HS HT).mono ?_
  rintro e w' ⟨⟨r, rfl⟩, rfl⟩
  cases r
  · go_wp2
    go_ret
    exact ⟨rfl, Below.refl _ _⟩
  go_wp2_with fail
  refine (overBytes_any ao bo co n cap n cap2 n cap3 S T _ (by unfold maxLen; omega) (by unfold maxLen; omega) HS HT).mono ?_
  rintro e w' ⟨⟨r, rfl⟩, rfl⟩
  cases r
  rotate_left
  · go_wp2
    go_ret
    exact ⟨rfl, Below.refl _ _⟩
  go_wp2_with fail
  refine (someTrue_any co n cap3 B _ (by unfold maxLen; omega) HB).mono ?_
  rintro e w' ⟨rfl, rfl⟩
  go_wp2_with fail
  refine (build_any ao bo co cap cap2 cap3 n S T B _ (by omega) HS HT HB).mono ?_
  rintro e w1 ⟨rfl, hR, hg1, hbel1⟩
  have HR1 : Hid (RowsAt w1 w.heap.size 0 n S T B) := hR
  clear hR
  go_wp2_with fail
  refine (breached_some w.heap.size 0 n n S T B _ (by omega) HR1).mono ?_
  rintro e w2 ⟨rfl, hb2⟩
  have HR2 : Hid (RowsAt w2 w.heap.size 0 n S T B) := HR1.out.below hg1 hb2
  have hg2 : w.heap.size < w2.heap.size := Nat.lt_of_lt_of_le hg1 hb2.size
  have hbel2 : Below w.heap.size w w2 := hbel1.trans (hb2.mono hbel1.size)
  clear HR1 hg1 hb2 hbel1
  go_wp2_with fail
  refine (breached_some w.heap.size 0 k n S T B _ (by omega) (HR2.out.take hk)).mono ?_
  rintro e w3 ⟨rfl, hb3⟩
  have HR3 : Hid (RowsAt w3 w.heap.size 0 n S T B) := HR2.out.below hg2 hb3
  have hg3 : w.heap.size < w3.heap.size := Nat.lt_of_lt_of_le hg2 hb3.size
  have hbel3 : Below w.heap.size w w3 := hbel2.trans (hb3.mono hbel2.size)
  clear HR2 hg2 hb3 hbel2
  go_wp2_with fail
  · refine (breached_some w.heap.size 0 0 0 S T B _ (by omega) (fun i hi => by omega)).mono ?_
    rintro e w4 ⟨rfl, hb4⟩
    have hbel4 : Below w.heap.size w w4 := hbel3.trans (hb4.mono hbel3.size)
    clear HA HR3 hb4 hbel3 HS HT HB
    have h0 : anyB B 0 = false := rfl
    cases hx : anyB B k
    all_goals
      go_wp2
      go_ret
      exact ⟨ret_bool (by simp), hbel4⟩
  · refine (breached_some w.heap.size (k * 5) (n - k) (n - k) _ _ _ _ (by omega) (HR3.out.drop hk)).mono ?_
    rintro e w4 ⟨rfl, hb4⟩
    have hbel4 : Below w.heap.size w w4 := hbel3.trans (hb4.mono hbel3.size)
    clear HR3 hb4 hbel3 HS HT HB
    obtain ⟨y, Hy⟩ : ∃ y, Hid (anyB (fun i => B (k + i)) (n - k) = y) := ⟨_, (rfl : anyB (fun i => B (k + i)) (n - k) = _)⟩
    have hA := HA.out
    rw [Hy.out] at hA ⊢
    clear HA Hy
    cases hx : anyB B k <;> cases y
    all_goals
      rw [hx] at hA
      simp only [Bool.or_true, Bool.or_false, Bool.true_or, Bool.false_or] at hA
      go_wp2
      go_ret
      exact ⟨ret_bool (by simp), hbel4⟩

/-- What the walk is told of a slice of strings that came in; of one of bools. -/
def IsStrs (w : World) (ao : Option Addr) (len cap : Nat) : Prop := len ≤ maxLen ∧ ∃ S, SRow w ao len S
def IsBools (w : World) (ao : Option Addr) (len cap : Nat) : Prop := len ≤ maxLen ∧ ∃ B, BRow w ao len B

set_option maxRecDepth 100000 in
set_option maxHeartbeats 2000000 in
theorem split_walk (ao bo co : Option Addr) (n cap m cap2 l cap3 : Nat) (k0 : Int) (w : World) (w0 : IsStrs w ao n cap) (w1 : IsStrs w bo m cap2) (w2 : IsBools w co l cap3) :
    Calls Try.prog 3 #[.slice ao n cap, .slice bo m cap2, .slice co l cap3, .int .i64 k0] w fun e w' => e = .returned (.bool true) ∧ Below w.heap.size w w' := by
  obtain ⟨m0, S, hS⟩ := w0
  obtain ⟨m1, T, hT⟩ := w1
  obtain ⟨m2, B, hB⟩ := w2
  have HS : Hid (SRow w ao n S) := hS
  have HT : Hid (SRow w bo m T) := hT
  have HB : Hid (BRow w co l B) := hB
  clear hS hT hB
  by_cases hall : (n = l ∧ m = l) ∧ l ≤ 65536 ∧ 0 ≤ k0 ∧ k0 ≤ l
  · obtain ⟨⟨rfl, rfl⟩, hl, hk0, hk1⟩ := hall
    obtain ⟨k, rfl⟩ := Int.eq_ofNat_of_zero_le hk0
    exact split_main ao bo co cap cap2 cap3 m k S T B w hl (by omega) HS HT HB
  · have m0' : n ≤ maxLen := m0
    have m1' : m ≤ maxLen := m1
    unfold maxLen at m0 m1 m2
    have hcs : (¬ n ≤ 65536 ∨ (n ≤ 65536 ∧ ¬ m ≤ 65536) ∨ (n ≤ 65536 ∧ m ≤ 65536 ∧ ¬ l ≤ 65536)) ∨
        (n ≤ 65536 ∧ m ≤ 65536 ∧ l ≤ 65536 ∧ (((n : Int) != (l : Int)) = true ∨ ((((n : Int) != (l : Int)) = false ∧ ((m : Int) != (l : Int)) = true) ∨ ((((n : Int) != (l : Int)) = false ∧ ((m : Int) != (l : Int)) = false ∧ k0 < 0) ∨ (((n : Int) != (l : Int)) = false ∧ ((m : Int) != (l : Int)) = false ∧ 0 ≤ k0 ∧ (l : Int) < k0))))) := by
      simp only [bne_iff_ne, ne_eq, bne_eq_false_iff_eq]
      omega
    clear hall
    rcases hcs with hA | ⟨hn, hm, hl, hB⟩
    · rcases hA with hA | ⟨hA1, hA2⟩ | ⟨hA1, hA2, hA3⟩
      all_goals
        go_enter Try.func3, Try.ntmps3
        go_wp2_with fail
        refine (zzBytes5_any ao bo co n cap m cap2 l cap3 _ S T _ m0' m1' HS HT).mono ?_
        rintro e w' ⟨⟨r, rfl⟩, rfl⟩
        cases r
        all_goals
          go_wp2_with fail
          go_ret
          exact ⟨rfl, Below.refl _ _⟩
    · rcases hB with hB | ⟨hB1, hB2⟩ | ⟨hB1, hB2, hB3⟩ | ⟨hB1, hB2, hB3, hB4⟩
      all_goals
        go_enter Try.func3, Try.ntmps3
        go_wp2_with fail
        refine (zzBytes5_any ao bo co n cap m cap2 l cap3 _ S T _ m0' m1' HS HT).mono ?_
        rintro e w' ⟨⟨r, rfl⟩, rfl⟩
        cases r
        · go_wp2
          go_ret
          exact ⟨rfl, Below.refl _ _⟩
        go_wp2_with fail
        refine (overBytes_any ao bo co n cap m cap2 l cap3 S T _ m0' m1' HS HT).mono ?_
        rintro e w' ⟨⟨r, rfl⟩, rfl⟩
        cases r
        all_goals
          go_wp2_with fail
          go_ret
          exact ⟨rfl, Below.refl _ _⟩

end Go.Proofs.Qxb6630379a
