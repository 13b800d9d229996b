import Derived.Test.Qxb6630289aCopy
namespace Go.Proofs.Qxb6630289a
set_option linter.unusedVariables false
set_option linter.unusedSimpArgs false
open Go.RowKit

set_option maxRecDepth 100000 in
set_option maxHeartbeats 1000000 in
theorem scan_main (a0 : Option Addr) (c0 la i : Nat) (A : List Int) (w : World) (ha : la ≤ 1048576) (hA : A.length = la) (HiA : Hid (InRow w a0 c0 A)) :
    Calls Try.prog 3 #[.slice a0 la c0, .int .i64 (i : Int)] w fun e w' => e = .returned (.bool true) ∧ Below w.heap.size w w' := by
  obtain ⟨i0, hi, hz0, hz1, hz2⟩ := info_parts info5
  have hd : decide (la ≤ 1048576) = true := by simpa using ha
  have hnil := fun (W : World) (x : Option Addr) (n k : Nat) => run_neq_slice_nil_any (P := Try.prog) W 22 5 x n k 0 0 Try.underlying22
  have hLA : (A.map (Value.int .u8)).length = la := by simp [hA]
  obtain ⟨X, HX⟩ : ∃ X, Hid (X = A.map (Value.int .u8)) := ⟨_, rfl⟩
  have hX : X.length = la := by rw [HX.out]; exact hLA
  have HoX : Hid (∀ v ∈ X, v.oneCell' = true) := u8_oneCell HX.out
  clear hLA
  go_enter Try.func3, Try.ntmps3
  go_upto_if 16 with (first | (go_at_call 5; refine (zzBytes5_any _ _ _ _ _ (by unfold maxLen; omega)).mono ?_; rintro e w' ⟨rfl, rfl⟩))
  go_cut [0] from 6 to 23 (fun v wc => ∃ ao, v = .slice ao la la ∧ Row wc ao A ∧ Below w.heap.size w wc)
  case first =>
    rcases HiA.out with ⟨rfl, rfl, hA0⟩ | ⟨x, rfl, hcx⟩
    · have hl0 : la = 0 := by rw [← hA, hA0]; rfl
      have HA0 : Hid (A = []) := hA0
      clear hA0
      subst hl0
      go_wp2
      go_meet
      case rel => exact ⟨none, rfl, .inl ⟨rfl, HA0.out⟩, Below.refl _ _⟩
    · have Hcx : Hid (∀ j v, X[j]? = some v → w.cell? (x.add j) = some v) := by rw [HX.out]; exact hcx
      clear hcx
      go_wp2_with (first | (at_make; refine wpList_make_full _ rfl _ _ 22 rfl w.heap.size 5 i0 (.int .u8 0) 1 Try.underlying22 hi hz0 hz1 _ _ _ _ la rfl rfl rfl rfl (by rw [hz2]; omega) (by unfold maxLen; omega) (Nat.le_refl _) ?_; intro w1 hown1 hgrow1; obtain ⟨cur, hcur, hcl, hlt1⟩ := made_block hown1; have hb1 := (Below.refl w.heap.size w).grown hgrow1 (Nat.le_refl _) (fun k hk => by cases hk)) | (refine wpList_copy_splice rfl (.tmp 20) (.tmp 21) 22 22 rfl 5 Try.underlying22 size5 _ _ _ _ _ _ rfl rfl w.heap.size 0 cur 5 hcur X (by simp [hX]) (fun _ => ⟨rfl, x, rfl, in_cells Hcx.out hb1⟩) (by omega) HoX.out w.heap.size w hb1 (Nat.le_refl _) ?_; intro w2 HG2 hB2))
      go_meet
      case rel => exact ⟨some ⟨w.heap.size, 0, none⟩, rfl, row_copied HX.out (by omega) HG2.out, hB2⟩
  case rest =>
    obtain ⟨ao, rfl, hRA, hbel⟩ := hcut
    have HRA : Hid (Row wc ao A) := hRA
    clear hRA HiA HX HoX
    go_wp2_with fail
    refine (zz_any ao la la i (fn A) _ ha (row_fn HRA.out hA (Nat.le_refl _))).mono ?_
    rintro e w' ⟨v, rfl, hV, rfl⟩
    have HV : Hid (VEnd (fn A) la i v) := hV
    clear hV
    go_wp2_with fail
    refine (model_any ao la la i (fn A) _ ha (row_fn HRA.out hA (Nat.le_refl _))).mono ?_
    rintro e w' ⟨v', rfl, hV', rfl⟩
    obtain rfl := HV.out.unique hV'
    clear hV' HV
    go_wp2
    go_ret
    exact ⟨ret_bool (by simp), hbel⟩

set_option maxRecDepth 100000 in
set_option maxHeartbeats 1000000 in
theorem scan_walk (a0 : Option Addr) (la c0 : Nat) (z0 : List Int) (a1 : Int) (w : World) (w0 : IsRow .u8 w a0 la c0 z0) (w1 : (Lit.int .i64 a1).wf = true) :
    Calls Try.prog 3 #[.slice a0 la c0, .int .i64 a1] w fun e w' => e = .returned (.bool true) ∧ Below w.heap.size w w' := by
  obtain ⟨r0, e0, m0⟩ := InRow.of_isRow w0
  have m0' : la ≤ maxLen := m0
  unfold maxLen at m0
  by_cases ha : la ≤ 1048576
  · by_cases h0 : 0 ≤ a1
    · obtain ⟨i, rfl⟩ := Int.eq_ofNat_of_zero_le h0
      exact scan_main a0 c0 la i (z0.take la) w ha e0 r0
    · have hd : decide (la ≤ 1048576) = true := by simpa using ha
      clear r0 e0 w0 w1
      go_enter Try.func3, Try.ntmps3
      go_wp2_with (go_at_call 5; refine (zzBytes5_any _ _ _ _ _ m0').mono ?_; rintro e w' ⟨rfl, rfl⟩)
      go_ret
      exact ⟨rfl, Below.refl _ _⟩
  · have hd : decide (la ≤ 1048576) = false := by simpa using ha
    clear r0 e0 w0 w1
    go_enter Try.func3, Try.ntmps3
    go_wp2_with (go_at_call 5; refine (zzBytes5_any _ _ _ _ _ m0').mono ?_; rintro e w' ⟨rfl, rfl⟩)
    go_ret
    exact ⟨rfl, Below.refl _ _⟩

end Go.Proofs.Qxb6630289a
