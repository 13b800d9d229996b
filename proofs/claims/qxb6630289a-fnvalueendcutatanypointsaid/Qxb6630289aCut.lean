import Derived.Test.Qxb6630289aCopy
namespace Go.Proofs.Qxb6630289a
set_option linter.unusedVariables false
set_option linter.unusedSimpArgs false
open Go.RowKit

set_option maxRecDepth 100000 in
set_option maxHeartbeats 4000000 in
theorem cut_main (a0 : Option Addr) (c0 la i k : Nat) (A : List Int) (w : World) (ha : la ≤ 1048576) (hk : k ≤ la) (hA : A.length = la) (HiA : Hid (InRow w a0 c0 A)) :
    Calls Try.prog 4 #[.slice a0 la c0, .int .i64 (i : Int), .int .i64 (k : Int)] w fun e w' => e = .returned (.bool true) ∧ Below w.heap.size w w' := by
  obtain ⟨i0, hi, hz0, hz1, hz2⟩ := info_parts info5
  have hd : decide (la ≤ 1048576) = true := by simpa using ha
  have hnil := fun (W : World) (x : Option Addr) (n k : Nat) => run_neq_slice_nil_any (P := Try.prog) W 22 5 x n k 0 0 Try.underlying22
  have hLA : (A.map (Value.int .u8)).length = la := by simp [hA]
  obtain ⟨X, HX⟩ : ∃ X, Hid (X = A.map (Value.int .u8)) := ⟨_, rfl⟩
  have hX : X.length = la := by rw [HX.out]; exact hLA
  have HoX : Hid (∀ v ∈ X, v.oneCell' = true) := u8_oneCell HX.out
  clear hLA
  go_enter Try.func4, Try.ntmps4
  go_upto_if 34 with (first | (go_at_call 8; refine (zzBytes8_any _ _ _ _ _ _ (by unfold maxLen; omega)).mono ?_; rintro e w' ⟨rfl, rfl⟩))
  go_cut [0] from 13 to 41 (fun v wc => ∃ ao, v = .slice ao la la ∧ Row wc ao A ∧ Below w.heap.size w wc)
  case first =>
    rcases HiA.out with ⟨rfl, rfl, hA0⟩ | ⟨x, rfl, hcx⟩
    · have hl0 : la = 0 := by rw [← hA, hA0]; rfl
      have HA0 : Hid (A = []) := hA0
      clear hA0
      subst hl0
      go_wp2
      go_meet
      case rel => exact ⟨none, rfl, .inl ⟨rfl, HA0.out⟩, Below.refl _ _⟩
    · have Hcx : Hid (∀ j v, X[j]? = some v → w.cell? (x.add j) = some v) := by rw [HX.out]; exact hcx
      clear hcx
      go_wp2_with (first | (at_make; refine wpList_make_full _ rfl _ _ 22 rfl w.heap.size 5 i0 (.int .u8 0) 1 Try.underlying22 hi hz0 hz1 _ _ _ _ la rfl rfl rfl rfl (by rw [hz2]; omega) (by unfold maxLen; omega) (Nat.le_refl _) ?_; intro w1 hown1 hgrow1; obtain ⟨cur, hcur, hcl, hlt1⟩ := made_block hown1; have hb1 := (Below.refl w.heap.size w).grown hgrow1 (Nat.le_refl _) (fun k hk => by cases hk)) | (refine wpList_copy_splice rfl (.tmp 38) (.tmp 39) 22 22 rfl 5 Try.underlying22 size5 _ _ _ _ _ _ rfl rfl w.heap.size 0 cur 5 hcur X (by simp [hX]) (fun _ => ⟨rfl, x, rfl, in_cells Hcx.out hb1⟩) (by omega) HoX.out w.heap.size w hb1 (Nat.le_refl _) ?_; intro w2 HG2 hB2))
      go_meet
      case rel => exact ⟨some ⟨w.heap.size, 0, none⟩, rfl, row_copied HX.out (by omega) HG2.out, hB2⟩
  case rest =>
    obtain ⟨ao, rfl, hRA, hbel⟩ := hcut
    have HRA : Hid (Row wc ao A) := hRA
    clear hRA HiA HX HoX
    go_wp2_with fail
    refine (zz_any ao la la i (fn A) _ ha (row_fn HRA.out hA (Nat.le_refl _))).mono ?_
    rintro e w' ⟨v, rfl, hV, rfl⟩
    have HV : Hid (VEnd (fn A) la i v) := hV
    clear hV
    go_wp2_with fail
    refine (zz_any ao la k i (fn A) _ (by omega) (row_fn HRA.out hA hk)).mono ?_
    rintro e w' ⟨vk, rfl, hVk, rfl⟩
    have HVk : Hid (VEnd (fn A) k i vk) := hVk
    clear hVk
    rcases HV.out with ⟨a1, rfl⟩ | ⟨a1, a2, a3⟩ | ⟨a1, a2, a3⟩
    · have hvk : vk = -1 := by
        rcases HVk.out with ⟨_, h⟩ | ⟨h, _⟩ | ⟨h, _⟩
        · exact h
        · omega
        · omega
      subst hvk
      clear HV HVk
      go_wp2
      go_ret
      exact ⟨rfl, hbel⟩
    · obtain ⟨g, hao, hcA⟩ := row_fn HRA.out hA (Nat.le_refl _) a1
      subst hao
      obtain ⟨c, HC, hcell⟩ : ∃ c, Hid (c = fn A i) ∧ wc.cell? ⟨g, i, none⟩ = some (.int .u8 c) := ⟨_, rfl, hcA i a1⟩
      have hop : c = 34 ∨ c = 123 ∨ c = 91 := by
        rw [← HC.out] at a2
        simp [opener] at a2
        omega
      rcases a3 with ⟨R, hR, hf, rfl⟩ | ⟨⟨q, x, hq, hnq⟩, rfl⟩
      · have hgt := jfin_gt hf
        have hl := jfin_last a2 hf
        obtain ⟨d, HD, hcelld⟩ : ∃ d, Hid (d = fn A (R - 1)) ∧ wc.cell? ⟨g, R - 1, none⟩ = some (.int .u8 d) := ⟨_, rfl, hcA (R - 1) (by omega)⟩
        rw [← HC.out, ← HD.out] at hl
        have hck := cut_fin a2 hf HVk.out
        clear hf hcA a2 HV HVk HRA
        by_cases hRk : R ≤ k
        · obtain rfl := hck.1 hRk
          clear hck
          rcases hop with rfl | rfl | rfl
          · obtain rfl := hl.1 rfl
            clear hl
            go_wp2
            go_ret
            exact ⟨rfl, hbel⟩
          all_goals
            rcases hl.2 (by decide) with rfl | rfl
            all_goals
              clear hl
              go_wp2
              go_ret
              exact ⟨rfl, hbel⟩
        · obtain rfl := hck.2 (by omega)
          clear hck
          rcases hop with rfl | rfl | rfl
          · obtain rfl := hl.1 rfl
            clear hl
            go_wp2
            go_ret
            exact ⟨rfl, hbel⟩
          all_goals
            rcases hl.2 (by decide) with rfl | rfl
            all_goals
              clear hl
              go_wp2
              go_ret
              exact ⟨rfl, hbel⟩
      · obtain rfl := cut_run a2 hq (by omega) HVk.out
        clear hq hcA a2 HV HVk HRA
        rcases hop with rfl | rfl | rfl
        all_goals
          go_wp2
          go_ret
          exact ⟨rfl, hbel⟩
    · obtain ⟨g, hao, hcA⟩ := row_fn HRA.out hA (Nat.le_refl _) a1
      subst hao
      obtain ⟨c, HC, hcell⟩ : ∃ c, Hid (c = fn A i) ∧ wc.cell? ⟨g, i, none⟩ = some (.int .u8 c) := ⟨_, rfl, hcA i a1⟩
      have ho := a2
      rw [← HC.out] at ho
      simp only [opener, Bool.or_eq_false_iff] at ho
      obtain ⟨⟨n34, n123⟩, n91⟩ := ho
      rcases a3 with ⟨hd, rfl⟩ | ⟨hd, R, b1, b2, rfl, b3, b4⟩
      · obtain rfl := cut_bad a2 hd HVk.out
        clear hcA a2 HV HVk HRA hd
        go_wp2
        go_ret
        exact ⟨rfl, hbel⟩
      · have hck := cut_lit a2 hd hk b1 b2 b3 b4 HVk.out
        clear b3 a2 hd HV HVk HRA
        by_cases hRn : R < la
        · obtain ⟨d, HD, hcelld⟩ : ∃ d, Hid (d = fn A R) ∧ wc.cell? ⟨g, R, none⟩ = some (.int .u8 d) := ⟨_, rfl, hcA R hRn⟩
          have hdl : delim d = true := by rw [HD.out]; exact b4 hRn
          clear b4 hcA
          by_cases hki : k ≤ i
          · obtain rfl := hck.1 hki
            clear hck
            go_wp2_with (go_at_call 9; refine (isDelim_any _ _).mono ?_; rintro e w' ⟨rfl, rfl⟩)
            go_ret
            exact ⟨rfl, hbel⟩
          · by_cases hRk : R < k
            · obtain rfl := hck.2.1 (by omega) hRk
              clear hck
              go_wp2_with (go_at_call 9; refine (isDelim_any _ _).mono ?_; rintro e w' ⟨rfl, rfl⟩)
              go_ret
              exact ⟨rfl, hbel⟩
            · obtain rfl := hck.2.2 (by omega) (by omega)
              clear hck
              go_wp2_with (go_at_call 9; refine (isDelim_any _ _).mono ?_; rintro e w' ⟨rfl, rfl⟩)
              go_ret
              exact ⟨rfl, hbel⟩
        · clear b4 hcA
          by_cases hki : k ≤ i
          · obtain rfl := hck.1 hki
            clear hck
            go_wp2
            go_ret
            exact ⟨rfl, hbel⟩
          · by_cases hRk : R < k
            · omega
            · obtain rfl := hck.2.2 (by omega) (by omega)
              clear hck
              go_wp2
              go_ret
              exact ⟨rfl, hbel⟩

set_option maxRecDepth 100000 in
set_option maxHeartbeats 1000000 in
theorem cut_walk (a0 : Option Addr) (la c0 : Nat) (z0 : List Int) (a1 a2 : Int) (w : World) (w0 : IsRow .u8 w a0 la c0 z0) (w1 : (Lit.int .i64 a1).wf = true) (w2 : (Lit.int .i64 a2).wf = true) :
    Calls Try.prog 4 #[.slice a0 la c0, .int .i64 a1, .int .i64 a2] w fun e w' => e = .returned (.bool true) ∧ Below w.heap.size w w' := by
  obtain ⟨r0, e0, m0⟩ := InRow.of_isRow w0
  have m0' : la ≤ maxLen := m0
  unfold maxLen at m0
  by_cases ha : la ≤ 1048576
  · have hd : decide (la ≤ 1048576) = true := by simpa using ha
    by_cases h0 : 0 ≤ a1
    · by_cases h1 : 0 ≤ a2
      · by_cases h2 : a2 ≤ la
        · obtain ⟨i, rfl⟩ := Int.eq_ofNat_of_zero_le h0
          obtain ⟨k, rfl⟩ := Int.eq_ofNat_of_zero_le h1
          exact cut_main a0 c0 la i k (z0.take la) w ha (by omega) e0 r0
        · clear r0 e0 w0 w1 w2
          go_enter Try.func4, Try.ntmps4
          go_wp2_with (go_at_call 8; refine (zzBytes8_any _ _ _ _ _ _ m0').mono ?_; rintro e w' ⟨rfl, rfl⟩)
          go_ret
          exact ⟨rfl, Below.refl _ _⟩
      · clear r0 e0 w0 w1 w2
        go_enter Try.func4, Try.ntmps4
        go_wp2_with (go_at_call 8; refine (zzBytes8_any _ _ _ _ _ _ m0').mono ?_; rintro e w' ⟨rfl, rfl⟩)
        go_ret
        exact ⟨rfl, Below.refl _ _⟩
    · clear r0 e0 w0 w1 w2
      go_enter Try.func4, Try.ntmps4
      go_wp2_with (go_at_call 8; refine (zzBytes8_any _ _ _ _ _ _ m0').mono ?_; rintro e w' ⟨rfl, rfl⟩)
      go_ret
      exact ⟨rfl, Below.refl _ _⟩
  · have hd : decide (la ≤ 1048576) = false := by simpa using ha
    clear r0 e0 w0 w1 w2
    go_enter Try.func4, Try.ntmps4
    go_wp2_with (go_at_call 8; refine (zzBytes8_any _ _ _ _ _ _ m0').mono ?_; rintro e w' ⟨rfl, rfl⟩)
    go_ret
    exact ⟨rfl, Below.refl _ _⟩

end Go.Proofs.Qxb6630289a
