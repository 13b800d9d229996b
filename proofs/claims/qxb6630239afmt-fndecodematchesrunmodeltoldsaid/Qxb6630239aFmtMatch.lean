import Derived.Test.Qxb6630239aFmtSplit
import Derived.Test.Qxb6630239aFmtRuns
import Derived.Deep.CutBlock
namespace Go.Proofs.Qxb6630239aFmt
set_option linter.unusedVariables false
set_option linter.unusedSimpArgs false
open Go.RowKit Go.Extern.Stop Go.Stop Go.Extern

set_option maxRecDepth 100000 in
set_option maxHeartbeats 2000000 in
theorem match_main (F : Interp) (a0 : Option Addr) (c0 la : Nat) (A : List Int) (w : World) (hF : F.answers w.tape)
    (ha : la ≤ 1048576) (hA : A.length = la) (HiA : Hid (InRow w a0 c0 A)) (HxA : Hid (∀ i, i < la → 0 ≤ A.getD i 0 ∧ A.getD i 0 ≤ 255)) :
    Calls Tryf.prog 3 #[.slice a0 la c0] w fun e w' => e = .returned (.bool true) ∧ Below w.heap.size w w' := by
  obtain ⟨i0, hi, hz0, hz1, hz2⟩ := info_parts info5
  have hd : decide (la ≤ 1048576) = true := by simpa using ha
  have hnil := fun (W : World) (x : Option Addr) (n k : Nat) => run_neq_slice_nil_any (P := Tryf.prog) W 22 5 x n k 0 0 Tryf.underlying22
  have hnil2 := fun (W : World) (x : Option Addr) (n k : Nat) => Lib.run_eql_slice_nil (P := Tryf.prog) W 22 5 x n k 0 0 Tryf.underlying22
  have hLA : (A.map (Value.int .u8)).length = la := by simp [hA]
  obtain ⟨X, HX⟩ : ∃ X, Hid (X = A.map (Value.int .u8)) := ⟨_, rfl⟩
  have hX : X.length = la := by rw [HX.out]; exact hLA
  have HoX : Hid (∀ v ∈ X, v.oneCell' = true) := u8_oneCell HX.out
  clear hLA
  go_enter Tryf.func3, Tryf.ntmps3
  go_upto_if 23 with (first | (go_at_call 5; refine (zzBytes5_any _ _ _ _ (by unfold maxLen; omega)).mono ?_; rintro e w' ⟨rfl, rfl⟩))
  go_cut [0] from 16 to 30 (fun v wc => ∃ ao, v = .slice ao la la ∧ Row wc ao A ∧ Below w.heap.size w wc)
  case first =>
    rcases HiA.out with ⟨rfl, rfl, hA0⟩ | ⟨x, rfl, hcx⟩
    · have hl0 : la = 0 := by rw [← hA, hA0]; rfl
      have HA0 : Hid (A = []) := hA0
      clear hA0
      subst hl0
      go_wp2
      go_meet
      case rel => exact ⟨none, rfl, .inl ⟨rfl, HA0.out⟩, Below.refl _ _⟩
    · have Hcx : Hid (∀ j v, X[j]? = some v → w.cell? (x.add j) = some v) := by rw [HX.out]; exact hcx
      clear hcx
      go_wp2_with (first | (at_make; refine wpList_make_full _ rfl _ _ 22 rfl w.heap.size 5 i0 (.int .u8 0) 1 Tryf.underlying22 hi hz0 hz1 _ _ _ _ la rfl rfl rfl rfl (by rw [hz2]; omega) (by unfold maxLen; omega) (Nat.le_refl _) ?_; intro w1 hown1 hgrow1; obtain ⟨cur, hcur, hcl, hlt1⟩ := made_block hown1; have hb1 := (Below.refl w.heap.size w).grown hgrow1 (Nat.le_refl _) (fun k hk => by cases hk)) | (refine wpList_copy_splice rfl (.tmp 27) (.tmp 28) 22 22 rfl 5 Tryf.underlying22 size5 _ _ _ _ _ _ rfl rfl w.heap.size 0 cur 5 hcur X (by simp [hX]) (fun _ => ⟨rfl, x, rfl, in_cells Hcx.out hb1⟩) (by omega) HoX.out w.heap.size w hb1 (Nat.le_refl _) ?_; intro w2 HG2 hB2))
      go_meet
      case rel => exact ⟨some ⟨w.heap.size, 0, none⟩, rfl, row_copied HX.out (by omega) HG2.out, hB2⟩
  case rest =>
    obtain ⟨ao, rfl, hRA, hbel⟩ := hcut
    have HRA : Hid (Row wc ao A) := hRA
    clear hRA HiA HX HoX
    go_upto_block 0 with fail
    go_cut [4, 5] from 31 to 71 (fun o n wd => wc = wd ∧ ((∃ outs, Hid (dec A = some outs) ∧ o = .bool true ∧ n = .int .i64 (2 * (outs.length : Int)) ∧ 2 * outs.length ≤ la) ∨ (Hid (dec A = none) ∧ o = .bool false)))
    case first =>
      go_wp2_with fail
      go_loop [4, 5, 6] (fun o n i => ∃ (k : Nat) (outs : List Int), k ≤ la ∧ i = .int .i64 k ∧ o = .bool true ∧ n = .int .i64 (2 * (outs.length : Int)) ∧ 2 * outs.length ≤ k ∧ Hid (At A k outs)) (fun _ _ i => la - (intOf i).toNat)
      case atStart => exact ⟨0, [], Nat.zero_le _, rfl, rfl, rfl, Nat.zero_le _, At.start A⟩
      case round =>
        obtain ⟨k, outs, hk, rfl, rfl, rfl, h2, HAt⟩ := hrel
        by_cases hlt : k < la
        · rcases HRA.out with ⟨rfl, hA0⟩ | ⟨g, rfl, hg, hcA⟩
          · exfalso; rw [hA0] at hA; simp at hA; omega
          · obtain ⟨c, Hc, hc0, hc1, hcell⟩ : ∃ c, Hid (c = A.getD k 0) ∧ 0 ≤ c ∧ c ≤ 255 ∧ wc.cell? ⟨g, k, none⟩ = some (.int .u8 c) := ⟨_, rfl, (HxA.out k hlt).1, (HxA.out k hlt).2, hcA k (by omega)⟩
            have HcA : Hid (∀ i, i < A.length → wc.cell? ⟨g, i, none⟩ = some (.int .u8 (A.getD i 0))) := hcA
            clear hcA
            cases hb : blank c
            · by_cases hh : 0 ≤ hexv c
              · have hv := hexv_bd c
                go_wp2_with (first | (go_at_call 6; refine (zzBlank_any _ _).mono ?_; rintro e w' ⟨rfl, rfl⟩) | (go_at_call 7; refine (zzHexVal_any _ _ (by omega) (by omega)).mono ?_; rintro e w' ⟨rfl, rfl⟩))
                go_loop [8] (fun j => ∃ m : Nat, k ≤ m ∧ m ≤ la ∧ j = .int .i64 m ∧ Hid (∀ i, k ≤ i → i < m → isHex (A.getD i 0) = true)) (fun j => la - (intOf j).toNat)
                case atStart => exact ⟨k, Nat.le_refl _, hk, rfl, fun i h1 h2 => by omega⟩
                case round =>
                  obtain ⟨m, hkm, hml, rfl, HH⟩ := hrel
                  by_cases hm : m < la
                  · obtain ⟨d, Hd, hd0, hd1, hcelld⟩ : ∃ d, Hid (d = A.getD m 0) ∧ 0 ≤ d ∧ d ≤ 255 ∧ wc.cell? ⟨g, m, none⟩ = some (.int .u8 d) := ⟨_, rfl, (HxA.out m hm).1, (HxA.out m hm).2, HcA.out m (by omega)⟩
                    have hvd := hexv_bd d
                    by_cases hhd : 0 ≤ hexv d
                    · have HH' : Hid (∀ i, k ≤ i → i < m + 1 → isHex (A.getD i 0) = true) := fun i h1 h2 => if e : i = m then by rw [e, ← Hd.out]; exact isHex_iff.2 hhd else HH.out i h1 (by omega)
                      go_wp2_with (go_at_call 7; refine (zzHexVal_any _ _ (by omega) (by omega)).mono ?_; rintro e w' ⟨rfl, rfl⟩)
                      go_round
                      case rel => exact ⟨m + 1, by omega, by omega, by go_num, HH'⟩
                      case measure => simp [intOf]; omega
                    · have hmk : k < m := by
                        by_cases e : m = k
                        · exfalso; rw [e, ← Hc.out] at Hd; rw [Hd.out] at hhd; exact hhd hh
                        · omega
                      have HE : Hid (m < A.length → isHex (A.getD m 0) = false) := fun _ => by rw [← Hd.out]; simp [isHex]; omega
                      by_cases hpar : (m - k) % 2 = 0
                      · obtain ⟨outs2, HA2, hl2⟩ : ∃ outs2, Hid (At A m outs2) ∧ 2 * outs2.length = 2 * outs.length + (m - k) := run_even' A outs k m HAt.out HH.out (by omega) (by omega) hpar
                        have hp : ((m : Int) - (k : Int)) % 2 = 0 := by omega
                        have Hl2 : Hid (2 * outs2.length = 2 * outs.length + (m - k)) := hl2
                        clear hpar hl2
                        go_wp2_with (go_at_call 7; refine (zzHexVal_any _ _ (by omega) (by omega)).mono ?_; rintro e w' ⟨rfl, rfl⟩)
                        go_round
                        case rel => exact ⟨m, outs2, by omega, rfl, rfl, by have := Hl2.out; go_num, by have := Hl2.out; omega, HA2⟩
                        case measure => simp [intOf]; omega
                      · have HN : Hid (dec A = none) := run_odd A outs k m HAt.out HH.out (by omega) (by omega) HE.out (by omega)
                        have hp : ((m : Int) - (k : Int)) % 2 = 1 := by omega
                        clear hpar
                        go_wp2_with (go_at_call 7; refine (zzHexVal_any _ _ (by omega) (by omega)).mono ?_; rintro e w' ⟨rfl, rfl⟩)
                        go_meet
                        case rel => exact ⟨rfl, .inr ⟨HN, rfl⟩⟩
                  · have hmk : k < m := by omega
                    by_cases hpar : (m - k) % 2 = 0
                    · obtain ⟨outs2, HA2, hl2⟩ : ∃ outs2, Hid (At A m outs2) ∧ 2 * outs2.length = 2 * outs.length + (m - k) := run_even' A outs k m HAt.out HH.out (by omega) (by omega) hpar
                      have hp : ((m : Int) - (k : Int)) % 2 = 0 := by omega
                      have Hl2 : Hid (2 * outs2.length = 2 * outs.length + (m - k)) := hl2
                      clear hpar hl2
                      go_wp2_with fail
                      go_round
                      case rel => exact ⟨m, outs2, by omega, rfl, rfl, by have := Hl2.out; go_num, by have := Hl2.out; omega, HA2⟩
                      case measure => simp [intOf]; omega
                    · have HN : Hid (dec A = none) := run_odd A outs k m HAt.out HH.out (by omega) (by omega) (fun h => by omega) (by omega)
                      have hp : ((m : Int) - (k : Int)) % 2 = 1 := by omega
                      clear hpar
                      go_wp2_with fail
                      go_meet
                      case rel => exact ⟨rfl, .inr ⟨HN, rfl⟩⟩
              · have HN : Hid (dec A = none) := HAt.out.bad1 (by omega) (by rw [← Hc.out]; exact hb) (by rw [← Hc.out]; simp [isHex]; omega)
                go_wp2_with (first | (go_at_call 6; refine (zzBlank_any _ _).mono ?_; rintro e w' ⟨rfl, rfl⟩) | (go_at_call 7; refine (zzHexVal_any _ _ (by omega) (by omega)).mono ?_; rintro e w' ⟨rfl, rfl⟩))
                go_meet
                case rel => exact ⟨rfl, .inr ⟨HN, rfl⟩⟩
            · have HA' : Hid (At A (k + 1) outs) := HAt.out.blank (by omega) (by rw [← Hc.out]; exact hb)
              go_wp2_with (go_at_call 6; refine (zzBlank_any _ _).mono ?_; rintro e w' ⟨rfl, rfl⟩)
              go_round
              case rel => exact ⟨k + 1, outs, by omega, by go_num, rfl, rfl, by omega, HA'⟩
              case measure => simp [intOf]; omega
        · have HN : Hid (dec A = some outs) := HAt.out.done (by omega)
          go_wp2_with fail
          go_meet
          case rel => exact ⟨rfl, .inl ⟨outs, HN, rfl, rfl, by omega⟩⟩
    case rest =>
      obtain ⟨rfl, hcut⟩ := hcut
      rcases hcut with ⟨outs, HN, rfl, rfl, h2⟩ | ⟨HN, rfl⟩
      · go_wp2_with fail
        refine (decode_any F ao la la A _ (by rw [hbel.tape]; exact hF) hA (by omega) HxA.out HRA.out (fun h => h)).mono ?_
        rintro e w5 ⟨hb5, hD⟩
        rw [HN.out] at hD
        obtain ⟨g1, cap1, rfl, hg1, hgl1, hc1⟩ := hD
        have Hc1 : Hid (∀ i, i < outs.length → w5.cell? ⟨g1, i, none⟩ = some (.int .u8 (outs.getD i 0))) := hc1
        have hbel5 : Below w.heap.size w w5 := hbel.trans (hb5.mono hbel.size)
        have HRA5 : Hid (Row w5 ao A) := HRA.out.below hb5
        clear hc1 HRA hbel hb5 hg1 hgl1
        go_wp2
        go_loop [11, 12] (fun d i => ∃ k : Nat, k ≤ la ∧ i = .int .i64 k ∧ d = .int .i64 (nh (A.take k))) (fun _ i => la - (intOf i).toNat)
        case atStart => exact ⟨0, Nat.zero_le _, rfl, rfl⟩
        case round =>
          obtain ⟨k, hk, rfl, rfl⟩ := hrel
          have hnh := nh_le A k
          by_cases hlt : k < la
          · rcases HRA5.out with ⟨rfl, hA0⟩ | ⟨g, rfl, hg, hcA⟩
            · exfalso; rw [hA0] at hA; simp at hA; omega
            · obtain ⟨c, Hc, hc0, hc1, hcell⟩ : ∃ c, Hid (c = A.getD k 0) ∧ 0 ≤ c ∧ c ≤ 255 ∧ w5.cell? ⟨g, k, none⟩ = some (.int .u8 c) := ⟨_, rfl, (HxA.out k hlt).1, (HxA.out k hlt).2, hcA k (by omega)⟩
              have HS : Hid (nh (A.take (k + 1)) = nh (A.take k) + if isHex c then 1 else 0) := nh_step A k (by omega) c Hc.out
              clear hcA
              have hv := hexv_bd c
              by_cases hh : 0 ≤ hexv c
              · have hnib := nibbles la A outs (by omega) HN.out k (by omega) (by rw [← Hc.out]; exact isHex_iff.2 hh)
                rw [← Hc.out] at hnib
                obtain ⟨m, Hm⟩ : ∃ m, Hid (m = nh (A.take k) / 2) := ⟨_, rfl⟩
                rw [← Hm.out] at hnib
                obtain ⟨hn1, hn2, hn3, hn4, hn5⟩ := hnib
                have hcell2 := Hc1.out m hn1
                obtain ⟨y, hy⟩ : ∃ y, outs.getD m 0 = y := ⟨_, rfl⟩
                rw [hy] at hn2 hn3 hn4 hn5 hcell2
                have em : ((nh (A.take k) : Int) / 2) = (m : Int) := by have := Hm.out; omega
                clear hy
                by_cases hpar : nh (A.take k) % 2 = 0
                · have hp : ((nh (A.take k) : Int) % 2) = 0 := by omega
                  have hq : y / 16 = hexv c := hn4 hpar
                  clear hn4 hn5 hpar
                  go_wp2_with (go_at_call 7; refine (zzHexVal_any _ _ (by omega) (by omega)).mono ?_; rintro e w' ⟨rfl, rfl⟩)
                  go_round
                  case rel => exact ⟨k + 1, by omega, by go_num, by rw [HS.out, isHex_iff.2 hh]; go_num⟩
                  case measure => simp [intOf]; omega
                · have hp : ((nh (A.take k) : Int) % 2) = 1 := by omega
                  have hq : y % 16 = hexv c := hn5 (by omega)
                  clear hn4 hn5 hpar
                  go_wp2_with (go_at_call 7; refine (zzHexVal_any _ _ (by omega) (by omega)).mono ?_; rintro e w' ⟨rfl, rfl⟩)
                  go_round
                  case rel => exact ⟨k + 1, by omega, by go_num, by rw [HS.out, isHex_iff.2 hh]; go_num⟩
                  case measure => simp [intOf]; omega
              · have hx : isHex c = false := by simp [isHex]; omega
                go_wp2_with (go_at_call 7; refine (zzHexVal_any _ _ (by omega) (by omega)).mono ?_; rintro e w' ⟨rfl, rfl⟩)
                go_round
                case rel => exact ⟨k + 1, by omega, by go_num, by rw [HS.out, hx]; go_num⟩
                case measure => simp [intOf]; omega
          · go_wp2
            go_ret
            exact ⟨rfl, hbel5⟩
      · go_wp2_with fail
        refine (decode_any F ao la la A _ (by rw [hbel.tape]; exact hF) hA (by omega) HxA.out HRA.out (fun h => h)).mono ?_
        rintro e w5 ⟨hb5, hD⟩
        rw [HN.out] at hD
        obtain ⟨p, rfl⟩ := hD
        go_wp2
        go_ret
        exact ⟨rfl, hbel.trans (hb5.mono hbel.size)⟩

set_option maxRecDepth 100000 in
set_option maxHeartbeats 1000000 in
theorem match_walk (F : Interp) (a0 : Option Addr) (c0 la : Nat) (z0 : List Int) (w : World) (hF : F.answers w.tape) (w0 : IsRow .u8 w a0 la c0 z0) :
    Calls Tryf.prog 3 #[.slice a0 la c0] w fun e w' => e = .returned (.bool true) ∧ Below w.heap.size w w' := by
  obtain ⟨r0, e0, m0, x0⟩ := InRow.of_isRow w0
  by_cases ha : la ≤ 1048576
  · exact match_main F a0 c0 la (z0.take la) w hF ha e0 r0 x0
  · have hd : decide (la ≤ 1048576) = false := by simpa using ha
    have m0' : la ≤ maxLen := m0
    unfold maxLen at m0
    clear r0 e0 x0 w0
    go_enter Tryf.func3, Tryf.ntmps3
    go_wp2_with (go_at_call 5; refine (zzBytes5_any _ _ _ _ m0').mono ?_; rintro e w' ⟨rfl, rfl⟩)
    go_ret
    exact ⟨rfl, Below.refl _ _⟩

end Go.Proofs.Qxb6630239aFmt

