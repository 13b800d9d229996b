import Derived.Test.Qxb6630239aFmtLeaf
import Derived.Test.Qxb6630239aFmtFmt
import Derived.Laws.CopyOwn
import Derived.Deep.LoopGhost
namespace Go.Proofs.Qxb6630239aFmt
set_option linter.unusedVariables false
set_option linter.unusedSimpArgs false
open Go.RowKit Go.Extern.Stop Go.Stop Go.Extern

theorem info5 : (Tryf.prog.info? 5).map (fun i => (i.zero, i.size, i.bytes)) = some (some (.int .u8 0), 1, 1) := by kernel_rfl

/-- What Decode hands back, by what the text spells. -/
def DecOut (w w' : World) (e : Ending) : Option (List Int) → Prop
  | none => ∃ p, e = .returned (.tuple #[.slice none 0 0, .iface 34 p])
  | some ys => ∃ g cap, e = .returned (.tuple #[.slice (some ⟨g, 0, none⟩) ys.length cap, .nilIface]) ∧ w.heap.size ≤ g ∧ g < w'.heap.size ∧ ∀ i, i < ys.length → w'.cell? ⟨g, i, none⟩ = some (.int .u8 (ys.getD i 0))

attribute [local go_sem] call12 guard12 fmt0 fmt0r op5_113

set_option maxHeartbeats 1000000 in
theorem decode_some (F : Interp) (b o cap n : Nat) (xs : List Int) (w : World) (hF : F.answers w.tape) (hn : xs.length = n) (hle : n ≤ 1048577) (hx : ∀ i, i < n → 0 ≤ xs.getD i 0 ∧ xs.getD i 0 ≤ 255)
    (hc : ∀ i, i < n → w.cell? ⟨b, o + i, none⟩ = some (.int .u8 (xs.getD i 0))) :
    Calls Tryf.prog 8 #[.slice (some ⟨b, o, none⟩) n cap] w fun e w' => Below w.heap.size w w' ∧ DecOut w w' e (dec xs) := by
  obtain ⟨i0, hi, hz0, hz1, hz2⟩ := info_parts info5
  go_enter Tryf.func8, Tryf.ntmps8
  go_wp2_with (at_make; go_must (refine wpList_make_own _ rfl _ _ 22 rfl w.heap.size 5 i0 (.int .u8 0) 1 Tryf.underlying22 hi hz0 hz1 _ _ _ (n / 2) rfl rfl (by omega) (by rw [hz2]; omega) (by unfold maxLen; omega) (by simp) ?_); intro w1 hown hgrow)
  go_loopw [4, 5] (fun v i wr => ∃ (k : Nat) (outs : List Int), k ≤ n ∧ i = .int .i64 k ∧ v = .slice (some ⟨w.heap.size, 0, none⟩) outs.length (n / 2) ∧ 2 * outs.length ≤ k ∧
      wr.ownsRow w.heap.size 5 1 (.slice (some ⟨w.heap.size, 0, none⟩) outs.length (n / 2)) outs.length (outs.map (Value.int .u8)) ∧ Below w.heap.size w wr ∧ Hid (w.heap.size < wr.heap.size) ∧ Hid (At xs k outs))
    (fun _ i _ => n - (intOf i).toNat)
  case atStart => exact ⟨0, [], Nat.zero_le _, rfl, rfl, by simp, hown, (Below.refl _ _).grown hgrow (Nat.le_refl _) (fun k hk => by cases hk), by exact (hown.lt _ rfl).2, At.start xs⟩
  case round =>
    obtain ⟨k, outs, hk, rfl, rfl, h2, hown, hbel, Hsz, HA⟩ := hrel
    by_cases hlt : k < n
    · obtain ⟨c, Hc, hc0, hc1, hcell⟩ : ∃ c, Hid (c = xs.getD k 0) ∧ 0 ≤ c ∧ c ≤ 255 ∧ wr.cell? ⟨b, o + k, none⟩ = some (.int .u8 c) :=
        ⟨_, rfl, (hx k hlt).1, (hx k hlt).2, (hbel.cell (World.block_lt_of_cell? w _ (hc k hlt))).trans (hc k hlt)⟩
      have hFr : F.answers wr.tape := by rw [hbel.tape]; exact hF
      have hF' := answers_open hFr
      by_cases hb : blank c = true
      · have HA' : Hid (At xs (k + 1) outs) := HA.out.blank (by omega) (by rw [← Hc.out]; exact hb)
        go_wp2_with (go_at_call 10; refine (isBlank_any _ _).mono ?_; rintro e w' ⟨rfl, rfl⟩)
        go_roundw
        case rel => exact ⟨k + 1, outs, by omega, by go_num, rfl, by omega, hown, hbel, Hsz, HA'⟩
        case measure => simp [intOf]; omega
      · replace hb : blank c = false := by simpa using hb
        cases hh : isHex c
        · have HN : Hid (dec xs = none) := HA.out.bad1 (by omega) (by rw [← Hc.out]; exact hb) (by rw [← Hc.out]; exact hh)
          go_wp2_with (first | (go_at_call 10; refine (isBlank_any _ _).mono ?_; rintro e w' ⟨rfl, rfl⟩) | (go_at_call 11; refine (digit_any _ _ (by omega) (by omega)).mono ?_; rintro e w' ⟨rfl, rfl⟩) | go_in)
          go_ret2
          rw [HN.out]
          exact ⟨by repeat (first | exact hbel | refine Below.drew ?_ | refine Below.alloc ?_ (by have := Hsz.out; simp; omega) _), _, rfl⟩
        · by_cases hend : k + 1 = n
          · have HN : Hid (dec xs = none) := HA.out.odd (by omega) (by rw [← Hc.out]; exact hb)
            have he : ((k : Int) + 1 == (n : Int)) = true := by simp; omega
            clear hend
            go_wp2_with (first | (go_at_call 10; refine (isBlank_any _ _).mono ?_; rintro e w' ⟨rfl, rfl⟩) | (go_at_call 11; refine (digit_any _ _ (by omega) (by omega)).mono ?_; rintro e w' ⟨rfl, rfl⟩))
            go_ret2
            rw [HN.out]
            exact ⟨by repeat (first | exact hbel | refine Below.drew ?_ | refine Below.alloc ?_ (by have := Hsz.out; simp; omega) _), _, rfl⟩
          · have he : ((k : Int) + 1 == (n : Int)) = false := by simp; omega
            obtain ⟨d, Hd, hd0, hd1, hcell2⟩ : ∃ d, Hid (d = xs.getD (k + 1) 0) ∧ 0 ≤ d ∧ d ≤ 255 ∧ wr.cell? ⟨b, o + (k + 1), none⟩ = some (.int .u8 d) :=
              ⟨_, rfl, (hx (k + 1) (by omega)).1, (hx (k + 1) (by omega)).2, (hbel.cell (World.block_lt_of_cell? w _ (hc (k + 1) (by omega)))).trans (hc (k + 1) (by omega))⟩
            cases hh2 : isHex d
            · have HN : Hid (dec xs = none) := HA.out.bad2 (by omega) (by rw [← Hc.out]; exact hb) (by rw [← Hd.out]; exact hh2)
              go_wp2_with (first | (go_at_call 10; refine (isBlank_any _ _).mono ?_; rintro e w' ⟨rfl, rfl⟩) | (go_at_call_of 11 c; refine (digit_any c _ (by omega) (by omega)).mono ?_; rintro e w' ⟨rfl, rfl⟩) | (go_at_call_of 11 d; refine (digit_any d _ (by omega) (by omega)).mono ?_; rintro e w' ⟨rfl, rfl⟩))
              go_ret2
              rw [HN.out]
              exact ⟨by repeat (first | exact hbel | refine Below.drew ?_ | refine Below.alloc ?_ (by have := Hsz.out; simp; omega) _), _, rfl⟩
            · have HA' : Hid (At xs (k + 2) (outs ++ [16 * hexv c + hexv d])) := by
                have := HA.out.pair (by omega) (by rw [← Hc.out]; exact hh) (by rw [← Hd.out]; exact hh2)
                rw [← Hc.out, ← Hd.out] at this
                exact this
              have hbits : bits .or .u8 (digv c * 16 % 256) (digv d) = 16 * hexv c + hexv d := by
                have b1 := digv_bd c
                have b2 := digv_bd d
                rw [or_nib b1.1 b1.2 b2.1 b2.2, digv_hex hh, digv_hex hh2]
              go_wp2_with (first | (go_at_call 10; refine (isBlank_any _ _).mono ?_; rintro e w' ⟨rfl, rfl⟩) | (go_at_call_of 11 c; refine (digit_any c _ (by omega) (by omega)).mono ?_; rintro e w' ⟨rfl, rfl⟩) | (go_at_call_of 11 d; refine (digit_any d _ (by omega) (by omega)).mono ?_; rintro e w' ⟨rfl, rfl⟩) | (at_builtin; go_must (refine wpList_append_fits _ rfl (.tmp 70) (.tmp 75) 22 rfl w.heap.size 5 i0 1 Tryf.underlying22 hi hz1 w.heap.size outs.length (n / 2) (outs.map (Value.int .u8)) rfl (hown.alloc _) ⟨wr.heap.size, 0, none⟩ 1 1 [.int .u8 (16 * hexv c + hexv d)] rfl rfl (cell_one_new _ _ _) (by simp [Value.oneCell']) (by omega) ?_); intro w2 hown2 hgrow2))
              go_roundw
              case rel =>
                refine ⟨k + 2, outs ++ [16 * hexv c + hexv d], by omega, by go_num, by simp, by simp; omega, by simpa using hown2, (hbel.alloc (by have := Hsz.out; omega) _).grown hgrow2 (by have := Hsz.out; simp; omega) (fun k hk => by cases hk; exact Nat.le_refl _), ?_, HA'⟩
                have h1 := Hsz.out
                have h2 := hgrow2.size
                simp at h2
                show w.heap.size < w2.heap.size
                omega
              case measure => simp [intOf]; omega
    · have HN : Hid (dec xs = some outs) := HA.out.done (by omega)
      go_wp2_with fail
      go_ret2
      rw [HN.out]
      refine ⟨hbel, w.heap.size, n / 2, rfl, Nat.le_refl _, Hsz.out, fun i hi => ?_⟩
      have := hown.cells (g := w.heap.size) rfl i (.int .u8 (outs.getD i 0)) (by simp [List.getD, hi])
      rw [Addr.add_lit, Nat.zero_add] at this
      exact this

set_option maxHeartbeats 1000000 in
theorem decode_nil (w : World) :
    Calls Tryf.prog 8 #[.slice none 0 0] w fun e w' => Below w.heap.size w w' ∧ DecOut w w' e (some []) := by
  obtain ⟨i0, hi, hz0, hz1, hz2⟩ := info_parts info5
  go_enter Tryf.func8, Tryf.ntmps8
  go_wp2_with (at_make; go_must (refine wpList_make_own _ rfl _ _ 22 rfl w.heap.size 5 i0 (.int .u8 0) 1 Tryf.underlying22 hi hz0 hz1 _ _ _ 0 rfl rfl (by omega) (by rw [hz2]; omega) (by unfold maxLen; omega) (by simp) ?_); intro w1 hown hgrow)
  refine wp_loop_rounds 1 ?_
  rw [rounds_succ]
  go_wp2
  go_ret2
  exact ⟨(Below.refl _ _).grown hgrow (Nat.le_refl _) (fun k hk => by cases hk), w.heap.size, 0, rfl, Nat.le_refl _, (hown.lt _ rfl).2, fun i hi => by simp at hi⟩

end Go.Proofs.Qxb6630239aFmt
