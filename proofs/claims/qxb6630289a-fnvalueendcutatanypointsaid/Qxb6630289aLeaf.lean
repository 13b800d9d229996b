import Derived.Test.Qxb6630289aChecked
import Derived.Test.Qxb6630289aPlain
import Derived.WalkKit
import Derived.WalkSpells
namespace Go.Proofs.Qxb6630289a
set_option linter.unusedVariables false
set_option linter.unusedSimpArgs false
open Go.RowKit

theorem ret_bool {a b : Bool} (h : a = b) : Ending.returned (.bool a) = .returned (.bool b) := by rw [h]
theorem ret_int {k : IntKind} {a b : Int} (h : a = b) : Ending.returned (.int k a) = .returned (.int k b) := by rw [h]

set_option maxHeartbeats 400000 in
theorem isDelim_any (c : Int) (w : World) :
    Calls Try.prog 9 #[.int .u8 c] w fun e w' => e = .returned (.bool (delim c)) ∧ w = w' := by
  go_enter Try.func9, Try.ntmps9
  go_wp2
  all_goals
    go_ret
    exact ⟨ret_bool (by simp_all [delim]), rfl⟩

set_option maxHeartbeats 400000 in
theorem endsLiteral_any (c : Int) (w : World) :
    Calls Try.prog 12 #[.int .u8 c] w fun e w' => e = .returned (.bool (delim c)) ∧ w = w' := by
  go_enter Try.func12, Try.ntmps12
  go_wp2
  all_goals
    go_ret
    exact ⟨ret_bool (by simp_all [delim]), rfl⟩

set_option maxHeartbeats 400000 in
theorem zzBytes5_any (ao : Option Addr) (n cap : Nat) (i : Int) (w : World) (hm : n ≤ maxLen) :
    Calls Try.prog 5 #[.slice ao n cap, .int .i64 i] w fun e w' => e = .returned (.bool (decide (n ≤ 1048576))) ∧ w = w' := by
  unfold maxLen at hm
  go_enter Try.func5, Try.ntmps5
  go_wp2
  all_goals
    go_ret
    exact ⟨ret_bool (by simp; omega), rfl⟩

set_option maxHeartbeats 400000 in
theorem zzBytes8_any (ao : Option Addr) (n cap : Nat) (i k : Int) (w : World) (hm : n ≤ maxLen) :
    Calls Try.prog 8 #[.slice ao n cap, .int .i64 i, .int .i64 k] w fun e w' => e = .returned (.bool (decide (n ≤ 1048576))) ∧ w = w' := by
  unfold maxLen at hm
  go_enter Try.func8, Try.ntmps8
  go_wp2
  all_goals
    go_ret
    exact ⟨ret_bool (by simp; omega), rfl⟩

theorem SEnd.intro_fin {f : Nat → Int} {n a q : Nat} {v : Int} (h : srun f a q = some false) (hq : a + q < n) (hf : f (a + q) = 34) (hv : v = ((a + q : Nat) : Int) + 1) : SEnd f n a v :=
  .inl ⟨a + q + 1, by omega, ⟨q, rfl, h, hf⟩, by rw [hv]; omega⟩

set_option maxHeartbeats 800000 in
theorem stringEnd_any (b o cap n i : Nat) (f : Nat → Int) (w : World) (hn : n ≤ 1048576) (hi : i < n) (h34 : f i = 34)
    (hc : ∀ j, j < n → w.cell? ⟨b, o + j, none⟩ = some (.int .u8 (f j))) :
    Calls Try.prog 11 #[.slice (some ⟨b, o, none⟩) n cap, .int .i64 (i : Int)] w fun e w' => ∃ v, e = .returned (.int .i64 v) ∧ SEnd f n (i + 1) v ∧ w = w' := by
  have h0 : w.cell? ⟨b, o + i, none⟩ = some (.int .u8 34) := by rw [← h34]; exact hc i hi
  have Hc : Hid (∀ j, j < n → w.cell? ⟨b, o + j, none⟩ = some (.int .u8 (f j))) := hc
  clear hc h34
  go_enter Try.func11, Try.ntmps11
  go_wp2
  go_loop [1] (fun p => ∃ q : Nat, p = .int .i64 ((i : Int) + 1 + (q : Int)) ∧ i + 1 + q ≤ n + 1 ∧ Hid (srun f (i + 1) q = some false)) (fun p => n + 1 - (intOf p).toNat)
  case atStart => exact ⟨0, by go_num, by omega, rfl⟩
  case round =>
    obtain ⟨q, rfl, hq, HS⟩ := hrel
    by_cases hlt : i + 1 + q < n
    · obtain ⟨c, HC, hcell⟩ : ∃ c, Hid (c = f (i + 1 + q)) ∧ w.cell? ⟨b, o + (i + 1 + q), none⟩ = some (.int .u8 c) := ⟨_, rfl, Hc.out _ hlt⟩
      by_cases e34 : c = 34
      · have HF : Hid (f (i + 1 + q) = 34) := by rw [← HC.out]; exact e34
        go_wp2
        go_ret
        exact ⟨_, rfl, SEnd.intro_fin HS.out hlt HF.out (by omega), rfl⟩
      · by_cases e92 : c = 92
        · have HF : Hid (srun f (i + 1) (q + 2) = some false) := srun_esc HS.out (by rw [← HC.out]; exact e92)
          go_wp2
          go_round
          case rel => exact ⟨q + 2, by go_num, by omega, HF⟩
          case measure => simp [intOf]; omega
        · have HF : Hid (srun f (i + 1) (q + 1) = some false) := srun_plain HS.out (by rw [← HC.out]; exact e34) (by rw [← HC.out]; exact e92)
          go_wp2
          go_round
          case rel => exact ⟨q + 1, by go_num, by omega, HF⟩
          case measure => simp [intOf]; omega
    · go_wp2
      go_ret
      exact ⟨_, rfl, .inr ⟨⟨q, false, HS.out, by omega⟩, rfl⟩, rfl⟩

end Go.Proofs.Qxb6630289a
