import Derived.Test.Qxb6630239aFmtChecked
import Derived.Test.Qxb6630239aFmtPlain
import Derived.WalkKit
import Derived.WalkSpells
namespace Go.Proofs.Qxb6630239aFmt
set_option linter.unusedVariables false
set_option linter.unusedSimpArgs false
open Go.RowKit

theorem or_nib {h l : Int} (h0 : 0 ≤ h) (h1 : h ≤ 15) (l0 : 0 ≤ l) (l1 : l ≤ 15) : bits .or .u8 (h * 16 % 256) l = 16 * h + l := by
  have key : ∀ a b : Fin 16, bits .or .u8 ((a.1 : Int) * 16 % 256) (b.1 : Int) = 16 * (a.1 : Int) + (b.1 : Int) := by decide +kernel
  obtain ⟨a, rfl⟩ := Int.eq_ofNat_of_zero_le h0
  obtain ⟨b, rfl⟩ := Int.eq_ofNat_of_zero_le l0
  exact key ⟨a, by omega⟩ ⟨b, by omega⟩

theorem ret_bool {a b : Bool} (h : a = b) : Ending.returned (.bool a) = .returned (.bool b) := by rw [h]
theorem ret_int {k : IntKind} {a b : Int} (h : a = b) : Ending.returned (.int k a) = .returned (.int k b) := by rw [h]
theorem ret_dig {a b : Int} {x y : Bool} (h : b = a ∧ y = x) : Ending.returned (.tuple #[.int .u8 a, .bool x]) = .returned (.tuple #[.int .u8 b, .bool y]) := by rw [h.1, h.2]

set_option maxHeartbeats 400000 in
theorem zzBlank_any (c : Int) (w : World) :
    Calls Tryf.prog 6 #[.int .u8 c] w fun e w' => e = .returned (.bool (blank c)) ∧ w = w' := by
  go_enter Tryf.func6, Tryf.ntmps6
  go_wp2
  all_goals
    go_ret
    exact ⟨ret_bool (by simp_all [blank]), rfl⟩

set_option maxHeartbeats 400000 in
theorem isBlank_any (c : Int) (w : World) :
    Calls Tryf.prog 10 #[.int .u8 c] w fun e w' => e = .returned (.bool (blank c)) ∧ w = w' := by
  go_enter Tryf.func10, Tryf.ntmps10
  go_wp2
  all_goals
    go_ret
    exact ⟨ret_bool (by simp_all [blank]), rfl⟩

set_option maxHeartbeats 400000 in
theorem digit_any (c : Int) (w : World) (h0 : 0 ≤ c) (h1 : c ≤ 255) :
    Calls Tryf.prog 11 #[.int .u8 c] w fun e w' => e = .returned (.tuple #[.int .u8 (digv c), .bool (isHex c)]) ∧ w = w' := by
  go_enter Tryf.func11, Tryf.ntmps11
  go_wp2
  all_goals
    go_ret2
    refine ⟨ret_dig ?_, rfl⟩
    first
      | exact digv_of (by rw [hexv_09 (by omega) (by omega)]) (by omega)
      | exact digv_of (by rw [hexv_af (by omega) (by omega)]; omega) (by omega)
      | exact digv_of (by rw [hexv_AF (by omega) (by omega)]; omega) (by omega)
      | exact digv_no (hexv_no (by omega) (by omega) (by omega))

set_option maxHeartbeats 400000 in
theorem zzBytes5_any (ao : Option Addr) (n cap : Nat) (w : World) (hm : n ≤ maxLen) :
    Calls Tryf.prog 5 #[.slice ao n cap] w fun e w' => e = .returned (.bool (decide (n ≤ 1048576))) ∧ w = w' := by
  unfold maxLen at hm
  go_enter Tryf.func5, Tryf.ntmps5
  go_wp2
  all_goals
    go_ret
    exact ⟨ret_bool (by simp; omega), rfl⟩

set_option maxHeartbeats 400000 in
theorem zzBytes9_any (ao bo : Option Addr) (n cap m cap2 : Nat) (c : Int) (w : World) (hm : n ≤ maxLen) (hm2 : m ≤ maxLen) :
    Calls Tryf.prog 9 #[.slice ao n cap, .slice bo m cap2, .int .u8 c] w fun e w' => e = .returned (.bool (decide (n + m ≤ 1048576))) ∧ w = w' := by
  unfold maxLen at hm hm2
  go_enter Tryf.func9, Tryf.ntmps9
  go_wp2
  all_goals
    go_ret
    exact ⟨ret_bool (by simp; omega), rfl⟩

set_option maxHeartbeats 800000 in
theorem zzHexVal_any (c : Int) (w : World) (h0 : 0 ≤ c) (h1 : c ≤ 255) :
    Calls Tryf.prog 7 #[.int .u8 c] w fun e w' => e = .returned (.int .i64 (hexv c)) ∧ w = w' := by
  go_enter Tryf.func7, Tryf.ntmps7
  go_wp2
  · have g1 : 65 ≤ c := by assumption
    have g2 : c ≤ 90 := by assumption
    go_loop [4] (fun i => ∃ k : Nat, k ≤ 16 ∧ i = .int .i64 k ∧ ∀ j, j < k → dch j ≠ c + 32) (fun i => 16 - (intOf i).toNat)
    case atStart => exact ⟨0, Nat.zero_le _, rfl, fun j hj => by omega⟩
    case round =>
      obtain ⟨k, hk, rfl, hno⟩ := hrel
      by_cases hlt : k < 16
      · go_wp2
        · go_ret
          have he : (dch k == c + 32) = true := by rw [← dch_at k hlt (by exact hlt)]; assumption
          exact ⟨ret_int (dch_up hlt g1 g2 (by simpa using he)), rfl⟩
        · have he : (dch k == c + 32) = false := by rw [← dch_at k hlt (by exact hlt)]; assumption
          go_round
          case rel => exact ⟨k + 1, by omega, by go_num, fun j hj => if h : j = k then by subst h; simpa using he else hno j (by omega)⟩
          case measure => simp [intOf]; omega
      · go_wp2
        go_ret
        exact ⟨ret_int (dch_none_up g1 g2 (fun j hj => hno j (by omega))), rfl⟩
  all_goals
    have g1 : c < 65 ∨ 90 < c := by omega
    go_loop [4] (fun i => ∃ k : Nat, k ≤ 16 ∧ i = .int .i64 k ∧ ∀ j, j < k → dch j ≠ c) (fun i => 16 - (intOf i).toNat)
    case atStart => exact ⟨0, Nat.zero_le _, rfl, fun j hj => by omega⟩
    case round =>
      obtain ⟨k, hk, rfl, hno⟩ := hrel
      by_cases hlt : k < 16
      · go_wp2
        · go_ret
          have he : (dch k == c) = true := by rw [← dch_at k hlt (by exact hlt)]; assumption
          exact ⟨ret_int (dch_low hlt g1 (by simpa using he)), rfl⟩
        · have he : (dch k == c) = false := by rw [← dch_at k hlt (by exact hlt)]; assumption
          go_round
          case rel => exact ⟨k + 1, by omega, by go_num, fun j hj => if h : j = k then by subst h; simpa using he else hno j (by omega)⟩
          case measure => simp [intOf]; omega
      · go_wp2
        go_ret
        exact ⟨ret_int (dch_none_low g1 (fun j hj => hno j (by omega))), rfl⟩

end Go.Proofs.Qxb6630239aFmt
