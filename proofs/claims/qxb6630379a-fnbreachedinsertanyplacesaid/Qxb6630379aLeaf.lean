import Derived.Test.Qxb6630379aChecked
import Derived.WalkKit
import Derived.WalkSpells
import Derived.Lib.Builder
namespace Go.Proofs.Qxb6630379a
set_option linter.unusedVariables false
set_option linter.unusedSimpArgs false
open Go.RowKit

theorem ret_bool {a b : Bool} (h : a = b) : Ending.returned (.bool a) = .returned (.bool b) := by rw [h]

/-- Is one of the first n true? -/
def anyB (B : Nat → Bool) : Nat → Bool
  | 0 => false
  | n + 1 => anyB B n || B n

theorem anyB_of {B : Nat → Bool} {k n : Nat} (h : B k = true) (hk : k < n) : anyB B n = true := by
  induction n with
  | zero => omega
  | succ n ih =>
    by_cases e : k = n
    · subst e; simp [anyB, h]
    · simp [anyB, ih (by omega)]
theorem anyB_step {B : Nat → Bool} {k : Nat} (h : anyB B k = false) (hk : B k = false) : anyB B (k + 1) = false := by simp [anyB, h, hk]

/-- A slice of strings, of bools, that came in. -/
def SRow (w : World) (ao : Option Addr) (n : Nat) (S : Nat → ByteArray) : Prop :=
  n = 0 ∨ ∃ b o, ao = some ⟨b, o, none⟩ ∧ ∀ i, i < n → w.cell? ⟨b, o + i, none⟩ = some (.string (S i)) ∧ (S i).size ≤ maxLen
def BRow (w : World) (ao : Option Addr) (n : Nat) (B : Nat → Bool) : Prop :=
  n = 0 ∨ ∃ b o, ao = some ⟨b, o, none⟩ ∧ ∀ i, i < n → w.cell? ⟨b, o + i, none⟩ = some (.bool (B i))

set_option maxHeartbeats 400000 in
theorem someTrue_any (ao : Option Addr) (n cap : Nat) (B : Nat → Bool) (w : World) (hn : n ≤ maxLen) (HB : Hid (BRow w ao n B)) :
    Calls Try.prog 7 #[.slice ao n cap] w fun e w' => e = .returned (.bool (anyB B n)) ∧ w = w' := by
  unfold maxLen at hn
  go_enter Try.func7, Try.ntmps7
  go_wp2
  go_loop [3] (fun i => ∃ k : Nat, k ≤ n ∧ i = .int .i64 k ∧ Hid (anyB B k = false)) (fun i => n - (intOf i).toNat)
  case atStart => exact ⟨0, Nat.zero_le _, rfl, (rfl : anyB B 0 = false)⟩
  case round =>
    obtain ⟨k, hk, rfl, HA⟩ := hrel
    by_cases hlt : k < n
    · rcases HB.out with h0 | ⟨b, o, rfl, hc⟩
      · omega
      · obtain ⟨x, Hx, hcell⟩ : ∃ x, Hid (x = B k) ∧ w.cell? ⟨b, o + k, none⟩ = some (.bool x) := ⟨_, (rfl : B k = B k), hc k hlt⟩
        clear hc
        cases x
        · have HA' : Hid (anyB B (k + 1) = false) := anyB_step HA.out Hx.out.symm
          go_wp2
          go_round
          case rel => exact ⟨k + 1, by omega, by go_num, HA'⟩
          case measure => simp [intOf]; omega
        · have HA' : Hid (anyB B n = true) := anyB_of Hx.out.symm hlt
          go_wp2
          go_ret
          exact ⟨ret_bool HA'.out.symm, rfl⟩
    · have HA' : Hid (anyB B n = false) := by rw [show n = k by omega]; exact HA.out
      go_wp2
      go_ret
      exact ⟨ret_bool HA'.out.symm, rfl⟩

/-- It returns a bool, whichever. -/
def SomeBool (e : Ending) : Prop := ∃ r, e = .returned (.bool r)
theorem SomeBool.mk (r : Bool) : SomeBool (.returned (.bool r)) := ⟨r, rfl⟩

set_option maxHeartbeats 1000000 in
theorem overBytes_any (ao bo co : Option Addr) (n cap m cap2 l cap3 : Nat) (S T : Nat → ByteArray) (w : World) (hn : n ≤ maxLen) (hm : m ≤ maxLen) (HS : Hid (SRow w ao n S)) (HT : Hid (SRow w bo m T)) :
    Calls Try.prog 6 #[.slice ao n cap, .slice bo m cap2, .slice co l cap3] w fun e w' => SomeBool e ∧ w = w' := by
  unfold maxLen at hn hm
  go_enter Try.func6, Try.ntmps6
  go_wp2
  · go_ret
    exact ⟨SomeBool.mk _, rfl⟩
  · go_loop [7, 8] (fun z i => ∃ (k : Nat) (y : Int), k ≤ n ∧ i = .int .i64 k ∧ z = .int .i64 y) (fun _ i => n - (intOf i).toNat)
    case atStart => exact ⟨0, l, Nat.zero_le _, rfl, rfl⟩
    case round =>
      obtain ⟨k, y, hk, rfl, rfl⟩ := hrel
      by_cases hlt : k < n
      · rcases HS.out with h0 | ⟨b, o, rfl, hc⟩
        · omega
        · obtain ⟨x, hcell⟩ : ∃ x : ByteArray, w.cell? ⟨b, o + k, none⟩ = some (.string x) := ⟨_, (hc k hlt).1⟩
          clear hc
          go_wp2
          · go_ret
            exact ⟨SomeBool.mk _, rfl⟩
          · go_round
            case rel => exact ⟨k + 1, _, by omega, by go_num, rfl⟩
            case measure => simp [intOf]; omega
      · go_wp2_with fail
        go_loop [7, 9] (fun z i => ∃ (k : Nat) (y : Int), k ≤ m ∧ i = .int .i64 k ∧ z = .int .i64 y) (fun _ i => m - (intOf i).toNat)
        case atStart => exact ⟨0, y, Nat.zero_le _, rfl, rfl⟩
        case round =>
          obtain ⟨k2, y2, hk2, rfl, rfl⟩ := hrel
          by_cases hlt2 : k2 < m
          · rcases HT.out with h0 | ⟨b, o, rfl, hc⟩
            · omega
            · obtain ⟨x, hcell⟩ : ∃ x : ByteArray, w.cell? ⟨b, o + k2, none⟩ = some (.string x) := ⟨_, (hc k2 hlt2).1⟩
              clear hc
              go_wp2
              · go_ret
                exact ⟨SomeBool.mk _, rfl⟩
              · go_round
                case rel => exact ⟨k2 + 1, _, by omega, by go_num, rfl⟩
                case measure => simp [intOf]; omega
          · go_wp2
            go_ret
            exact ⟨SomeBool.mk _, rfl⟩

set_option maxHeartbeats 2000000 in
theorem zzBytes5_any (ao bo co : Option Addr) (n cap m cap2 l cap3 : Nat) (k0 : Int) (S T : Nat → ByteArray) (w : World) (hn : n ≤ maxLen) (hm : m ≤ maxLen) (HS : Hid (SRow w ao n S)) (HT : Hid (SRow w bo m T)) :
    Calls Try.prog 5 #[.slice ao n cap, .slice bo m cap2, .slice co l cap3, .int .i64 k0] w fun e w' => SomeBool e ∧ w = w' := by
  unfold maxLen at hn hm
  go_enter Try.func5, Try.ntmps5
  go_wp2
  · go_ret
    exact ⟨SomeBool.mk _, rfl⟩
  · go_loop [9, 10] (fun z i => ∃ (k : Nat) (y : Int), k ≤ n ∧ i = .int .i64 k ∧ z = .int .i64 y) (fun _ i => n - (intOf i).toNat)
    case atStart => exact ⟨0, n, Nat.zero_le _, rfl, rfl⟩
    case round =>
      obtain ⟨k, y, hk, rfl, rfl⟩ := hrel
      by_cases hlt : k < n
      · rcases HS.out with h0 | ⟨b, o, rfl, hc⟩
        · omega
        · obtain ⟨x, hcell⟩ : ∃ x : ByteArray, w.cell? ⟨b, o + k, none⟩ = some (.string x) := ⟨_, (hc k hlt).1⟩
          clear hc
          go_wp2
          · go_ret
            exact ⟨SomeBool.mk _, rfl⟩
          · go_ret
            exact ⟨SomeBool.mk _, rfl⟩
          · go_round
            case rel => exact ⟨k + 1, _, by omega, by go_num, rfl⟩
            case measure => simp [intOf]; omega
      · go_wp2_with fail
        · go_ret
          exact ⟨SomeBool.mk _, rfl⟩
        · go_ret
          exact ⟨SomeBool.mk _, rfl⟩
        · go_loop [9, 11] (fun z i => ∃ (k : Nat) (y : Int), k ≤ m ∧ i = .int .i64 k ∧ z = .int .i64 y) (fun _ i => m - (intOf i).toNat)
          case atStart => exact ⟨0, _, Nat.zero_le _, rfl, rfl⟩
          case round =>
            obtain ⟨k2, y2, hk2, rfl, rfl⟩ := hrel
            by_cases hlt2 : k2 < m
            · rcases HT.out with h0 | ⟨b, o, rfl, hc⟩
              · omega
              · obtain ⟨x, hcell⟩ : ∃ x : ByteArray, w.cell? ⟨b, o + k2, none⟩ = some (.string x) := ⟨_, (hc k2 hlt2).1⟩
                clear hc
                go_wp2
                · go_ret
                  exact ⟨SomeBool.mk _, rfl⟩
                · go_ret
                  exact ⟨SomeBool.mk _, rfl⟩
                · go_round
                  case rel => exact ⟨k2 + 1, _, by omega, by go_num, rfl⟩
                  case measure => simp [intOf]; omega
            · go_wp2
              all_goals
                go_ret
                exact ⟨SomeBool.mk _, rfl⟩

set_option maxHeartbeats 2000000 in
theorem zzBytes10_any (ao bo co : Option Addr) (n cap m cap2 l cap3 : Nat) (k0 : Int) (p q : ByteArray) (bb : Bool) (S T : Nat → ByteArray) (w : World) (hn : n ≤ maxLen) (hm : m ≤ maxLen) (HS : Hid (SRow w ao n S)) (HT : Hid (SRow w bo m T)) :
    Calls Try.prog 10 #[.slice ao n cap, .slice bo m cap2, .slice co l cap3, .int .i64 k0, .string p, .string q, .bool bb] w fun e w' => SomeBool e ∧ w = w' := by
  unfold maxLen at hn hm
  go_enter Try.func10, Try.ntmps10
  go_wp2
  · go_ret
    exact ⟨SomeBool.mk _, rfl⟩
  · go_loop [15, 16] (fun z i => ∃ (k : Nat) (y : Int), k ≤ n ∧ i = .int .i64 k ∧ z = .int .i64 y) (fun _ i => n - (intOf i).toNat)
    case atStart => exact ⟨0, n, Nat.zero_le _, rfl, rfl⟩
    case round =>
      obtain ⟨k, y, hk, rfl, rfl⟩ := hrel
      by_cases hlt : k < n
      · rcases HS.out with h0 | ⟨b, o, rfl, hc⟩
        · omega
        · obtain ⟨x, hcell⟩ : ∃ x : ByteArray, w.cell? ⟨b, o + k, none⟩ = some (.string x) := ⟨_, (hc k hlt).1⟩
          clear hc
          go_wp2
          · go_ret
            exact ⟨SomeBool.mk _, rfl⟩
          · go_ret
            exact ⟨SomeBool.mk _, rfl⟩
          · go_round
            case rel => exact ⟨k + 1, _, by omega, by go_num, rfl⟩
            case measure => simp [intOf]; omega
      · go_wp2_with fail
        · go_ret
          exact ⟨SomeBool.mk _, rfl⟩
        · go_ret
          exact ⟨SomeBool.mk _, rfl⟩
        · go_loop [15, 17] (fun z i => ∃ (k : Nat) (y : Int), k ≤ m ∧ i = .int .i64 k ∧ z = .int .i64 y) (fun _ i => m - (intOf i).toNat)
          case atStart => exact ⟨0, _, Nat.zero_le _, rfl, rfl⟩
          case round =>
            obtain ⟨k2, y2, hk2, rfl, rfl⟩ := hrel
            by_cases hlt2 : k2 < m
            · rcases HT.out with h0 | ⟨b, o, rfl, hc⟩
              · omega
              · obtain ⟨x, hcell⟩ : ∃ x : ByteArray, w.cell? ⟨b, o + k2, none⟩ = some (.string x) := ⟨_, (hc k2 hlt2).1⟩
                clear hc
                go_wp2
                · go_ret
                  exact ⟨SomeBool.mk _, rfl⟩
                · go_ret
                  exact ⟨SomeBool.mk _, rfl⟩
                · go_round
                  case rel => exact ⟨k2 + 1, _, by omega, by go_num, rfl⟩
                  case measure => simp [intOf]; omega
            · go_wp2
              all_goals
                go_ret
                exact ⟨SomeBool.mk _, rfl⟩

end Go.Proofs.Qxb6630379a
